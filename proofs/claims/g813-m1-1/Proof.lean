import JvmDerived
import JvmDerived.Pilot.@@N@@Statement
import JvmDerived.Pilot.@@N@@Code
set_option linter.unusedVariables false
set_option linter.unusedSimpArgs false
namespace Jvm.OwnRun
open Sem ClassFile Op Lib Jvm.Stand Jvm.Free Jvm.LawKit Jvm.RoadKit
/-- from T with the top frame g the method's run ends as Φ says -/
def Run (tb : Tables) (e : Env) (below : List Frame) (Φ : Outcome → State → Prop) (T : State) (g : JFrame) : Prop := ∃ s₂ o, Steps tb e below (T.setTop g) s₂ ∧ s₂.status = .running ∧ Ended s₂ below o ∧ Φ o s₂
/-- what a contract asks of the end -/
def FinR (s : State) (K N : Nat) (Q : Option Value → Heap → List Loc → Prop) : Outcome → State → Prop := fun o u => ∃ v L, o = .returned v ∧ Q v u.heap L ∧ FrameEnd s o u L K N
/-- a contract's word on its end, kept in one piece -/
abbrev Say (Q : Option Value → Heap → List Loc → Prop) (v : Option Value) (h : Heap) (L : List Loc) : Prop := Q v h L
section Steps
variable {p : Program} {l : Launch} {e : Env} {R : Room} {s : State} {m : MethodId} {args : Array Value} {below : List Frame} {meth : Method} {c : Code} {T : State} {locs : List Loc} {cells slots : Nat} {Φ : Outcome → State → Prop} {pc pc' : Nat} {Ls : Array Slot} {rest : List Value}
theorem Run.back {tb : Tables} {T' : State} {g g' : JFrame} (h : ∀ t, Steps tb e below (T'.setTop g') t → Steps tb e below (T.setTop g) t) (k : Run tb e below Φ T' g') : Run tb e below Φ T g := by
  obtain ⟨s₂, o, h1, h2⟩ := k
  exact ⟨s₂, o, h _ h1, h2⟩
theorem Run.fwd {tb : Tables} {T' : State} {g g' : JFrame} (h : Steps tb e below (T.setTop g) (T'.setTop g')) (k : Run tb e below Φ T' g') : Run tb e below Φ T g := k.back fun _ kt => h.trans kt
theorem Run.iload (X : Stand p l e R s m args below meth c T locs cells slots) (hx : p.tables.exec = Jvm.exec) {k : Nat} {v : Int32} (hd : decode c.code pc = .ok (.iload k, 2)) (hl : Ls[k]? = some (.val (.int v))) (hp : pc + 2 = pc') (k : Run p.tables e below Φ T (mkF m pc' Ls (.int v :: rest))) : Run p.tables e below Φ T (mkF m pc Ls rest) := by
  subst hp
  exact k.back fun _ kt => XS.iload X.here hx rfl hd hl kt
theorem Run.iloadN (X : Stand p l e R s m args below meth c T locs cells slots) (hx : p.tables.exec = Jvm.exec) {k : Fin 4} {v : Int32} (hd : decode c.code pc = .ok (.iload_n k, 1)) (hl : Ls[k.val]? = some (.val (.int v))) (hp : pc + 1 = pc') (k : Run p.tables e below Φ T (mkF m pc' Ls (.int v :: rest))) : Run p.tables e below Φ T (mkF m pc Ls rest) := by
  subst hp
  exact k.back fun _ kt => XS.iloadN X.here hx rfl hd hl kt
theorem Run.istore (X : Stand p l e R s m args below meth c T locs cells slots) (hx : p.tables.exec = Jvm.exec) {k : Nat} {v : Int32} {l' : Array Slot} (hd : decode c.code pc = .ok (.istore k, 2)) (hl : storeLocals Ls k (.int v) = some l') (hp : pc + 2 = pc') (k : Run p.tables e below Φ T (mkF m pc' l' rest)) : Run p.tables e below Φ T (mkF m pc Ls (.int v :: rest)) := by
  subst hp
  exact k.back fun _ kt => XS.istore X.here hx rfl hd rfl hl kt
theorem Run.istoreN (X : Stand p l e R s m args below meth c T locs cells slots) (hx : p.tables.exec = Jvm.exec) {k : Fin 4} {v : Int32} {l' : Array Slot} (hd : decode c.code pc = .ok (.istore_n k, 1)) (hl : storeLocals Ls k.val (.int v) = some l') (hp : pc + 1 = pc') (k : Run p.tables e below Φ T (mkF m pc' l' rest)) : Run p.tables e below Φ T (mkF m pc Ls (.int v :: rest)) := by
  subst hp
  exact k.back fun _ kt => XS.istoreN X.here hx rfl hd rfl hl kt
theorem Run.lload (X : Stand p l e R s m args below meth c T locs cells slots) (hx : p.tables.exec = Jvm.exec) {k : Nat} {v : Int64} (hd : decode c.code pc = .ok (.lload k, 2)) (hl : Ls[k]? = some (.val (.long v))) (hp : pc + 2 = pc') (k : Run p.tables e below Φ T (mkF m pc' Ls (.long v :: rest))) : Run p.tables e below Φ T (mkF m pc Ls rest) := by
  subst hp
  exact k.back fun _ kt => XS.lload X.here hx rfl hd hl kt
theorem Run.lloadN (X : Stand p l e R s m args below meth c T locs cells slots) (hx : p.tables.exec = Jvm.exec) {k : Fin 4} {v : Int64} (hd : decode c.code pc = .ok (.lload_n k, 1)) (hl : Ls[k.val]? = some (.val (.long v))) (hp : pc + 1 = pc') (k : Run p.tables e below Φ T (mkF m pc' Ls (.long v :: rest))) : Run p.tables e below Φ T (mkF m pc Ls rest) := by
  subst hp
  exact k.back fun _ kt => XS.lloadN X.here hx rfl hd hl kt
theorem Run.lstore (X : Stand p l e R s m args below meth c T locs cells slots) (hx : p.tables.exec = Jvm.exec) {k : Nat} {v : Int64} {l' : Array Slot} (hd : decode c.code pc = .ok (.lstore k, 2)) (hl : storeLocals Ls k (.long v) = some l') (hp : pc + 2 = pc') (k : Run p.tables e below Φ T (mkF m pc' l' rest)) : Run p.tables e below Φ T (mkF m pc Ls (.long v :: rest)) := by
  subst hp
  exact k.back fun _ kt => XS.lstore X.here hx rfl hd rfl hl kt
theorem Run.lstoreN (X : Stand p l e R s m args below meth c T locs cells slots) (hx : p.tables.exec = Jvm.exec) {k : Fin 4} {v : Int64} {l' : Array Slot} (hd : decode c.code pc = .ok (.lstore_n k, 1)) (hl : storeLocals Ls k.val (.long v) = some l') (hp : pc + 1 = pc') (k : Run p.tables e below Φ T (mkF m pc' l' rest)) : Run p.tables e below Φ T (mkF m pc Ls (.long v :: rest)) := by
  subst hp
  exact k.back fun _ kt => XS.lstoreN X.here hx rfl hd rfl hl kt
theorem Run.aload (X : Stand p l e R s m args below meth c T locs cells slots) (hx : p.tables.exec = Jvm.exec) {k : Nat} {v : Addr} (hd : decode c.code pc = .ok (.aload k, 2)) (hl : Ls[k]? = some (.val (.ref v))) (hp : pc + 2 = pc') (k : Run p.tables e below Φ T (mkF m pc' Ls (.ref v :: rest))) : Run p.tables e below Φ T (mkF m pc Ls rest) := by
  subst hp
  exact k.back fun _ kt => XS.aload X.here hx rfl hd hl rfl kt
theorem Run.aloadN (X : Stand p l e R s m args below meth c T locs cells slots) (hx : p.tables.exec = Jvm.exec) {k : Fin 4} {v : Addr} (hd : decode c.code pc = .ok (.aload_n k, 1)) (hl : Ls[k.val]? = some (.val (.ref v))) (hp : pc + 1 = pc') (k : Run p.tables e below Φ T (mkF m pc' Ls (.ref v :: rest))) : Run p.tables e below Φ T (mkF m pc Ls rest) := by
  subst hp
  exact k.back fun _ kt => XS.aloadN X.here hx rfl hd hl rfl kt
theorem Run.astore (X : Stand p l e R s m args below meth c T locs cells slots) (hx : p.tables.exec = Jvm.exec) {k : Nat} {v : Addr} {l' : Array Slot} (hd : decode c.code pc = .ok (.astore k, 2)) (hl : storeLocals Ls k (.ref v) = some l') (hp : pc + 2 = pc') (k : Run p.tables e below Φ T (mkF m pc' l' rest)) : Run p.tables e below Φ T (mkF m pc Ls (.ref v :: rest)) := by
  subst hp
  exact k.back fun _ kt => XS.astore X.here hx rfl hd rfl rfl hl kt
theorem Run.astoreN (X : Stand p l e R s m args below meth c T locs cells slots) (hx : p.tables.exec = Jvm.exec) {k : Fin 4} {v : Addr} {l' : Array Slot} (hd : decode c.code pc = .ok (.astore_n k, 1)) (hl : storeLocals Ls k.val (.ref v) = some l') (hp : pc + 1 = pc') (k : Run p.tables e below Φ T (mkF m pc' l' rest)) : Run p.tables e below Φ T (mkF m pc Ls (.ref v :: rest)) := by
  subst hp
  exact k.back fun _ kt => XS.astoreN X.here hx rfl hd rfl rfl hl kt
theorem Run.iconst (X : Stand p l e R s m args below meth c T locs cells slots) (hx : p.tables.exec = Jvm.exec) {i : Int} {v : Int32} (hd : decode c.code pc = .ok (.iconst i, 1)) (hv : Int32.ofInt i = v) (hp : pc + 1 = pc') (k : Run p.tables e below Φ T (mkF m pc' Ls (.int v :: rest))) : Run p.tables e below Φ T (mkF m pc Ls rest) := by
  subst hp
  exact k.back fun _ kt => XS.iconst X.here hx rfl hd (by rw [hv]; exact kt)
theorem Run.bipush (X : Stand p l e R s m args below meth c T locs cells slots) (hx : p.tables.exec = Jvm.exec) {i : Int} {v : Int32} (hd : decode c.code pc = .ok (.bipush i, 2)) (hv : (Int8.ofInt i).toInt32 = v) (hp : pc + 2 = pc') (k : Run p.tables e below Φ T (mkF m pc' Ls (.int v :: rest))) : Run p.tables e below Φ T (mkF m pc Ls rest) := by
  subst hp
  exact k.back fun _ kt => XS.bipush X.here hx rfl hd (by rw [hv]; exact kt)
theorem Run.sipush (X : Stand p l e R s m args below meth c T locs cells slots) (hx : p.tables.exec = Jvm.exec) {i : Int} {v : Int32} (hd : decode c.code pc = .ok (.sipush i, 3)) (hv : (Int16.ofInt i).toInt32 = v) (hp : pc + 3 = pc') (k : Run p.tables e below Φ T (mkF m pc' Ls (.int v :: rest))) : Run p.tables e below Φ T (mkF m pc Ls rest) := by
  subst hp
  exact k.back fun _ kt => XS.sipush X.here hx rfl hd (by rw [hv]; exact kt)
theorem Run.lconst (X : Stand p l e R s m args below meth c T locs cells slots) (hx : p.tables.exec = Jvm.exec) {i : Fin 2} {v : Int64} (hd : decode c.code pc = .ok (.lconst i, 1)) (hv : Int64.ofNat i = v) (hp : pc + 1 = pc') (k : Run p.tables e below Φ T (mkF m pc' Ls (.long v :: rest))) : Run p.tables e below Φ T (mkF m pc Ls rest) := by
  subst hp
  exact k.back fun _ kt => XS.lconst X.here hx rfl hd (by first | (rw [hv]; exact kt) | (rw [← hv] at kt; exact kt))
theorem Run.aconstNull (X : Stand p l e R s m args below meth c T locs cells slots) (hx : p.tables.exec = Jvm.exec) (hd : decode c.code pc = .ok (.aconst_null, 1)) (hp : pc + 1 = pc') (k : Run p.tables e below Φ T (mkF m pc' Ls (.null :: rest))) : Run p.tables e below Φ T (mkF m pc Ls rest) := by
  subst hp
  exact k.back fun _ kt => XS.aconstNull X.here hx rfl hd kt
theorem Run.iadd (X : Stand p l e R s m args below meth c T locs cells slots) (hx : p.tables.exec = Jvm.exec) {x y : Int32} (hd : decode c.code pc = .ok (.iadd, 1)) (hp : pc + 1 = pc') (k : Run p.tables e below Φ T (mkF m pc' Ls (.int (x + y) :: rest))) : Run p.tables e below Φ T (mkF m pc Ls (.int y :: .int x :: rest)) := by
  subst hp
  exact k.back fun _ kt => XS.iadd X.here hx rfl hd rfl kt
theorem Run.isub (X : Stand p l e R s m args below meth c T locs cells slots) (hx : p.tables.exec = Jvm.exec) {x y : Int32} (hd : decode c.code pc = .ok (.isub, 1)) (hp : pc + 1 = pc') (k : Run p.tables e below Φ T (mkF m pc' Ls (.int (x - y) :: rest))) : Run p.tables e below Φ T (mkF m pc Ls (.int y :: .int x :: rest)) := by
  subst hp
  exact k.back fun _ kt => XS.isub X.here hx rfl hd rfl kt
theorem Run.imul (X : Stand p l e R s m args below meth c T locs cells slots) (hx : p.tables.exec = Jvm.exec) {x y : Int32} (hd : decode c.code pc = .ok (.imul, 1)) (hp : pc + 1 = pc') (k : Run p.tables e below Φ T (mkF m pc' Ls (.int (x * y) :: rest))) : Run p.tables e below Φ T (mkF m pc Ls (.int y :: .int x :: rest)) := by
  subst hp
  exact k.back fun _ kt => XS.imul X.here hx rfl hd rfl kt
theorem Run.iand (X : Stand p l e R s m args below meth c T locs cells slots) (hx : p.tables.exec = Jvm.exec) {x y : Int32} (hd : decode c.code pc = .ok (.iand, 1)) (hp : pc + 1 = pc') (k : Run p.tables e below Φ T (mkF m pc' Ls (.int (x &&& y) :: rest))) : Run p.tables e below Φ T (mkF m pc Ls (.int y :: .int x :: rest)) := by
  subst hp
  exact k.back fun _ kt => XS.iand X.here hx rfl hd rfl kt
theorem Run.ior (X : Stand p l e R s m args below meth c T locs cells slots) (hx : p.tables.exec = Jvm.exec) {x y : Int32} (hd : decode c.code pc = .ok (.ior, 1)) (hp : pc + 1 = pc') (k : Run p.tables e below Φ T (mkF m pc' Ls (.int (x ||| y) :: rest))) : Run p.tables e below Φ T (mkF m pc Ls (.int y :: .int x :: rest)) := by
  subst hp
  exact k.back fun _ kt => XS.ior X.here hx rfl hd rfl kt
theorem Run.ixor (X : Stand p l e R s m args below meth c T locs cells slots) (hx : p.tables.exec = Jvm.exec) {x y : Int32} (hd : decode c.code pc = .ok (.ixor, 1)) (hp : pc + 1 = pc') (k : Run p.tables e below Φ T (mkF m pc' Ls (.int (x ^^^ y) :: rest))) : Run p.tables e below Φ T (mkF m pc Ls (.int y :: .int x :: rest)) := by
  subst hp
  exact k.back fun _ kt => XS.ixor X.here hx rfl hd rfl kt
theorem Run.idiv (X : Stand p l e R s m args below meth c T locs cells slots) (hx : p.tables.exec = Jvm.exec) {x y : Int32} (hd : decode c.code pc = .ok (.idiv, 1)) (hy : y ≠ 0) (hp : pc + 1 = pc') (k : Run p.tables e below Φ T (mkF m pc' Ls (.int (x / y) :: rest))) : Run p.tables e below Φ T (mkF m pc Ls (.int y :: .int x :: rest)) := by
  subst hp
  exact k.back fun _ kt => XS.idiv X.here hx rfl hd rfl hy kt
theorem Run.ladd (X : Stand p l e R s m args below meth c T locs cells slots) (hx : p.tables.exec = Jvm.exec) {x y : Int64} (hd : decode c.code pc = .ok (.ladd, 1)) (hp : pc + 1 = pc') (k : Run p.tables e below Φ T (mkF m pc' Ls (.long (x + y) :: rest))) : Run p.tables e below Φ T (mkF m pc Ls (.long y :: .long x :: rest)) := by
  subst hp
  exact k.back fun _ kt => XS.ladd X.here hx rfl hd rfl kt
theorem Run.lsub (X : Stand p l e R s m args below meth c T locs cells slots) (hx : p.tables.exec = Jvm.exec) {x y : Int64} (hd : decode c.code pc = .ok (.lsub, 1)) (hp : pc + 1 = pc') (k : Run p.tables e below Φ T (mkF m pc' Ls (.long (x - y) :: rest))) : Run p.tables e below Φ T (mkF m pc Ls (.long y :: .long x :: rest)) := by
  subst hp
  exact k.back fun _ kt => XS.lsub X.here hx rfl hd rfl kt
theorem Run.lmul (X : Stand p l e R s m args below meth c T locs cells slots) (hx : p.tables.exec = Jvm.exec) {x y : Int64} (hd : decode c.code pc = .ok (.lmul, 1)) (hp : pc + 1 = pc') (k : Run p.tables e below Φ T (mkF m pc' Ls (.long (x * y) :: rest))) : Run p.tables e below Φ T (mkF m pc Ls (.long y :: .long x :: rest)) := by
  subst hp
  exact k.back fun _ kt => XS.lmul X.here hx rfl hd rfl kt
theorem Run.land (X : Stand p l e R s m args below meth c T locs cells slots) (hx : p.tables.exec = Jvm.exec) {x y : Int64} (hd : decode c.code pc = .ok (.land, 1)) (hp : pc + 1 = pc') (k : Run p.tables e below Φ T (mkF m pc' Ls (.long (x &&& y) :: rest))) : Run p.tables e below Φ T (mkF m pc Ls (.long y :: .long x :: rest)) := by
  subst hp
  exact k.back fun _ kt => XS.land X.here hx rfl hd rfl kt
theorem Run.lor (X : Stand p l e R s m args below meth c T locs cells slots) (hx : p.tables.exec = Jvm.exec) {x y : Int64} (hd : decode c.code pc = .ok (.lor, 1)) (hp : pc + 1 = pc') (k : Run p.tables e below Φ T (mkF m pc' Ls (.long (x ||| y) :: rest))) : Run p.tables e below Φ T (mkF m pc Ls (.long y :: .long x :: rest)) := by
  subst hp
  exact k.back fun _ kt => XS.lor X.here hx rfl hd rfl kt
theorem Run.lxor (X : Stand p l e R s m args below meth c T locs cells slots) (hx : p.tables.exec = Jvm.exec) {x y : Int64} (hd : decode c.code pc = .ok (.lxor, 1)) (hp : pc + 1 = pc') (k : Run p.tables e below Φ T (mkF m pc' Ls (.long (x ^^^ y) :: rest))) : Run p.tables e below Φ T (mkF m pc Ls (.long y :: .long x :: rest)) := by
  subst hp
  exact k.back fun _ kt => XS.lxor X.here hx rfl hd rfl kt
theorem Run.ldiv (X : Stand p l e R s m args below meth c T locs cells slots) (hx : p.tables.exec = Jvm.exec) {x y : Int64} (hd : decode c.code pc = .ok (.ldiv, 1)) (hy : y ≠ 0) (hp : pc + 1 = pc') (k : Run p.tables e below Φ T (mkF m pc' Ls (.long (x / y) :: rest))) : Run p.tables e below Φ T (mkF m pc Ls (.long y :: .long x :: rest)) := by
  subst hp
  exact k.back fun _ kt => XS.ldiv X.here hx rfl hd rfl hy kt
theorem Run.irem (X : Stand p l e R s m args below meth c T locs cells slots) (hx : p.tables.exec = Jvm.exec) {x y : Int32} (hd : decode c.code pc = .ok (.irem, 1)) (hy : y ≠ 0) (hp : pc + 1 = pc') (k : Run p.tables e below Φ T (mkF m pc' Ls (.int (x % y) :: rest))) : Run p.tables e below Φ T (mkF m pc Ls (.int y :: .int x :: rest)) := by
  subst hp
  exact k.back fun _ kt => iremM X hx rfl hd rfl hy kt
theorem Run.ishl (X : Stand p l e R s m args below meth c T locs cells slots) (hx : p.tables.exec = Jvm.exec) {x : Int32} {y : Int32} (hd : decode c.code pc = .ok (.ishl, 1)) (hp : pc + 1 = pc') (k : Run p.tables e below Φ T (mkF m pc' Ls (.int (x <<< (y &&& 31)) :: rest))) : Run p.tables e below Φ T (mkF m pc Ls (.int y :: .int x :: rest)) := by
  subst hp
  exact k.back fun _ kt => XS.ishl X.here hx rfl hd rfl kt
theorem Run.ishr (X : Stand p l e R s m args below meth c T locs cells slots) (hx : p.tables.exec = Jvm.exec) {x : Int32} {y : Int32} (hd : decode c.code pc = .ok (.ishr, 1)) (hp : pc + 1 = pc') (k : Run p.tables e below Φ T (mkF m pc' Ls (.int (x >>> (y &&& 31)) :: rest))) : Run p.tables e below Φ T (mkF m pc Ls (.int y :: .int x :: rest)) := by
  subst hp
  exact k.back fun _ kt => XS.ishr X.here hx rfl hd rfl kt
theorem Run.iushr (X : Stand p l e R s m args below meth c T locs cells slots) (hx : p.tables.exec = Jvm.exec) {x : Int32} {y : Int32} (hd : decode c.code pc = .ok (.iushr, 1)) (hp : pc + 1 = pc') (k : Run p.tables e below Φ T (mkF m pc' Ls (.int ((x.toUInt32 >>> (y &&& 31).toUInt32).toInt32) :: rest))) : Run p.tables e below Φ T (mkF m pc Ls (.int y :: .int x :: rest)) := by
  subst hp
  exact k.back fun _ kt => XS.iushr X.here hx rfl hd rfl kt
theorem Run.lshl (X : Stand p l e R s m args below meth c T locs cells slots) (hx : p.tables.exec = Jvm.exec) {x : Int64} {y : Int32} (hd : decode c.code pc = .ok (.lshl, 1)) (hp : pc + 1 = pc') (k : Run p.tables e below Φ T (mkF m pc' Ls (.long (x <<< (y &&& 0x3f).toInt64) :: rest))) : Run p.tables e below Φ T (mkF m pc Ls (.int y :: .long x :: rest)) := by
  subst hp
  exact k.back fun _ kt => XS.lshl X.here hx rfl hd rfl kt
theorem Run.lshr (X : Stand p l e R s m args below meth c T locs cells slots) (hx : p.tables.exec = Jvm.exec) {x : Int64} {y : Int32} (hd : decode c.code pc = .ok (.lshr, 1)) (hp : pc + 1 = pc') (k : Run p.tables e below Φ T (mkF m pc' Ls (.long (x >>> (y &&& 0x3f).toInt64) :: rest))) : Run p.tables e below Φ T (mkF m pc Ls (.int y :: .long x :: rest)) := by
  subst hp
  exact k.back fun _ kt => XS.lshr X.here hx rfl hd rfl kt
theorem Run.lushr (X : Stand p l e R s m args below meth c T locs cells slots) (hx : p.tables.exec = Jvm.exec) {x : Int64} {y : Int32} (hd : decode c.code pc = .ok (.lushr, 1)) (hp : pc + 1 = pc') (k : Run p.tables e below Φ T (mkF m pc' Ls (.long ((x.toUInt64 >>> (y &&& 0x3f).toInt64.toUInt64).toInt64) :: rest))) : Run p.tables e below Φ T (mkF m pc Ls (.int y :: .long x :: rest)) := by
  subst hp
  exact k.back fun _ kt => XS.lushr X.here hx rfl hd rfl kt
theorem Run.i2l (X : Stand p l e R s m args below meth c T locs cells slots) (hx : p.tables.exec = Jvm.exec) {x : Int32} (hd : decode c.code pc = .ok (.i2l, 1)) (hp : pc + 1 = pc') (k : Run p.tables e below Φ T (mkF m pc' Ls (.long (x.toInt64) :: rest))) : Run p.tables e below Φ T (mkF m pc Ls (.int x :: rest)) := by
  subst hp
  exact k.back fun _ kt => XS.i2l X.here hx rfl hd rfl kt
theorem Run.l2i (X : Stand p l e R s m args below meth c T locs cells slots) (hx : p.tables.exec = Jvm.exec) {x : Int64} (hd : decode c.code pc = .ok (.l2i, 1)) (hp : pc + 1 = pc') (k : Run p.tables e below Φ T (mkF m pc' Ls (.int (x.toInt32) :: rest))) : Run p.tables e below Φ T (mkF m pc Ls (.long x :: rest)) := by
  subst hp
  exact k.back fun _ kt => XS.l2i X.here hx rfl hd rfl kt
theorem Run.i2b (X : Stand p l e R s m args below meth c T locs cells slots) (hx : p.tables.exec = Jvm.exec) {x : Int32} (hd : decode c.code pc = .ok (.i2b, 1)) (hp : pc + 1 = pc') (k : Run p.tables e below Φ T (mkF m pc' Ls (.int (x.toInt8.toInt32) :: rest))) : Run p.tables e below Φ T (mkF m pc Ls (.int x :: rest)) := by
  subst hp
  exact k.back fun _ kt => XS.i2b X.here hx rfl hd rfl kt
theorem Run.i2s (X : Stand p l e R s m args below meth c T locs cells slots) (hx : p.tables.exec = Jvm.exec) {x : Int32} (hd : decode c.code pc = .ok (.i2s, 1)) (hp : pc + 1 = pc') (k : Run p.tables e below Φ T (mkF m pc' Ls (.int (x.toInt16.toInt32) :: rest))) : Run p.tables e below Φ T (mkF m pc Ls (.int x :: rest)) := by
  subst hp
  exact k.back fun _ kt => XS.i2s X.here hx rfl hd rfl kt
theorem Run.i2c (X : Stand p l e R s m args below meth c T locs cells slots) (hx : p.tables.exec = Jvm.exec) {x : Int32} (hd : decode c.code pc = .ok (.i2c, 1)) (hp : pc + 1 = pc') (k : Run p.tables e below Φ T (mkF m pc' Ls (.int (x.toUInt32.toUInt16.toUInt32.toInt32) :: rest))) : Run p.tables e below Φ T (mkF m pc Ls (.int x :: rest)) := by
  subst hp
  exact k.back fun _ kt => XS.i2c X.here hx rfl hd rfl kt
theorem Run.ineg (X : Stand p l e R s m args below meth c T locs cells slots) (hx : p.tables.exec = Jvm.exec) {x : Int32} (hd : decode c.code pc = .ok (.ineg, 1)) (hp : pc + 1 = pc') (k : Run p.tables e below Φ T (mkF m pc' Ls (.int (-x) :: rest))) : Run p.tables e below Φ T (mkF m pc Ls (.int x :: rest)) := by
  subst hp
  exact k.back fun _ kt => XS.ineg X.here hx rfl hd rfl kt
theorem Run.lcmp (X : Stand p l e R s m args below meth c T locs cells slots) (hx : p.tables.exec = Jvm.exec) {x y : Int64} (hd : decode c.code pc = .ok (.lcmp, 1)) (hp : pc + 1 = pc') (k : Run p.tables e below Φ T (mkF m pc' Ls (.int (lcmpW x y) :: rest))) : Run p.tables e below Φ T (mkF m pc Ls (.long y :: .long x :: rest)) := by
  subst hp
  exact k.back fun _ kt => XS.lcmp X.here hx rfl hd rfl kt
theorem Run.dup (X : Stand p l e R s m args below meth c T locs cells slots) (hx : p.tables.exec = Jvm.exec) {x : Value} (hd : decode c.code pc = .ok (.dup, 1)) (hc : x.category = 1) (hp : pc + 1 = pc') (k : Run p.tables e below Φ T (mkF m pc' Ls (x :: x :: rest))) : Run p.tables e below Φ T (mkF m pc Ls (x :: rest)) := by
  subst hp
  exact k.back fun _ kt => XS.dup X.here hx rfl hd rfl hc kt
theorem Run.dupX1 (X : Stand p l e R s m args below meth c T locs cells slots) (hx : p.tables.exec = Jvm.exec) {x y : Value} (hd : decode c.code pc = .ok (.dup_x1, 1)) (hc : x.category = 1) (hc2 : y.category = 1) (hp : pc + 1 = pc') (k : Run p.tables e below Φ T (mkF m pc' Ls (x :: y :: x :: rest))) : Run p.tables e below Φ T (mkF m pc Ls (x :: y :: rest)) := by
  subst hp
  exact k.back fun _ kt => XS.dupX1 X.here hx rfl hd rfl hc hc2 kt
theorem Run.pop (X : Stand p l e R s m args below meth c T locs cells slots) (hx : p.tables.exec = Jvm.exec) {x : Value} (hd : decode c.code pc = .ok (.pop, 1)) (hc : x.category = 1) (hp : pc + 1 = pc') (k : Run p.tables e below Φ T (mkF m pc' Ls rest)) : Run p.tables e below Φ T (mkF m pc Ls (x :: rest)) := by
  subst hp
  exact k.back fun _ kt => XS.pop X.here hx rfl hd rfl hc kt
theorem Run.iinc (X : Stand p l e R s m args below meth c T locs cells slots) (hx : p.tables.exec = Jvm.exec) {n : Nat} {i : Int} {v w : Int32} {l' : Array Slot} (hd : decode c.code pc = .ok (.iinc n i, 3)) (hl : Ls[n]? = some (.val (.int v))) (hv : Int32.ofInt i = w) (hl' : storeLocals Ls n (.int (v + w)) = some l') (hp : pc + 3 = pc') (k : Run p.tables e below Φ T (mkF m pc' l' rest)) : Run p.tables e below Φ T (mkF m pc Ls rest) := by
  subst hp
  exact k.back fun _ kt => XS.iinc X.here hx rfl hd hl (by rw [hv]; exact hl') kt
theorem Run.goto (X : Stand p l e R s m args below meth c T locs cells slots) (hx : p.tables.exec = Jvm.exec) {o : Int} (hd : decode c.code pc = .ok (.goto o, 3)) (ho : 0 ≤ (pc : Int) + o) (hp : ((pc : Int) + o).toNat = pc') (k : Run p.tables e below Φ T (mkF m pc' Ls rest)) : Run p.tables e below Φ T (mkF m pc Ls rest) := k.back fun _ kt => XS.goto X.here hx rfl rfl hd ho hp kt
theorem Run.ifYes (X : Stand p l e R s m args below meth c T locs cells slots) (hx : p.tables.exec = Jvm.exec) {cd : ClassFile.Cond} {o : Int} {x : Int32} (hd : decode c.code pc = .ok (.ifCond cd o, 3)) (hc : ifCond.holds cd x = true) (ho : 0 ≤ (pc : Int) + o) (hp : ((pc : Int) + o).toNat = pc') (k : Run p.tables e below Φ T (mkF m pc' Ls rest)) : Run p.tables e below Φ T (mkF m pc Ls (.int x :: rest)) := k.back fun _ kt => XS.ifYes X.here hx rfl rfl hd rfl hc ho hp kt
theorem Run.ifNo (X : Stand p l e R s m args below meth c T locs cells slots) (hx : p.tables.exec = Jvm.exec) {cd : ClassFile.Cond} {o : Int} {x : Int32} (hd : decode c.code pc = .ok (.ifCond cd o, 3)) (hc : ifCond.holds cd x = false) (hp : pc + 3 = pc') (k : Run p.tables e below Φ T (mkF m pc' Ls rest)) : Run p.tables e below Φ T (mkF m pc Ls (.int x :: rest)) := by
  subst hp
  exact k.back fun _ kt => XS.ifNo X.here hx rfl hd rfl hc kt
theorem Run.icmpYes (X : Stand p l e R s m args below meth c T locs cells slots) (hx : p.tables.exec = Jvm.exec) {cd : ClassFile.Cond} {o : Int} {x y : Int32} (hd : decode c.code pc = .ok (.if_icmp cd o, 3)) (hc : if_icmp.holds cd x y = true) (ho : 0 ≤ (pc : Int) + o) (hp : ((pc : Int) + o).toNat = pc') (k : Run p.tables e below Φ T (mkF m pc' Ls rest)) : Run p.tables e below Φ T (mkF m pc Ls (.int y :: .int x :: rest)) := k.back fun _ kt => XS.icmpYes X.here hx rfl rfl hd rfl hc ho hp kt
theorem Run.icmpNo (X : Stand p l e R s m args below meth c T locs cells slots) (hx : p.tables.exec = Jvm.exec) {cd : ClassFile.Cond} {o : Int} {x y : Int32} (hd : decode c.code pc = .ok (.if_icmp cd o, 3)) (hc : if_icmp.holds cd x y = false) (hp : pc + 3 = pc') (k : Run p.tables e below Φ T (mkF m pc' Ls rest)) : Run p.tables e below Φ T (mkF m pc Ls (.int y :: .int x :: rest)) := by
  subst hp
  exact k.back fun _ kt => XS.icmpNo X.here hx rfl hd rfl hc kt
theorem Run.acmpYes (X : Stand p l e R s m args below meth c T locs cells slots) (hx : p.tables.exec = Jvm.exec) {cd : ACond} {o : Int} {a b : Addr} (hd : decode c.code pc = .ok (.if_acmp cd o, 3)) (hc : if_acmp.holds cd (some a) (some b) = true) (ho : 0 ≤ (pc : Int) + o) (hp : ((pc : Int) + o).toNat = pc') (k : Run p.tables e below Φ T (mkF m pc' Ls rest)) : Run p.tables e below Φ T (mkF m pc Ls (.ref b :: .ref a :: rest)) := k.back fun _ kt => XS.acmpYes X.here hx rfl rfl hd rfl hc ho hp kt
theorem Run.acmpNo (X : Stand p l e R s m args below meth c T locs cells slots) (hx : p.tables.exec = Jvm.exec) {cd : ACond} {o : Int} {a b : Addr} (hd : decode c.code pc = .ok (.if_acmp cd o, 3)) (hc : if_acmp.holds cd (some a) (some b) = false) (hp : pc + 3 = pc') (k : Run p.tables e below Φ T (mkF m pc' Ls rest)) : Run p.tables e below Φ T (mkF m pc Ls (.ref b :: .ref a :: rest)) := by
  subst hp
  exact k.back fun _ kt => XS.acmpNo X.here hx rfl hd rfl hc kt
theorem own_acmpEqT {a b : Addr} (h : a = b) : if_acmp.holds .eq (some a) (some b) = true := by subst h; simp [if_acmp.holds]
theorem own_acmpEqF {a b : Addr} (h : ¬ a = b) : if_acmp.holds .eq (some a) (some b) = false := by simp [if_acmp.holds, h]
theorem own_acmpNeT {a b : Addr} (h : a = b) : if_acmp.holds .ne (some a) (some b) = false := by subst h; simp [if_acmp.holds]
theorem own_acmpNeF {a b : Addr} (h : ¬ a = b) : if_acmp.holds .ne (some a) (some b) = true := by simp [if_acmp.holds, h]
theorem Run.ldcInt (X : Stand p l e R s m args below meth c T locs cells slots) (hx : p.tables.exec = Jvm.exec) {own : String} {index : Nat} {v : Int32} (hown : s.vm.findClass own = some m.cls) (hconst : (Cond.constant own index v).before args s = true) (hd : decode c.code pc = .ok (.ldc index, 2)) (hp : pc + 2 = pc') (k : Run p.tables e below Φ T (mkF m pc' Ls (.int v :: rest))) : Run p.tables e below Φ T (mkF m pc Ls rest) := by
  subst hp
  exact k.back fun _ kt => X.ldcInt hx hown hconst (g := mkF m pc Ls rest) rfl hd _ kt
theorem Run.ldc2Long (X : Stand p l e R s m args below meth c T locs cells slots) (hx : p.tables.exec = Jvm.exec) {own : String} {index : Nat} {v : Int64} (hown : s.vm.findClass own = some m.cls) (hconst : (Cond.constantLong own index v).before args s = true) (hd : decode c.code pc = .ok (.ldc2_w index, 3)) (hp : pc + 3 = pc') (k : Run p.tables e below Φ T (mkF m pc' Ls (.long v :: rest))) : Run p.tables e below Φ T (mkF m pc Ls rest) := by
  subst hp
  exact k.back fun _ kt => X.ldc2Long hx hown hconst (g := mkF m pc Ls rest) rfl hd _ kt
theorem Run.switchHit (X : Stand p l e R s m args below meth c T locs cells slots) (hx : p.tables.exec = Jvm.exec) {default : Int} {pairs : Array (Int × Int)} {len : Nat} {a off : Int} {z : Int32} (hd : decode c.code pc = .ok (.lookupswitch default pairs, len)) (hs : (pairs.toList.zip (pairs.toList.drop 1)).all (fun (a, next) => a.1 < next.1) = true) (hf : pairs.find? (·.1 == z.toInt) = some (a, off)) (ho : 0 ≤ (pc : Int) + off) (hp : ((pc : Int) + off).toNat = pc') (k : Run p.tables e below Φ T (mkF m pc' Ls rest)) : Run p.tables e below Φ T (mkF m pc Ls (.int z :: rest)) := by
  subst hp
  exact k.back fun _ kt => X.lookupswitchHit hx (g := mkF m pc Ls (.int z :: rest)) rfl rfl hd hs hf ho _ kt
theorem Run.switchMiss (X : Stand p l e R s m args below meth c T locs cells slots) (hx : p.tables.exec = Jvm.exec) {default : Int} {pairs : Array (Int × Int)} {len : Nat} {z : Int32} (hd : decode c.code pc = .ok (.lookupswitch default pairs, len)) (hs : (pairs.toList.zip (pairs.toList.drop 1)).all (fun (a, next) => a.1 < next.1) = true) (hf : pairs.find? (·.1 == z.toInt) = none) (ho : 0 ≤ (pc : Int) + default) (hp : ((pc : Int) + default).toNat = pc') (k : Run p.tables e below Φ T (mkF m pc' Ls rest)) : Run p.tables e below Φ T (mkF m pc Ls (.int z :: rest)) := by
  subst hp
  exact k.back fun _ kt => X.lookupswitchMiss hx (g := mkF m pc Ls (.int z :: rest)) rfl rfl hd hs hf ho _ kt
/-- a body that writes nothing returns r -/
abbrev QPure (n0 : Nat) (h0 : Heap) (r : Value) : Option Value → Heap → List Loc → Prop := fun v h L => v = some r ∧ Fr n0 L ∧ h = h0
theorem Run.retInt (X : Stand p l e R s m args below meth c T locs cells slots) (hx : p.tables.exec = Jvm.exec) {K N : Nat} {Q : Option Value → Heap → List Loc → Prop} {z : Int32} (hlk : meth.locks = false) (hret : meth.sig.returnType = some .int) (hd : decode c.code pc = .ok (.ireturn, 1)) (hQ : Q (some (.int z)) T.heap locs) (hc : cells ≤ K) (hn : slots ≤ N) : Run p.tables e below (FinR s K N Q) T (mkF m pc Ls (.int z :: rest)) := by
  obtain ⟨fs, hr, hrun, hended, hW, hsame⟩ := X.leave (v := (some (.int z))) (fun h => by rw [hret] at h; cases h) hlk
  exact ⟨_, _, retOut X hx hret rfl (Or.inl ⟨rfl, Or.inl rfl, z, rfl⟩) hd hr, hrun, hended, _, _, rfl, hQ, ⟨_, rfl⟩, hW, hsame.mono hc hn⟩
theorem Run.retLong (X : Stand p l e R s m args below meth c T locs cells slots) (hx : p.tables.exec = Jvm.exec) {K N : Nat} {Q : Option Value → Heap → List Loc → Prop} {z : Int64} (hlk : meth.locks = false) (hret : meth.sig.returnType = some .long) (hd : decode c.code pc = .ok (.lreturn, 1)) (hQ : Q (some (.long z)) T.heap locs) (hc : cells ≤ K) (hn : slots ≤ N) : Run p.tables e below (FinR s K N Q) T (mkF m pc Ls (.long z :: rest)) := by
  obtain ⟨fs, hr, hrun, hended, hW, hsame⟩ := X.leave (v := (some (.long z))) (fun h => by rw [hret] at h; cases h) hlk
  exact ⟨_, _, retOut X hx hret rfl (Or.inr (Or.inl ⟨rfl, rfl, z, rfl⟩)) hd hr, hrun, hended, _, _, rfl, hQ, ⟨_, rfl⟩, hW, hsame.mono hc hn⟩
theorem Run.retRef (X : Stand p l e R s m args below meth c T locs cells slots) (hx : p.tables.exec = Jvm.exec) {K N : Nat} {Q : Option Value → Heap → List Loc → Prop} {z : Addr} {t : FieldType} (hlk : meth.locks = false) (hret : meth.sig.returnType = some t) (ht : t.isReference = true) (hnr : narrow t (.ref z) = .ref z) (hd : decode c.code pc = .ok (.areturn, 1)) (hQ : Q (some (.ref z)) T.heap locs) (hc : cells ≤ K) (hn : slots ≤ N) : Run p.tables e below (FinR s K N Q) T (mkF m pc Ls (.ref z :: rest)) := by
  obtain ⟨fs, hr, hrun, hended, hW, hsame⟩ := X.leave (v := (some (.ref z))) (fun h => by rw [hret] at h; cases h) hlk
  exact ⟨_, _, retOut X hx hret hnr (Or.inr (Or.inr (Or.inr (Or.inr ⟨rfl, ht, rfl⟩)))) hd hr, hrun, hended, _, _, rfl, hQ, ⟨_, rfl⟩, hW, hsame.mono hc hn⟩
theorem Run.retSmall (X : Stand p l e R s m args below meth c T locs cells slots) (hx : p.tables.exec = Jvm.exec) {K N : Nat} {Q : Option Value → Heap → List Loc → Prop} {z z' : Int32} {t : FieldType} (hlk : meth.locks = false) (hret : meth.sig.returnType = some t) (ht : t = .boolean ∨ t = .byte ∨ t = .char ∨ t = .short) (hz : nar t z = z') (hd : decode c.code pc = .ok (.ireturn, 1)) (hQ : Q (some (.int z')) T.heap locs) (hc : cells ≤ K) (hn : slots ≤ N) : Run p.tables e below (FinR s K N Q) T (mkF m pc Ls (.int z :: rest)) := by
  obtain ⟨fs, hr, hrun, hended, hW, hsame⟩ := X.leave (v := (some (.int z'))) (fun h => by rw [hret] at h; cases h) hlk
  exact ⟨_, _, RoadKit.retN X hx hret ht hd (by rw [hz]; exact hr), hrun, hended, _, _, rfl, hQ, ⟨_, rfl⟩, hW, hsame.mono hc hn⟩
theorem Run.retVoid (X : Stand p l e R s m args below meth c T locs cells slots) (hx : p.tables.exec = Jvm.exec) {K N : Nat} {Q : Option Value → Heap → List Loc → Prop} (hlk : meth.locks = false) (hret : meth.sig.returnType = none) (hd : decode c.code pc = .ok (.return_, 1)) (hQ : Q none T.heap locs) (hc : cells ≤ K) (hn : slots ≤ N) : Run p.tables e below (FinR s K N Q) T (mkF m pc Ls []) := by
  obtain ⟨fs, hr, hrun, hended, hW, hsame⟩ := X.leave (v := none) (fun _ => rfl) hlk
  exact ⟨_, _, X.returnOut hx hret hd hr, hrun, hended, _, _, rfl, hQ, ⟨_, rfl⟩, hW, hsame.mono hc hn⟩
theorem callStatic (X : Stand p l e R s m args below meth c T locs cells slots) (hx : p.tables.exec = Jvm.exec) {a0 : Array Value} {Z : State} {h : Heap} {own : String} {index : Nat} {bytes : ByteArray} {maxL : Nat} {ret : Option FieldType} {rm : Room} {W : Nat} {Qc : Option Value → Heap → List Loc → Prop} {y : MethodName} {argsL : List Value} (hZ : Z.Warmed39 s.vm) (hown : s.vm.findClass own = some m.cls) (w1 : (Cond.methodLink own index y).before a0 Z = true) (w2 : (Cond.static y).before a0 Z = true) (w3 : (Cond.initialized y.cls).before a0 Z = true) (w4 : (Cond.code y bytes maxL ret).before a0 Z = true) (hy : y.cls ≠ "java/lang/invoke/MethodHandle" ∧ y.cls ≠ "java/lang/invoke/VarHandle") (eT : T.heap = h) (hM : MetFree l y (head1 [Cond.code y bytes maxL ret] rm) (fun av U => av = argsL.toArray ∧ Z.Warmed39 U.vm ∧ U.heap = h) (fun _ _ _ _ _ => True) (fun _ U o U' => ∃ v L, o = .returned v ∧ Qc v U'.heap L ∧ FrameEnd U o U' L rm.cells rm.slots)) (hd : decode c.code pc = .ok (.invokestatic index, 3)) (hlen : ∀ sig, parseMethodDescriptor y.desc = some sig → argsL.length = sig.parameters.length) (hf : rm.frames + 1 ≤ R.frames) (hl : W + (maxL + 11) + rm.locals ≤ R.locals) (hsize : Ls.size = c.maxLocals) (hW : (rest.map fun v => v.category).sum ≤ W) (hcs : cells + rm.cells ≤ R.cells) (hss : slots + rm.slots ≤ R.slots) :
    ∃ (T' : State) (L : List Loc) (v : Option Value), Stand p l e R s m args below meth c T' (locs ++ L) (cells + rm.cells) (slots + rm.slots) ∧ Qc v T'.heap L ∧ ∀ t, Steps p.tables e below (T'.setTop (mkF m (pc + 3) Ls (v.toList ++ rest))) t → Steps p.tables e below (T.setTop (mkF m pc Ls (argsL.reverse ++ rest))) t := by
  obtain ⟨v, vm, ⟨T', L', k', n'⟩, -, X', ⟨L, hQ, l1, l2, l3⟩, st⟩ := Jvm.LawKit.callS X hx (y := y) hown (mvT hZ w1) (mvT hZ w2) (mvT hZ w3) (mvT hZ w4) hy (backOf (W := W) hM hZ w4 w3 hf hl) (g := mkF m pc Ls (argsL.reverse ++ rest)) rfl hsize (argsL := argsL) (rest := rest) hlen rfl (by show 2 * 0 + _ ≤ _; omega) hd (fun _ _ => ⟨rfl, eT, hcs, hss⟩)
  dsimp only [Pt.U, Pt.locs, Pt.cells, Pt.slots] at X' hQ l1 l2 l3 st
  subst l1 l2 l3
  exact ⟨T', L, v, X', hQ, st⟩
theorem callSpecial (X : Stand p l e R s m args below meth c T locs cells slots) (hx : p.tables.exec = Jvm.exec) {a0 : Array Value} {Z : State} {h : Heap} {own : String} {index : Nat} {bytes : ByteArray} {maxL : Nat} {rm : Room} {W : Nat} {Qc : Option Value → Heap → List Loc → Prop} {y : MethodName} {a : Addr} {argsL : List Value} (hy1 : y.name = "<init>") (hZ : Z.Warmed39 s.vm) (hown : s.vm.findClass own = some m.cls) (w1 : (Cond.methodLink own index y).before a0 Z = true) (w2 : (Cond.instanceMethod y).before a0 Z = true) (w3 : (Cond.initialized y.cls).before a0 Z = true) (w4 : (Cond.code y bytes maxL none).before a0 Z = true) (hy : y.cls ≠ "java/lang/invoke/MethodHandle" ∧ y.cls ≠ "java/lang/invoke/VarHandle") (eT : T.heap = h) (hM : MetFree l y (head1 [Cond.code y bytes maxL none] rm) (fun av U => av = (.ref a :: argsL).toArray ∧ Z.Warmed39 U.vm ∧ U.heap = h) (fun _ _ _ _ _ => True) (fun _ U o U' => ∃ v L, o = .returned v ∧ Qc v U'.heap L ∧ FrameEnd U o U' L rm.cells rm.slots)) (hd : decode c.code pc = .ok (.invokespecial index, 3)) (hlen : ∀ sig, parseMethodDescriptor y.desc = some sig → argsL.length = sig.parameters.length) (hf : rm.frames + 1 ≤ R.frames) (hl : W + (maxL + 11) + rm.locals ≤ R.locals) (hsize : Ls.size = c.maxLocals) (hW : (rest.map fun v => v.category).sum ≤ W) (hcs : cells + rm.cells ≤ R.cells) (hss : slots + rm.slots ≤ R.slots) :
    ∃ (T' : State) (L : List Loc) (v : Option Value), Stand p l e R s m args below meth c T' (locs ++ L) (cells + rm.cells) (slots + rm.slots) ∧ Qc v T'.heap L ∧ ∀ t, Steps p.tables e below (T'.setTop (mkF m (pc + 3) Ls (v.toList ++ rest))) t → Steps p.tables e below (T.setTop (mkF m pc Ls (argsL.reverse ++ .ref a :: rest))) t := by
  obtain ⟨v, vm, ⟨T', L', k', n'⟩, -, X', ⟨L, hQ, l1, l2, l3⟩, st⟩ := X.specialBack hx (y := y) hy1 hown (mvT hZ w1) (mvT hZ w2) (mvT hZ w4) hy (backOf (W := W) hM hZ w4 w3 hf hl) (g := mkF m pc Ls (argsL.reverse ++ .ref a :: rest)) rfl hsize (Steps.refl _) (a := a) (argsL := argsL) (rest := rest) hlen rfl (by show 2 * 0 + _ ≤ _; omega) hd (fun _ _ => ⟨rfl, eT, hcs, hss⟩)
  dsimp only [Pt.U, Pt.locs, Pt.cells, Pt.slots] at X' hQ l1 l2 l3 st
  subst l1 l2 l3
  exact ⟨T', L, v, X', hQ, fun t kt => st.trans kt⟩
theorem callVirtual (X : Stand p l e R s m args below meth c T locs cells slots) (hx : p.tables.exec = Jvm.exec) {a0 : Array Value} {Z : State} {h : Heap} {own : String} {index : Nat} {bytes : ByteArray} {maxL : Nat} {ret : Option FieldType} {rm : Room} {W : Nat} {Qc : Option Value → Heap → List Loc → Prop} {y z : MethodName} {C : String} {a : Addr} {argsL : List Value} (hZ : Z.Warmed39 s.vm) (hown : s.vm.findClass own = some m.cls) (w1 : (Cond.methodLink own index y).before a0 Z = true) (w2 : (Cond.declares y).before a0 Z = true) (hnf : NotFace s y) (w5 : (Cond.selects C y z).before a0 Z = true) (w6 : (Cond.instanceMethod z).before a0 Z = true) (w3 : (Cond.initialized z.cls).before a0 Z = true) (w4 : (Cond.code z bytes maxL ret).before a0 Z = true) (hy : y.cls ≠ "java/lang/invoke/MethodHandle" ∧ y.cls ≠ "java/lang/invoke/VarHandle") (eT : T.heap = h) (E : Exa Z h a C) (hM : MetFree l z (head1 [Cond.code z bytes maxL ret] rm) (fun av U => av = (.ref a :: argsL).toArray ∧ Z.Warmed39 U.vm ∧ U.heap = h) (fun _ _ _ _ _ => True) (fun _ U o U' => ∃ v L, o = .returned v ∧ Qc v U'.heap L ∧ FrameEnd U o U' L rm.cells rm.slots)) (hd : decode c.code pc = .ok (.invokevirtual index, 3)) (hlen : ∀ sig, parseMethodDescriptor y.desc = some sig → argsL.length = sig.parameters.length) (hf : rm.frames + 1 ≤ R.frames) (hl : W + (maxL + 11) + rm.locals ≤ R.locals) (hsize : Ls.size = c.maxLocals) (hW : (rest.map fun v => v.category).sum ≤ W) (hcs : cells + rm.cells ≤ R.cells) (hss : slots + rm.slots ≤ R.slots) :
    ∃ (T' : State) (L : List Loc) (v : Option Value), Stand p l e R s m args below meth c T' (locs ++ L) (cells + rm.cells) (slots + rm.slots) ∧ Qc v T'.heap L ∧ ∀ t, Steps p.tables e below (T'.setTop (mkF m (pc + 3) Ls (v.toList ++ rest))) t → Steps p.tables e below (T.setTop (mkF m pc Ls (argsL.reverse ++ .ref a :: rest))) t := by
  obtain ⟨cB, kB, qa, -, qc⟩ := isOf hZ eT E
  obtain ⟨v, vm, ⟨T', L', k', n'⟩, -, X', ⟨L, hQ, l1, l2, l3⟩, st⟩ := X.virtualBack hx (y := y) (z := z) hown (mvT hZ w1) (mvT hZ w2) hnf (mvT hZ w5) (mvT hZ w6) hy (backOf (W := W) hM hZ w4 w3 hf hl) qa qc (g := mkF m pc Ls (argsL.reverse ++ .ref a :: rest)) rfl hsize (Steps.refl _) (argsL := argsL) (rest := rest) hlen rfl (by show 2 * 0 + _ ≤ _; omega) hd (fun _ _ => ⟨rfl, eT, hcs, hss⟩)
  dsimp only [Pt.U, Pt.locs, Pt.cells, Pt.slots] at X' hQ l1 l2 l3 st
  subst l1 l2 l3
  exact ⟨T', L, v, X', hQ, fun t kt => st.trans kt⟩
end Steps
section Arrays
variable {Z : State} {h h' : Heap} {a b : Addr} {ty : FieldType} {n : Int32} {f : Int32 → Int32} {sl : Nat} {v : Value} {ws : List Addr}
/-- the array at a: of kind ty, n places, the place j holds the int f j -/
def Ints (Z : State) (h : Heap) (a : Addr) (ty : FieldType) (n : Int32) (f : Int32 → Int32) : Prop := ∃ cl : Cell, Arr Z h a cl ty ∧ cl.slots.size = n.toNatClampNeg ∧ ¬ n < 0 ∧ ∀ j : Int32, ¬ j < 0 → j < n → cl.slots[j.toNatClampNeg]? = some (.int (f j))
theorem Ints.lt (F : Ints Z h a ty n f) : a < h.size := by obtain ⟨_, A, -⟩ := F; exact A.lt
theorem Ints.ext (E : Ext h h') (F : Ints Z h a ty n f) : Ints Z h' a ty n f := by obtain ⟨c, A, r⟩ := F; exact ⟨c, A.ext E, r⟩
theorem Ints.other (W : Wr h h' b sl v) (F : Ints Z h a ty n f) (q : a ≠ b) : Ints Z h' a ty n f := by obtain ⟨c, A, r⟩ := F; exact ⟨c, A.other W q, r⟩
theorem Ints.keep (F : Ints Z h a ty n f) (K : Keep h h' ws) (q : a ∉ ws) : Ints Z h' a ty n f := by obtain ⟨c, A, r⟩ := F; exact ⟨c, ⟨K.2.1 a c A.1 q, A.2⟩, r⟩
theorem Ints.inb {cl : Cell} (S : cl.slots.size = n.toNatClampNeg) {j : Int32} (h1 : ¬ j < 0) (h2 : j < n) : ¬ (j < 0 ∨ cl.slots.size ≤ j.toNatClampNeg) := inb_of S ⟨h1, h2⟩
theorem nat_inj {i j : Int32} (hi : ¬ i < 0) (hj : ¬ j < 0) (q : i.toNatClampNeg = j.toNatClampNeg) : i = j := Int32.toInt_inj.mp (by rw [nat_of hi, nat_of hj, q])
theorem Ints.set {j : Int32} {x : Int32} {cl : Cell} (A : Arr Z h a cl ty) (S : cl.slots.size = n.toNatClampNeg) (hn : ¬ n < 0) (H : ∀ j : Int32, ¬ j < 0 → j < n → cl.slots[j.toNatClampNeg]? = some (.int (f j))) (h1 : ¬ j < 0) (h2 : j < n) (W : Wr h h' a j.toNatClampNeg (.int x)) : Ints Z h' a ty n (fun i => if i = j then x else f i) := by
  refine ⟨_, A.same W, by rw [← S]; simp [Cell.setSlot], hn, fun i hi hi2 => ?_⟩
  have hlt : i.toNatClampNeg < cl.slots.size := Nat.lt_of_not_le fun q => inb_of S ⟨hi, hi2⟩ (Or.inr q)
  by_cases e : i = j
  · subst e; simp [Cell.setSlot, hlt]
  · have hne : j.toNatClampNeg ≠ i.toNatClampNeg := fun q => e (nat_inj hi h1 q.symm)
    simp only [if_neg e]
    rw [← H i hi hi2]
    simp [Cell.setSlot, Array.getElem?_setIfInBounds_ne hne]
theorem Ints.new {k : ClassId} (A : Arr Z h a (newA k ty n) ty) (hn : ¬ n < 0) (hd : defaultValue ty = .int 0) : Ints Z h a ty n (fun _ => 0) := by
  obtain ⟨cl, A', -, S, -, H, -⟩ := Arv.new A hn
  exact ⟨cl, A', S, hn, fun j h1 h2 => by rw [H _ (Nat.lt_of_not_le fun q => inb_of S ⟨h1, h2⟩ (Or.inr q))]; simp [hd]⟩
theorem Ints.congr {g : Int32 → Int32} (F : Ints Z h a ty n f) (q : ∀ j : Int32, ¬ j < 0 → j < n → f j = g j) : Ints Z h a ty n g := by
  obtain ⟨cl, A, S, hn, H⟩ := F
  exact ⟨cl, A, S, hn, fun j h1 h2 => by rw [← q j h1 h2]; exact H j h1 h2⟩
end Arrays
section ArraySteps
variable {p : Program} {l : Launch} {e : Env} {R : Room} {s : State} {m : MethodId} {args : Array Value} {below : List Frame} {meth : Method} {c : Code} {T : State} {locs : List Loc} {cells slots : Nat} {Φ : Outcome → State → Prop} {pc pc' : Nat} {Ls : Array Slot} {rest : List Value} {Z : State} {h : Heap} {a : Addr} {n j : Int32} {f : Int32 → Int32}
theorem Run.iaload (X : Stand p l e R s m args below meth c T locs cells slots) (hx : p.tables.exec = Jvm.exec) (hZ : Z.Warmed39 s.vm) (eT : T.heap = h) (F : Ints Z h a .int n f) (h1 : ¬ j < 0) (h2 : j < n) (hd : decode c.code pc = .ok (.iaload, 1)) (hp : pc + 1 = pc') (k : Run p.tables e below Φ T (mkF m pc' Ls (.int (f j) :: rest))) : Run p.tables e below Φ T (mkF m pc Ls (.int j :: .ref a :: rest)) := by
  subst hp
  obtain ⟨cl, A, S, hn, H⟩ := F
  exact k.back fun _ kt => X.iaload hx (by rw [eT]; exact A.1) (State.isArrayOf_alike hZ.alike A.2.1) A.2.2 (inb_of S ⟨h1, h2⟩) (H j h1 h2) (g := mkF m pc Ls (.int j :: .ref a :: rest)) rfl rfl hd _ kt
theorem Run.baload (X : Stand p l e R s m args below meth c T locs cells slots) (hx : p.tables.exec = Jvm.exec) (hZ : Z.Warmed39 s.vm) (eT : T.heap = h) (F : Ints Z h a .byte n f) (h1 : ¬ j < 0) (h2 : j < n) (hd : decode c.code pc = .ok (.baload, 1)) (hp : pc + 1 = pc') (k : Run p.tables e below Φ T (mkF m pc' Ls (.int (f j) :: rest))) : Run p.tables e below Φ T (mkF m pc Ls (.int j :: .ref a :: rest)) := by
  subst hp
  obtain ⟨cl, A, S, hn, H⟩ := F
  exact k.back fun _ kt => X.baloadBytes hx (by rw [eT]; exact A.1) (State.isArrayOf_alike hZ.alike A.2.1) A.2.2 (inb_of S ⟨h1, h2⟩) (H j h1 h2) (g := mkF m pc Ls (.int j :: .ref a :: rest)) rfl rfl hd _ kt
theorem Run.zaload (X : Stand p l e R s m args below meth c T locs cells slots) (hx : p.tables.exec = Jvm.exec) (hZ : Z.Warmed39 s.vm) (eT : T.heap = h) (F : Ints Z h a .boolean n f) (h1 : ¬ j < 0) (h2 : j < n) (hd : decode c.code pc = .ok (.baload, 1)) (hp : pc + 1 = pc') (k : Run p.tables e below Φ T (mkF m pc' Ls (.int (f j) :: rest))) : Run p.tables e below Φ T (mkF m pc Ls (.int j :: .ref a :: rest)) := by
  subst hp
  obtain ⟨cl, A, S, hn, H⟩ := F
  exact k.back fun _ kt => X.baloadBooleans hx (by rw [eT]; exact A.1) (State.isArrayOf_alike hZ.alike A.2.1) A.2.2 (inb_of S ⟨h1, h2⟩) (H j h1 h2) (g := mkF m pc Ls (.int j :: .ref a :: rest)) rfl rfl hd _ kt
theorem Run.arraylength (X : Stand p l e R s m args below meth c T locs cells slots) (hx : p.tables.exec = Jvm.exec) {ty : FieldType} (hZ : Z.Warmed39 s.vm) (eT : T.heap = h) (F : Ints Z h a ty n f) (hd : decode c.code pc = .ok (.arraylength, 1)) (hp : pc + 1 = pc') (k : Run p.tables e below Φ T (mkF m pc' Ls (.int n :: rest))) : Run p.tables e below Φ T (mkF m pc Ls (.ref a :: rest)) := by
  subst hp
  obtain ⟨cl, A, S, hn, H⟩ := F
  rw [← len_of S hn] at k
  exact k.back fun _ kt => X.arraylength hx (by rw [eT]; exact A.1) (State.isArrayOf_alike hZ.alike A.2.1) (g := mkF m pc Ls (.ref a :: rest)) rfl rfl hd _ kt
theorem st_iastore (X : Stand p l e R s m args below meth c T locs cells slots) (hx : p.tables.exec = Jvm.exec) {x : Int32} (hZ : Z.Warmed39 s.vm) (eT : T.heap = h) (F : Ints Z h a .int n f) (h1 : ¬ j < 0) (h2 : j < n) (hd : decode c.code pc = .ok (.iastore, 1)) : ∃ T' h' sl v, Stand p l e R s m args below meth c T' (locs ++ [⟨a, sl⟩]) cells slots ∧ T'.heap = h' ∧ Wr h h' a sl v ∧ Ints Z h' a .int n (fun i => if i = j then x else f i) ∧ ∀ t, Steps p.tables e below (T'.setTop (mkF m (pc + 1) Ls rest)) t → Steps p.tables e below (T.setTop (mkF m pc Ls (.int x :: .int j :: .ref a :: rest))) t := by
  obtain ⟨cl, A, S, hn, H⟩ := F
  obtain ⟨T', h', X', e', W, st⟩ := stI X hx hZ eT A (j := j) (x := x) (inb_of S ⟨h1, h2⟩) (g := mkF m pc Ls (.int x :: .int j :: .ref a :: rest)) rfl rfl hd
  exact ⟨T', h', _, _, X', e', W, Ints.set A S hn H h1 h2 W, st⟩
theorem st_bastore (X : Stand p l e R s m args below meth c T locs cells slots) (hx : p.tables.exec = Jvm.exec) {x : Int32} (hZ : Z.Warmed39 s.vm) (eT : T.heap = h) (F : Ints Z h a .byte n f) (h1 : ¬ j < 0) (h2 : j < n) (hd : decode c.code pc = .ok (.bastore, 1)) : ∃ T' h' sl v, Stand p l e R s m args below meth c T' (locs ++ [⟨a, sl⟩]) cells slots ∧ T'.heap = h' ∧ Wr h h' a sl v ∧ Ints Z h' a .byte n (fun i => if i = j then x.toInt8.toInt32 else f i) ∧ ∀ t, Steps p.tables e below (T'.setTop (mkF m (pc + 1) Ls rest)) t → Steps p.tables e below (T.setTop (mkF m pc Ls (.int x :: .int j :: .ref a :: rest))) t := by
  obtain ⟨cl, A, S, hn, H⟩ := F
  obtain ⟨T', h', X', e', W, st⟩ := stB X hx hZ eT A (j := j) (x := x) (inb_of S ⟨h1, h2⟩) (g := mkF m pc Ls (.int x :: .int j :: .ref a :: rest)) rfl rfl hd
  exact ⟨T', h', _, _, X', e', W, Ints.set A S hn H h1 h2 W, st⟩
theorem st_zastore (X : Stand p l e R s m args below meth c T locs cells slots) (hx : p.tables.exec = Jvm.exec) {x : Int32} (hZ : Z.Warmed39 s.vm) (eT : T.heap = h) (F : Ints Z h a .boolean n f) (h1 : ¬ j < 0) (h2 : j < n) (hd : decode c.code pc = .ok (.bastore, 1)) : ∃ T' h' sl v, Stand p l e R s m args below meth c T' (locs ++ [⟨a, sl⟩]) cells slots ∧ T'.heap = h' ∧ Wr h h' a sl v ∧ Ints Z h' a .boolean n (fun i => if i = j then x &&& 1 else f i) ∧ ∀ t, Steps p.tables e below (T'.setTop (mkF m (pc + 1) Ls rest)) t → Steps p.tables e below (T.setTop (mkF m pc Ls (.int x :: .int j :: .ref a :: rest))) t := by
  obtain ⟨cl, A, S, hn, H⟩ := F
  obtain ⟨T', h', X', e', W, st⟩ := stZ X hx hZ eT A (j := j) (x := x) (inb_of S ⟨h1, h2⟩) (g := mkF m pc Ls (.int x :: .int j :: .ref a :: rest)) rfl rfl hd
  exact ⟨T', h', _, _, X', e', W, Ints.set A S hn H h1 h2 W, st⟩
theorem st_newarray (X : Stand p l e R s m args below meth c T locs cells slots) (hx : p.tables.exec = Jvm.exec) {aty : ArrayType} {a0 : Array Value} (hZ : Z.Warmed39 s.vm) (w : (Cond.arrayClass (newarray.typeOf aty)).before a0 Z = true) (eT : T.heap = h) (hd : decode c.code pc = .ok (.newarray aty, 2)) (hn : ¬ n < 0) {cap : Nat} (hcap : n.toNatClampNeg ≤ cap) (hb : cap * 8 ≤ 536870912) (hc : cells + 1 ≤ R.cells) (hl : slots + cap ≤ R.slots) (hdef : defaultValue (newarray.typeOf aty) = .int 0) : ∃ T' h' b, Stand p l e R s m args below meth c T' locs (cells + 1) (slots + cap) ∧ T'.heap = h' ∧ Ext h h' ∧ b = h.size ∧ Ints Z h' b (newarray.typeOf aty) n (fun _ => 0) ∧ ∀ t, Steps p.tables e below (T'.setTop (mkF m (pc + 2) Ls (.ref b :: rest))) t → Steps p.tables e below (T.setTop (mkF m pc Ls (.int n :: rest))) t := by
  obtain ⟨T', h', cA, X', e', E, A, st⟩ := newP X hx hZ w eT (g := mkF m pc Ls (.int n :: rest)) rfl hd rfl hn hcap hb hc hl
  exact ⟨T', h', _, X', e', E, rfl, Ints.new A hn hdef, st⟩
end ArraySteps
section Table
variable {Z : State} {args : Array Value} {t : Term} {a : Addr} {c : Cell} {ty : FieldType} {n j : Int32}
theorem tab_ints {h : Heap} (F : Tab Z h a c ty n) : Ints Z h a ty n (atv c) := ⟨c, F.1, F.2.1, F.2.2.1, fun j h1 h2 => F.2.2.2 j (inb_of F.2.1 ⟨h1, h2⟩)⟩
theorem tab_all {q : Jvm.Cond} (et : ∀ idx, t.eval args Z none idx Z = some (.ref a)) (F : Tab Z Z.heap a c ty n) (h : (Jvm.Cond.all t q).value args Z none Z [] = some true) (h1 : ¬ j < 0) (h2 : j < n) : q.value args Z none Z [j.toNatClampNeg] = some true :=
  Jvm.Cond.all_elim (et []) (F.1.fin (Vm.Alike.refl _)) h _ (Nat.lt_of_not_le fun y => inb_of F.2.1 ⟨h1, h2⟩ (Or.inr y))
theorem tab_elem (et : ∀ idx, t.eval args Z none idx Z = some (.ref a)) (F : Tab Z Z.heap a c ty n) (h1 : ¬ j < 0) (h2 : j < n) : (Term.elem t (.index 0)).eval args Z none [j.toNatClampNeg] Z = some (.int (atv c j)) :=
  (elem_f (et _) (idx_at h1) (F.1.fin (Vm.Alike.refl _)) h1).trans (F.2.2.2 j (inb_of F.2.1 ⟨h1, h2⟩))
theorem tab_le {x v : Int32} (et : ∀ idx, t.eval args Z none idx Z = some (.ref a)) (F : Tab Z Z.heap a c ty n) (h : (Jvm.Cond.all t (.or (.le (.int x) (.index 0)) (.eq (.elem t (.index 0)) (.int v)))).value args Z none Z [] = some true) (j : Int32) (h1 : ¬ j < 0) (h2 : j < n) : x ≤ j ∨ atv c j = v :=
  or_e2 (Jvm.Cond.le_ints (Term.int_eval x) (idx_at h1)) (Jvm.Cond.eq_ints (tab_elem et F h1 h2) (Term.int_eval v)) (tab_all et F h h1 h2)
theorem tab_in {x y v : Int32} (et : ∀ idx, t.eval args Z none idx Z = some (.ref a)) (F : Tab Z Z.heap a c ty n) (h : (Jvm.Cond.all t (.or (.lt (.index 0) (.int x)) (.or (.le (.int y) (.index 0)) (.eq (.elem t (.index 0)) (.int v))))).value args Z none Z [] = some true) (j : Int32) (h1 : ¬ j < 0) (h2 : j < n) : j < x ∨ ¬ j < y ∨ atv c j = v :=
  or3 (tab_all et F h h1 h2) (Jvm.Cond.lt_ints (idx_at h1) (Term.int_eval x)) (Jvm.Cond.le_ints (Term.int_eval y) (idx_at h1)) (Jvm.Cond.eq_ints (tab_elem et F h1 h2) (Term.int_eval v))
theorem tab_one {k v : Int32} (et : ∀ idx, t.eval args Z none idx Z = some (.ref a)) (F : Tab Z Z.heap a c ty n) (h1 : ¬ k < 0) (h2 : k < n) (h : (Jvm.Cond.eq (.elem t (.int k)) (.int v)).value args Z none Z [] = some true) : atv c k = v := by
  have e := (elem_f (et []) (Term.int_eval (args := args) (first := Z) (o := none) (idx := []) (s := Z) k) (F.1.fin (Vm.Alike.refl _)) h1).trans (F.2.2.2 k (inb_of F.2.1 ⟨h1, h2⟩))
  have q := (Jvm.Cond.eq_ints e (Term.int_eval v)).symm.trans h
  simpa using q
theorem tab_ge {x v : Int32} (et : ∀ idx, t.eval args Z none idx Z = some (.ref a)) (F : Tab Z Z.heap a c ty n) (h : (Jvm.Cond.all t (.or (.lt (.index 0) (.int x)) (.eq (.elem t (.index 0)) (.int v)))).value args Z none Z [] = some true) (j : Int32) (h1 : ¬ j < 0) (h2 : j < n) : j < x ∨ atv c j = v :=
  or_e2 (Jvm.Cond.lt_ints (idx_at h1) (Term.int_eval x)) (Jvm.Cond.eq_ints (tab_elem et F h1 h2) (Term.int_eval v)) (tab_all et F h h1 h2)
theorem tab_start (hf : Fit Z) (et : t.eval args Z none [] Z = some (.ref a)) (A : Arr Z Z.heap a c ty) (hl : (Jvm.Cond.eq (Term.length t) (.int n)).value args Z none Z [] = some true) (ht : ty = .int ∨ ty = .boolean ∨ ty = .byte ∨ ty = .char ∨ ty = .short) (hn : ¬ n < 0) : Tab Z Z.heap a c ty n := by
  have e := eqv_i (Term.int_eval n) hl
  have ha : Z.arrayAt? a = some c := A.fin (Vm.Alike.refl _)
  by_cases q : c.slots.size < 2 ^ 31
  · have e2 := len_f et ha q
    exact Tab.start hf A ht q (by simpa using Option.some.inj (e2.symm.trans e)) hn
  · simp [Term.eval, et, ha, q] at e
theorem small_int (N : Nat) (hN : N < 2147483648) (P : Int32 → Prop) (H : ∀ k : Fin N, P (Int32.ofNat k.val)) (c : Int32) (h1 : ¬ c < 0) (h2 : c < Int32.ofNat N) : P c := by
  have e : c.toInt = (c.toNatClampNeg : Int) := nat_of h1
  have hc : Int32.ofNat c.toNatClampNeg = c := by
    apply Int32.toInt_inj.mp
    rw [Int32.toInt_ofNat_of_lt (by have := c.toInt_lt; omega), e]
  have h3 : c.toInt < (Int32.ofNat N).toInt := Int32.lt_iff_toInt_lt.mp h2
  rw [Int32.toInt_ofNat_of_lt (by omega)] at h3
  rw [← hc]
  exact H ⟨c.toNatClampNeg, by omega⟩
end Table
end Jvm.OwnRun

namespace Jvm.Pilot.@@N@@
open Jvm Jvm.ClassFile Sem Op Lib Jvm.Free Jvm.Stand Jvm.LawKit Jvm.RoadKit Jvm.OwnRun Bundle Jvm.Pilot.@@N@@.Jvm.D
theorem own_pd0 : parseMethodDescriptor "(B)B" = some ⟨[.byte], some .byte⟩ := by decide +kernel
theorem own_pd1 : parseMethodDescriptor "([BI)Z" = some ⟨[(.array .byte), .int], some .boolean⟩ := by decide +kernel
theorem own_pd2 : parseMethodDescriptor "(J)B" = some ⟨[.long], some .byte⟩ := by decide +kernel
theorem own_pd3 : parseMethodDescriptor "(BZ)B" = some ⟨[.byte, .boolean], some .byte⟩ := by decide +kernel
theorem own_pd4 : parseMethodDescriptor "()V" = some ⟨[], none⟩ := by decide +kernel
theorem own_pd5 : parseMethodDescriptor "([BII)Z" = some ⟨[(.array .byte), .int, .int], some .boolean⟩ := by decide +kernel
theorem own_pd6 : parseMethodDescriptor "(I)V" = some ⟨[.int], none⟩ := by decide +kernel
theorem own_pd7 : parseMethodDescriptor "()I" = some ⟨[], some .int⟩ := by decide +kernel
theorem own_pd8 : parseMethodDescriptor "()Z" = some ⟨[], some .boolean⟩ := by decide +kernel
theorem own_pn0 : plainName "com/example/vez/vez/gateway/http/HeadEnd" = true := by first | (simp [plainName, overriddenIn]; done) | decide +kernel
theorem own_pn1 : plainName "com/example/vez/vez/gateway/http/HeadEndFindPinLaw" = true := by first | (simp [plainName, overriddenIn]; done) | decide +kernel
abbrev own_S : Type := Int32 × Int32 × Int32 × Int32 × Int32
def own_line (sc bg wh t : Int32) : own_S := if (0 : Int32) < t then (sc, 0, 0, 1, wh) else if bg = (0 : Int32) then (sc, 0, 0, bg, wh) else (sc, 0, 0, bg, 1)
def own_step (sc ll cr bg wh v : Int32) : own_S := if v = (10 : Int32) then (if cr = (0 : Int32) then own_line (sc + (1 : Int32)) bg wh (ll - (0 : Int32)) else own_line (sc + (1 : Int32)) bg wh (ll - (1 : Int32))) else (if v = (13 : Int32) then (sc + (1 : Int32), ll + (1 : Int32), 1, bg, wh) else (sc + (1 : Int32), ll + (1 : Int32), 0, bg, wh))
def own_go : Nat → (Int32 → Int32) → Int32 → own_S → own_S
  | 0, _, _, s => s
  | k + 1, f, i, s => if s.2.2.2.2 = (0 : Int32) then own_go k f (i + (1 : Int32)) (own_step s.1 s.2.1 s.2.2.1 s.2.2.2.1 s.2.2.2.2 (f i)) else s
theorem own_up {i p : Int32} {k : Nat} (h : i.toInt + (k + 1 : Nat) = p.toInt) (h0 : 0 ≤ i.toInt) : (i + (1 : Int32)).toInt = i.toInt + 1 := by
  have h1 := c_iadd i 1
  have h2 := rng32 (i + 1)
  have h3 := rng32 p
  have e1 : (1 : Int32).toInt = 1 := rfl
  rw [e1] at h1
  omega

theorem own_m1 {p : Int32} (h0 : ¬ p < 0) (h1 : p < (5 : Int32)) (hn : ¬ p = (0 : Int32)) : ¬ (p - (1 : Int32)) < 0 ∧ (p - (1 : Int32)) < (5 : Int32) := by
  have e0 : (0 : Int32).toInt = 0 := rfl
  have e1 : (1 : Int32).toInt = 1 := rfl
  have e5 : (5 : Int32).toInt = 5 := rfl
  have c1 := c_isub p 1
  have r1 := rng32 (p - 1)
  have n1 : ¬ p.toInt = (0 : Int32).toInt := fun q => hn (Int32.toInt_inj.mp q)
  rw [Int32.lt_iff_toInt_lt] at *
  rw [Int32.lt_iff_toInt_lt]
  omega
theorem own_m2 {p : Int32} (h0 : ¬ p < 0) (h1 : p < (5 : Int32)) (hn : ¬ p = (0 : Int32)) (hm : ¬ p = (1 : Int32)) : ¬ (p - (2 : Int32)) < 0 ∧ (p - (2 : Int32)) < (5 : Int32) := by
  have e0 : (0 : Int32).toInt = 0 := rfl
  have e1 : (1 : Int32).toInt = 1 := rfl
  have e2 : (2 : Int32).toInt = 2 := rfl
  have e5 : (5 : Int32).toInt = 5 := rfl
  have c1 := c_isub p 2
  have r1 := rng32 (p - 2)
  have n1 : ¬ p.toInt = (0 : Int32).toInt := fun q => hn (Int32.toInt_inj.mp q)
  have n2 : ¬ p.toInt = (1 : Int32).toInt := fun q => hm (Int32.toInt_inj.mp q)
  rw [Int32.lt_iff_toInt_lt] at *
  rw [Int32.lt_iff_toInt_lt]
  omega

theorem own_di_0 : decode prog_32_method_1_code 0 = .ok (.aload_n 0, 1) := by decide +kernel
theorem own_di_1 : decode prog_32_method_1_code 1 = .ok (.invokespecial 1, 3) := by decide +kernel
theorem own_di_4 : decode prog_32_method_1_code 4 = .ok (.return_, 1) := by decide +kernel
theorem own_efi (m : MethodId) (x0 : Addr) : entryFrame m #[(.ref x0)] 1 = mkF m 0 #[.val (.ref x0)] [] := by first | (simp [entryFrame, mkF, argsToLocals, Value.category]; done) | rfl
set_option maxRecDepth 65536 in
set_option maxHeartbeats 40000000 in
theorem rm_i (l : Launch) (Z : State) (a0 : Array Value) (hw : ∀ d ∈ tables_1, d.before a0 Z = true) (ws : List Jvm.Cond) (o0 : Addr) (h0 : Heap) (n0 : Nat) (Z0 : n0 ≤ h0.size) :
    MetFree l (⟨"com/example/vez/vez/gateway/http/HeadEnd", "<init>", "()V"⟩ : MethodName) (head1 (Jvm.Cond.code (⟨"com/example/vez/vez/gateway/http/HeadEnd", "<init>", "()V"⟩ : MethodName) prog_32_method_1_code 1 none :: ws) ({ frames := 1, cells := 0, slots := 0, locals := 12 } : Room)) (fun a U => a = #[(.ref o0)] ∧ Z.Warmed39 U.vm ∧ U.heap = h0) (fun _ _ _ _ _ => True) (fun _ U o U' => ∃ v L, o = .returned v ∧ (Say (fun v h L => v = none ∧ Fr n0 L ∧ h = h0)) v U'.heap L ∧ FrameEnd U o U' L ({ frames := 1, cells := 0, slots := 0, locals := 12 } : Room).cells ({ frames := 1, cells := 0, slots := 0, locals := 12 } : Room).slots) := by
  refine MetFree.of_bodySF (plainFor_of_name own_pn0) hisR ?_
  intro p e s m args below meth c s₁ Bd hml0 hP hK
  obtain ⟨rfl, hZ, hh⟩ := hP
  have hx := Bd.exec
  have hby := Bd.bytes
  have hml : c.maxLocals = 1 := hml0
  have hown : s.vm.findClass "com/example/vez/vez/gateway/http/HeadEnd" = some m.cls := findClass_of_methodNamed Bd.named
  have hnm := (name_of_methodNamed Bd.named Bd.method).1
  have X0 : Stand p l e ({ frames := 1, cells := 0, slots := 0, locals := 12 } : Room) s m #[(.ref o0)] below meth c s₁ [] 0 0 := Stand.of_body Bd
  have e0 : s₁.heap = h0 := by rw [← hh, Bd.state]; rfl
  have N0 := Fr.nil n0
  suffices H : Run p.tables e below (FinR s ({ frames := 1, cells := 0, slots := 0, locals := 12 } : Room).cells ({ frames := 1, cells := 0, slots := 0, locals := 12 } : Room).slots (Say (fun v h L => v = none ∧ Fr n0 L ∧ h = h0))) s₁ (mkF m 0 #[.val (.ref o0)] []) by
    obtain ⟨s₂, o, k1, k2, k3, k4⟩ := H
    exact ⟨s₂, o, castTop (own_efi m o0) k1, k2, k3, k4⟩
  refine Run.aloadN (pc' := 1) X0 hx (hb hby own_di_0) rfl rfl ?_
  obtain ⟨T1, X1, e1, st1⟩ := initO X0 hx hZ hown (hw _ (List.mem_of_getElem? (i := 25) rfl)) (hw _ (List.mem_of_getElem? (i := 26) rfl)) (hw _ (List.mem_of_getElem? (i := 27) rfl)) e0 (g := (mkF m 1 #[.val (.ref o0)] [(.ref o0)])) rfl (by rw [hml]; rfl) rfl (hb hby own_di_1) (by decide) (W := 0) (by show 2 * 0 + _ ≤ _; exact Nat.le_of_eq rfl) (by decide)
  refine Run.back (g' := (mkF m 4 #[.val (.ref o0)] [])) st1 ?_
  exact Run.retVoid X1 hx Bd.notSynchronized Bd.returns (hb hby own_di_4) ⟨rfl, N0, e1⟩ (by decide) (by decide)
theorem own_df_0 : decode prog_32_method_3_code 0 = .ok (.iload_n 2, 1) := by decide +kernel
theorem own_df_1 : decode prog_32_method_3_code 1 = .ok (.istore 4, 2) := by decide +kernel
theorem own_df_3 : decode prog_32_method_3_code 3 = .ok (.aload_n 0, 1) := by decide +kernel
theorem own_df_4 : decode prog_32_method_3_code 4 = .ok (.getfield 23, 3) := by decide +kernel
theorem own_df_7 : decode prog_32_method_3_code 7 = .ok (.ifCond .ne 121, 3) := by decide +kernel
theorem own_df_10 : decode prog_32_method_3_code 10 = .ok (.iload 4, 2) := by decide +kernel
theorem own_df_12 : decode prog_32_method_3_code 12 = .ok (.iload_n 3, 1) := by decide +kernel
theorem own_df_13 : decode prog_32_method_3_code 13 = .ok (.if_icmp .ge 115, 3) := by decide +kernel
theorem own_df_16 : decode prog_32_method_3_code 16 = .ok (.aload_n 1, 1) := by decide +kernel
theorem own_df_17 : decode prog_32_method_3_code 17 = .ok (.iload 4, 2) := by decide +kernel
theorem own_df_19 : decode prog_32_method_3_code 19 = .ok (.baload, 1) := by decide +kernel
theorem own_df_20 : decode prog_32_method_3_code 20 = .ok (.istore 5, 2) := by decide +kernel
theorem own_df_22 : decode prog_32_method_3_code 22 = .ok (.aload_n 0, 1) := by decide +kernel
theorem own_df_23 : decode prog_32_method_3_code 23 = .ok (.dup, 1) := by decide +kernel
theorem own_df_24 : decode prog_32_method_3_code 24 = .ok (.getfield 7, 3) := by decide +kernel
theorem own_df_27 : decode prog_32_method_3_code 27 = .ok (.iconst 1, 1) := by decide +kernel
theorem own_df_28 : decode prog_32_method_3_code 28 = .ok (.iadd, 1) := by decide +kernel
theorem own_df_29 : decode prog_32_method_3_code 29 = .ok (.putfield 7, 3) := by decide +kernel
theorem own_df_32 : decode prog_32_method_3_code 32 = .ok (.iload 5, 2) := by decide +kernel
theorem own_df_34 : decode prog_32_method_3_code 34 = .ok (.bipush 10, 2) := by decide +kernel
theorem own_df_36 : decode prog_32_method_3_code 36 = .ok (.if_icmp .eq 32, 3) := by decide +kernel
theorem own_df_39 : decode prog_32_method_3_code 39 = .ok (.aload_n 0, 1) := by decide +kernel
theorem own_df_40 : decode prog_32_method_3_code 40 = .ok (.dup, 1) := by decide +kernel
theorem own_df_41 : decode prog_32_method_3_code 41 = .ok (.getfield 13, 3) := by decide +kernel
theorem own_df_44 : decode prog_32_method_3_code 44 = .ok (.iconst 1, 1) := by decide +kernel
theorem own_df_45 : decode prog_32_method_3_code 45 = .ok (.iadd, 1) := by decide +kernel
theorem own_df_46 : decode prog_32_method_3_code 46 = .ok (.putfield 13, 3) := by decide +kernel
theorem own_df_49 : decode prog_32_method_3_code 49 = .ok (.aload_n 0, 1) := by decide +kernel
theorem own_df_50 : decode prog_32_method_3_code 50 = .ok (.iload 5, 2) := by decide +kernel
theorem own_df_52 : decode prog_32_method_3_code 52 = .ok (.bipush 13, 2) := by decide +kernel
theorem own_df_54 : decode prog_32_method_3_code 54 = .ok (.if_icmp .ne 7, 3) := by decide +kernel
theorem own_df_57 : decode prog_32_method_3_code 57 = .ok (.iconst 1, 1) := by decide +kernel
theorem own_df_58 : decode prog_32_method_3_code 58 = .ok (.goto 4, 3) := by decide +kernel
theorem own_df_61 : decode prog_32_method_3_code 61 = .ok (.iconst 0, 1) := by decide +kernel
theorem own_df_62 : decode prog_32_method_3_code 62 = .ok (.putfield 16, 3) := by decide +kernel
theorem own_df_65 : decode prog_32_method_3_code 65 = .ok (.goto 57, 3) := by decide +kernel
theorem own_df_68 : decode prog_32_method_3_code 68 = .ok (.aload_n 0, 1) := by decide +kernel
theorem own_df_69 : decode prog_32_method_3_code 69 = .ok (.getfield 13, 3) := by decide +kernel
theorem own_df_72 : decode prog_32_method_3_code 72 = .ok (.aload_n 0, 1) := by decide +kernel
theorem own_df_73 : decode prog_32_method_3_code 73 = .ok (.getfield 16, 3) := by decide +kernel
theorem own_df_76 : decode prog_32_method_3_code 76 = .ok (.ifCond .eq 7, 3) := by decide +kernel
theorem own_df_79 : decode prog_32_method_3_code 79 = .ok (.iconst 1, 1) := by decide +kernel
theorem own_df_80 : decode prog_32_method_3_code 80 = .ok (.goto 4, 3) := by decide +kernel
theorem own_df_83 : decode prog_32_method_3_code 83 = .ok (.iconst 0, 1) := by decide +kernel
theorem own_df_84 : decode prog_32_method_3_code 84 = .ok (.isub, 1) := by decide +kernel
theorem own_df_85 : decode prog_32_method_3_code 85 = .ok (.istore 6, 2) := by decide +kernel
theorem own_df_87 : decode prog_32_method_3_code 87 = .ok (.iload 6, 2) := by decide +kernel
theorem own_df_89 : decode prog_32_method_3_code 89 = .ok (.ifCond .le 11, 3) := by decide +kernel
theorem own_df_92 : decode prog_32_method_3_code 92 = .ok (.aload_n 0, 1) := by decide +kernel
theorem own_df_93 : decode prog_32_method_3_code 93 = .ok (.iconst 1, 1) := by decide +kernel
theorem own_df_94 : decode prog_32_method_3_code 94 = .ok (.putfield 20, 3) := by decide +kernel
theorem own_df_97 : decode prog_32_method_3_code 97 = .ok (.goto 15, 3) := by decide +kernel
theorem own_df_100 : decode prog_32_method_3_code 100 = .ok (.aload_n 0, 1) := by decide +kernel
theorem own_df_101 : decode prog_32_method_3_code 101 = .ok (.getfield 20, 3) := by decide +kernel
theorem own_df_104 : decode prog_32_method_3_code 104 = .ok (.ifCond .eq 8, 3) := by decide +kernel
theorem own_df_107 : decode prog_32_method_3_code 107 = .ok (.aload_n 0, 1) := by decide +kernel
theorem own_df_108 : decode prog_32_method_3_code 108 = .ok (.iconst 1, 1) := by decide +kernel
theorem own_df_109 : decode prog_32_method_3_code 109 = .ok (.putfield 23, 3) := by decide +kernel
theorem own_df_112 : decode prog_32_method_3_code 112 = .ok (.aload_n 0, 1) := by decide +kernel
theorem own_df_113 : decode prog_32_method_3_code 113 = .ok (.iconst 0, 1) := by decide +kernel
theorem own_df_114 : decode prog_32_method_3_code 114 = .ok (.putfield 13, 3) := by decide +kernel
theorem own_df_117 : decode prog_32_method_3_code 117 = .ok (.aload_n 0, 1) := by decide +kernel
theorem own_df_118 : decode prog_32_method_3_code 118 = .ok (.iconst 0, 1) := by decide +kernel
theorem own_df_119 : decode prog_32_method_3_code 119 = .ok (.putfield 16, 3) := by decide +kernel
theorem own_df_122 : decode prog_32_method_3_code 122 = .ok (.iinc 4 1, 3) := by decide +kernel
theorem own_df_125 : decode prog_32_method_3_code 125 = .ok (.goto (-122), 3) := by decide +kernel
theorem own_df_128 : decode prog_32_method_3_code 128 = .ok (.aload_n 0, 1) := by decide +kernel
theorem own_df_129 : decode prog_32_method_3_code 129 = .ok (.getfield 23, 3) := by decide +kernel
theorem own_df_132 : decode prog_32_method_3_code 132 = .ok (.ireturn, 1) := by decide +kernel
theorem own_eff (m : MethodId) (x0 : Addr) (x1 : Addr) (x2 : Int32) (x3 : Int32) : entryFrame m #[(.ref x0), (.ref x1), (.int x2), (.int x3)] 7 = mkF m 0 #[.val (.ref x0), .val (.ref x1), .val (.int x2), .val (.int x3), .unset, .unset, .unset] [] := by first | (simp [entryFrame, mkF, argsToLocals, Value.category]; done) | rfl
set_option maxRecDepth 65536 in
set_option maxHeartbeats 40000000 in
theorem rm_f (l : Launch) (Z : State) (a0 : Array Value) (hw : ∀ d ∈ tables_1, d.before a0 Z = true) (ws : List Jvm.Cond) (o0 : Addr) (o1 : Addr) (p2 : Int32) (p3 : Int32) (sc : Int32) (ll : Int32) (cr : Int32) (bg : Int32) (wh : Int32) (k : Nat) (n : Int32) (f : Int32 → Int32) (h0 : Heap) (n0 : Nat) (Z0 : n0 ≤ h0.size) (E_o : Exa Z h0 o0 "com/example/vez/vez/gateway/http/HeadEnd") (F_scanned : Fld Z h0 o0 "com/example/vez/vez/gateway/http/HeadEnd" "scanned" "I" (.int sc)) (F_lineLength : Fld Z h0 o0 "com/example/vez/vez/gateway/http/HeadEnd" "lineLength" "I" (.int ll)) (F_cr : Fld Z h0 o0 "com/example/vez/vez/gateway/http/HeadEnd" "cr" "Z" (.int cr)) (F_begun : Fld Z h0 o0 "com/example/vez/vez/gateway/http/HeadEnd" "begun" "Z" (.int bg)) (F_whole : Fld Z h0 o0 "com/example/vez/vez/gateway/http/HeadEnd" "whole" "Z" (.int wh)) (g_o : n0 ≤ o0) (A_t : Ints Z h0 o1 .byte n f) (ne_o : o1 ≠ o0) (hk : p2.toInt + k = p3.toInt) (hk0 : 0 ≤ p2.toInt) (hkn : p3.toInt ≤ n.toInt) :
    MetFree l (⟨"com/example/vez/vez/gateway/http/HeadEnd", "find", "([BII)Z"⟩ : MethodName) (head1 (Jvm.Cond.code (⟨"com/example/vez/vez/gateway/http/HeadEnd", "find", "([BII)Z"⟩ : MethodName) prog_32_method_3_code 7 (some .boolean) :: ws) ({ frames := 0, cells := 0, slots := 0, locals := 0 } : Room)) (fun a U => a = #[(.ref o0), (.ref o1), (.int p2), (.int p3)] ∧ Z.Warmed39 U.vm ∧ U.heap = h0) (fun _ _ _ _ _ => True) (fun _ U o U' => ∃ v L, o = .returned v ∧ (Say (fun v h L => v = some (.int ((own_go k f p2 (sc, ll, cr, bg, wh)).2.2.2.2 &&& 1)) ∧ Fr n0 L ∧ Keep h0 h [o0] ∧ Exa Z h o0 "com/example/vez/vez/gateway/http/HeadEnd" ∧ Fld Z h o0 "com/example/vez/vez/gateway/http/HeadEnd" "scanned" "I" (.int (own_go k f p2 (sc, ll, cr, bg, wh)).1) ∧ Fld Z h o0 "com/example/vez/vez/gateway/http/HeadEnd" "lineLength" "I" (.int (own_go k f p2 (sc, ll, cr, bg, wh)).2.1) ∧ Fld Z h o0 "com/example/vez/vez/gateway/http/HeadEnd" "cr" "Z" (.int (own_go k f p2 (sc, ll, cr, bg, wh)).2.2.1) ∧ Fld Z h o0 "com/example/vez/vez/gateway/http/HeadEnd" "begun" "Z" (.int (own_go k f p2 (sc, ll, cr, bg, wh)).2.2.2.1) ∧ Fld Z h o0 "com/example/vez/vez/gateway/http/HeadEnd" "whole" "Z" (.int (own_go k f p2 (sc, ll, cr, bg, wh)).2.2.2.2))) v U'.heap L ∧ FrameEnd U o U' L ({ frames := 0, cells := 0, slots := 0, locals := 0 } : Room).cells ({ frames := 0, cells := 0, slots := 0, locals := 0 } : Room).slots) := by
  refine MetFree.of_bodySF (plainFor_of_name own_pn0) hisR ?_
  intro p e s m args below meth c s₁ Bd hml0 hP hK
  obtain ⟨rfl, hZ, hh⟩ := hP
  have hx := Bd.exec
  have hby := Bd.bytes
  have hml : c.maxLocals = 7 := hml0
  have hown : s.vm.findClass "com/example/vez/vez/gateway/http/HeadEnd" = some m.cls := findClass_of_methodNamed Bd.named
  have hnm := (name_of_methodNamed Bd.named Bd.method).1
  have X0 : Stand p l e ({ frames := 0, cells := 0, slots := 0, locals := 0 } : Room) s m #[(.ref o0), (.ref o1), (.int p2), (.int p3)] below meth c s₁ [] 0 0 := Stand.of_body Bd
  have e0 : s₁.heap = h0 := by rw [← hh, Bd.state]; rfl
  have N0 := Fr.nil n0
  suffices H : Run p.tables e below (FinR s ({ frames := 0, cells := 0, slots := 0, locals := 0 } : Room).cells ({ frames := 0, cells := 0, slots := 0, locals := 0 } : Room).slots (Say (fun v h L => v = some (.int ((own_go k f p2 (sc, ll, cr, bg, wh)).2.2.2.2 &&& 1)) ∧ Fr n0 L ∧ Keep h0 h [o0] ∧ Exa Z h o0 "com/example/vez/vez/gateway/http/HeadEnd" ∧ Fld Z h o0 "com/example/vez/vez/gateway/http/HeadEnd" "scanned" "I" (.int (own_go k f p2 (sc, ll, cr, bg, wh)).1) ∧ Fld Z h o0 "com/example/vez/vez/gateway/http/HeadEnd" "lineLength" "I" (.int (own_go k f p2 (sc, ll, cr, bg, wh)).2.1) ∧ Fld Z h o0 "com/example/vez/vez/gateway/http/HeadEnd" "cr" "Z" (.int (own_go k f p2 (sc, ll, cr, bg, wh)).2.2.1) ∧ Fld Z h o0 "com/example/vez/vez/gateway/http/HeadEnd" "begun" "Z" (.int (own_go k f p2 (sc, ll, cr, bg, wh)).2.2.2.1) ∧ Fld Z h o0 "com/example/vez/vez/gateway/http/HeadEnd" "whole" "Z" (.int (own_go k f p2 (sc, ll, cr, bg, wh)).2.2.2.2)))) s₁ (mkF m 0 #[.val (.ref o0), .val (.ref o1), .val (.int p2), .val (.int p3), .unset, .unset, .unset] []) by
    obtain ⟨s₂, o, k1, k2, k3, k4⟩ := H
    exact ⟨s₂, o, castTop (own_eff m o0 o1 p2 p3) k1, k2, k3, k4⟩
  obtain ⟨R, hR⟩ : ∃ R, R = own_go k f p2 (sc, ll, cr, bg, wh) := ⟨_, rfl⟩
  rw [← hR]
  have LOOP : ∀ (k : Nat) (i sc ll cr bg wh : Int32) (s5 s6 : Slot) (T : State) (h : Heap) (locs : List Loc) (R : own_S), R = own_go k f i (sc, ll, cr, bg, wh) → One s5 → One s6 → i.toInt + k = p3.toInt → 0 ≤ i.toInt → Stand p l e ({ frames := 0, cells := 0, slots := 0, locals := 0 } : Room) s m #[(.ref o0), (.ref o1), (.int p2), (.int p3)] below meth c T locs 0 0 → T.heap = h → Fr n0 locs → Keep h0 h [o0] → Exa Z h o0 "com/example/vez/vez/gateway/http/HeadEnd" → Fld Z h o0 "com/example/vez/vez/gateway/http/HeadEnd" "scanned" "I" (.int sc) → Fld Z h o0 "com/example/vez/vez/gateway/http/HeadEnd" "lineLength" "I" (.int ll) → Fld Z h o0 "com/example/vez/vez/gateway/http/HeadEnd" "cr" "Z" (.int cr) → Fld Z h o0 "com/example/vez/vez/gateway/http/HeadEnd" "begun" "Z" (.int bg) → Fld Z h o0 "com/example/vez/vez/gateway/http/HeadEnd" "whole" "Z" (.int wh) → Ints Z h o1 .byte n f → n0 ≤ h.size → Run p.tables e below (FinR s ({ frames := 0, cells := 0, slots := 0, locals := 0 } : Room).cells ({ frames := 0, cells := 0, slots := 0, locals := 0 } : Room).slots (Say (fun v h L => v = some (.int ((R).2.2.2.2 &&& 1)) ∧ Fr n0 L ∧ Keep h0 h [o0] ∧ Exa Z h o0 "com/example/vez/vez/gateway/http/HeadEnd" ∧ Fld Z h o0 "com/example/vez/vez/gateway/http/HeadEnd" "scanned" "I" (.int (R).1) ∧ Fld Z h o0 "com/example/vez/vez/gateway/http/HeadEnd" "lineLength" "I" (.int (R).2.1) ∧ Fld Z h o0 "com/example/vez/vez/gateway/http/HeadEnd" "cr" "Z" (.int (R).2.2.1) ∧ Fld Z h o0 "com/example/vez/vez/gateway/http/HeadEnd" "begun" "Z" (.int (R).2.2.2.1) ∧ Fld Z h o0 "com/example/vez/vez/gateway/http/HeadEnd" "whole" "Z" (.int (R).2.2.2.2)))) T (mkF m 3 #[.val (.ref o0), .val (.ref o1), .val (.int p2), .val (.int p3), .val (.int i), s5, s6] []) := by
    clear hR
    intro k
    induction k with
    | zero =>
      intro i sc ll cr bg wh s5 s6 T h locs R hR hs5 hs6 hik hi0 X eT N K0 E1 F_sc F_ll F_cr F_bg F_wh A1 Zs
      have hlt : ¬ i < p3 := fun q => by have := Int32.lt_iff_toInt_lt.mp q; omega
      have hR2 : R = (sc, ll, cr, bg, wh) := hR
      refine Run.aloadN (pc' := 4) X hx (hb hby own_df_3) rfl rfl ?_
      obtain ⟨T1, X1, e1, st1⟩ := getF X hx hZ hown (host := "") (Or.inl (hw _ (List.mem_of_getElem? (i := 33) rfl))) Via.refl eT F_wh (g := (mkF m 4 #[.val (.ref o0), .val (.ref o1), .val (.int p2), .val (.int p3), .val (.int i), s5, s6] [(.ref o0)])) rfl rfl (hb hby own_df_4)
      refine Run.back (g' := (mkF m 7 #[.val (.ref o0), .val (.ref o1), .val (.int p2), .val (.int p3), .val (.int i), s5, s6] [(.int wh)])) st1 ?_
      by_cases hc7 : wh = (0 : Int32)
      · skip
        refine Run.ifNo (pc' := 10) X1 hx (hb hby own_df_7) ((if0 _ _).trans (teq hc7).2) rfl ?_
        refine Run.iload (pc' := 12) X1 hx (hb hby own_df_10) rfl rfl ?_
        refine Run.iloadN (pc' := 13) X1 hx (hb hby own_df_12) rfl rfl ?_
        refine Run.icmpYes (pc' := 128) X1 hx (hb hby own_df_13) (flt hlt).2.1 (by decide) (by decide) ?_
        refine Run.aloadN (pc' := 129) X1 hx (hb hby own_df_128) rfl rfl ?_
        obtain ⟨T2, X2, e2, st2⟩ := getF X1 hx hZ hown (host := "") (Or.inl (hw _ (List.mem_of_getElem? (i := 33) rfl))) Via.refl e1 F_wh (g := (mkF m 129 #[.val (.ref o0), .val (.ref o1), .val (.int p2), .val (.int p3), .val (.int i), s5, s6] [(.ref o0)])) rfl rfl (hb hby own_df_129)
        refine Run.back (g' := (mkF m 132 #[.val (.ref o0), .val (.ref o1), .val (.int p2), .val (.int p3), .val (.int i), s5, s6] [(.int wh)])) st2 ?_
        exact Run.retSmall X2 hx (t := .boolean) (z' := (wh &&& 1)) Bd.notSynchronized Bd.returns (by simp) rfl (hb hby own_df_132) (by rw [hR2]; exact ⟨rfl, N, by rw [e2]; exact K0, by rw [e2]; exact E1, by rw [e2]; exact F_sc, by rw [e2]; exact F_ll, by rw [e2]; exact F_cr, by rw [e2]; exact F_bg, by rw [e2]; exact F_wh⟩) (by decide) (by decide)
      · skip
        refine Run.ifYes (pc' := 128) X1 hx (hb hby own_df_7) ((if0 _ _).trans (feq hc7).2) (by decide) (by decide) ?_
        refine Run.aloadN (pc' := 129) X1 hx (hb hby own_df_128) rfl rfl ?_
        obtain ⟨T3, X3, e3, st3⟩ := getF X1 hx hZ hown (host := "") (Or.inl (hw _ (List.mem_of_getElem? (i := 33) rfl))) Via.refl e1 F_wh (g := (mkF m 129 #[.val (.ref o0), .val (.ref o1), .val (.int p2), .val (.int p3), .val (.int i), s5, s6] [(.ref o0)])) rfl rfl (hb hby own_df_129)
        refine Run.back (g' := (mkF m 132 #[.val (.ref o0), .val (.ref o1), .val (.int p2), .val (.int p3), .val (.int i), s5, s6] [(.int wh)])) st3 ?_
        exact Run.retSmall X3 hx (t := .boolean) (z' := (wh &&& 1)) Bd.notSynchronized Bd.returns (by simp) rfl (hb hby own_df_132) (by rw [hR2]; exact ⟨rfl, N, by rw [e3]; exact K0, by rw [e3]; exact E1, by rw [e3]; exact F_sc, by rw [e3]; exact F_ll, by rw [e3]; exact F_cr, by rw [e3]; exact F_bg, by rw [e3]; exact F_wh⟩) (by decide) (by decide)
    | succ k ih =>
      intro i sc ll cr bg wh s5 s6 T h locs R hR hs5 hs6 hik hi0 X eT N K0 E1 F_sc F_ll F_cr F_bg F_wh A1 Zs
      have hlt : i < p3 := Int32.lt_iff_toInt_lt.mpr (by omega)
      have hup := own_up hik hi0
      have hge : ¬ i < 0 := fun q => by have := Int32.lt_iff_toInt_lt.mp q; have e0 : (0 : Int32).toInt = 0 := rfl; omega
      have hin : i < n := Int32.lt_iff_toInt_lt.mpr (by have := Int32.lt_iff_toInt_lt.mp hlt; omega)
      have hR2 : R = if wh = (0 : Int32) then own_go k f (i + (1 : Int32)) (own_step sc ll cr bg wh (f i)) else (sc, ll, cr, bg, wh) := hR
      refine Run.aloadN (pc' := 4) X hx (hb hby own_df_3) rfl rfl ?_
      obtain ⟨T4, X4, e4, st4⟩ := getF X hx hZ hown (host := "") (Or.inl (hw _ (List.mem_of_getElem? (i := 33) rfl))) Via.refl eT F_wh (g := (mkF m 4 #[.val (.ref o0), .val (.ref o1), .val (.int p2), .val (.int p3), .val (.int i), s5, s6] [(.ref o0)])) rfl rfl (hb hby own_df_4)
      refine Run.back (g' := (mkF m 7 #[.val (.ref o0), .val (.ref o1), .val (.int p2), .val (.int p3), .val (.int i), s5, s6] [(.int wh)])) st4 ?_
      by_cases hc7 : wh = (0 : Int32)
      · skip
        refine Run.ifNo (pc' := 10) X4 hx (hb hby own_df_7) ((if0 _ _).trans (teq hc7).2) rfl ?_
        refine Run.iload (pc' := 12) X4 hx (hb hby own_df_10) rfl rfl ?_
        refine Run.iloadN (pc' := 13) X4 hx (hb hby own_df_12) rfl rfl ?_
        refine Run.icmpNo (pc' := 16) X4 hx (hb hby own_df_13) (tlt hlt).2.1 rfl ?_
        refine Run.aloadN (pc' := 17) X4 hx (hb hby own_df_16) rfl rfl ?_
        refine Run.iload (pc' := 19) X4 hx (hb hby own_df_17) rfl rfl ?_
        refine Run.baload (pc' := 20) X4 hx hZ e4 A1 hge hin (hb hby own_df_19) rfl ?_
        refine Run.istore (pc' := 22) X4 hx (l' := #[.val (.ref o0), .val (.ref o1), .val (.int p2), .val (.int p3), .val (.int i), .val (.int (f i)), s6]) (hb hby own_df_20) (XS.store1 (o := s5) rfl hs5 rfl) rfl ?_
        refine Run.aloadN (pc' := 23) X4 hx (hb hby own_df_22) rfl rfl ?_
        refine Run.dup (pc' := 24) X4 hx (hb hby own_df_23) rfl rfl ?_
        obtain ⟨T5, X5, e5, st5⟩ := getF X4 hx hZ hown (host := "") (Or.inl (hw _ (List.mem_of_getElem? (i := 35) rfl))) Via.refl e4 F_sc (g := (mkF m 24 #[.val (.ref o0), .val (.ref o1), .val (.int p2), .val (.int p3), .val (.int i), .val (.int (f i)), s6] [(.ref o0), (.ref o0)])) rfl rfl (hb hby own_df_24)
        refine Run.back (g' := (mkF m 27 #[.val (.ref o0), .val (.ref o1), .val (.int p2), .val (.int p3), .val (.int i), .val (.int (f i)), s6] [(.int sc), (.ref o0)])) st5 ?_
        refine Run.iconst (pc' := 28) (v := (1 : Int32)) X5 hx (hb hby own_df_27) rfl rfl ?_
        refine Run.iadd (pc' := 29) X5 hx (hb hby own_df_28) rfl ?_
        obtain ⟨T6, h6, X6, e6, W6, st6⟩ := putF X5 hx hZ hown (host := "") (Or.inl (hw _ (List.mem_of_getElem? (i := 35) rfl))) Via.refl e5 F_sc E1 (Or.inl (hw _ (List.mem_of_getElem? (i := 36) rfl))) (hw _ (List.mem_of_getElem? (i := 20) rfl)) (ty := .int) (by decide) rfl rfl (g := (mkF m 29 #[.val (.ref o0), .val (.ref o1), .val (.int p2), .val (.int p3), .val (.int i), .val (.int (f i)), s6] [(.int (sc + (1 : Int32))), (.ref o0)])) rfl rfl (hb hby own_df_29)
        have N6 := Fr.snoc X6 N g_o
        have fq7 := Exa.wr W6 E1
        have fq8 := Ints.other W6 A1 ne_o
        have fq9 := Fld.same W6 F_sc
        have fq10 := Fld.other W6 F_ll (Or.inr (slot_ne (Or.inl (hw _ (List.mem_of_getElem? (i := 38) rfl))) (Or.inl (hw _ (List.mem_of_getElem? (i := 36) rfl))) (by decide) (t := .int) (t' := .int) (by decide) (by decide)))
        have fq11 := Fld.other W6 F_cr (Or.inr (slot_ne (Or.inl (hw _ (List.mem_of_getElem? (i := 40) rfl))) (Or.inl (hw _ (List.mem_of_getElem? (i := 36) rfl))) (by decide) (t := .boolean) (t' := .int) (by decide) (by decide)))
        have fq12 := Fld.other W6 F_bg (Or.inr (slot_ne (Or.inl (hw _ (List.mem_of_getElem? (i := 42) rfl))) (Or.inl (hw _ (List.mem_of_getElem? (i := 36) rfl))) (by decide) (t := .boolean) (t' := .int) (by decide) (by decide)))
        have fq13 := Fld.other W6 F_wh (Or.inr (slot_ne (Or.inl (hw _ (List.mem_of_getElem? (i := 34) rfl))) (Or.inl (hw _ (List.mem_of_getElem? (i := 36) rfl))) (by decide) (t := .boolean) (t' := .int) (by decide) (by decide)))
        have Z6 : n0 ≤ h6.size := Nat.le_trans Zs (Keep.of_wr W6).1
        have K6 := K0.wr W6 (Or.inl (List.mem_of_getElem? (i := 0) rfl))
        refine Run.back (g' := (mkF m 32 #[.val (.ref o0), .val (.ref o1), .val (.int p2), .val (.int p3), .val (.int i), .val (.int (f i)), s6] [])) st6 ?_
        refine Run.iload (pc' := 34) X6 hx (hb hby own_df_32) rfl rfl ?_
        refine Run.bipush (pc' := 36) (v := (10 : Int32)) X6 hx (hb hby own_df_34) rfl rfl ?_
        by_cases hc36 : (f i) = (10 : Int32)
        · skip
          refine Run.icmpYes (pc' := 68) X6 hx (hb hby own_df_36) (teq hc36).1 (by decide) (by decide) ?_
          refine Run.aloadN (pc' := 69) X6 hx (hb hby own_df_68) rfl rfl ?_
          obtain ⟨T14, X14, e14, st14⟩ := getF X6 hx hZ hown (host := "") (Or.inl (hw _ (List.mem_of_getElem? (i := 37) rfl))) Via.refl e6 fq10 (g := (mkF m 69 #[.val (.ref o0), .val (.ref o1), .val (.int p2), .val (.int p3), .val (.int i), .val (.int (f i)), s6] [(.ref o0)])) rfl rfl (hb hby own_df_69)
          refine Run.back (g' := (mkF m 72 #[.val (.ref o0), .val (.ref o1), .val (.int p2), .val (.int p3), .val (.int i), .val (.int (f i)), s6] [(.int ll)])) st14 ?_
          refine Run.aloadN (pc' := 73) X14 hx (hb hby own_df_72) rfl rfl ?_
          obtain ⟨T15, X15, e15, st15⟩ := getF X14 hx hZ hown (host := "") (Or.inl (hw _ (List.mem_of_getElem? (i := 39) rfl))) Via.refl e14 fq11 (g := (mkF m 73 #[.val (.ref o0), .val (.ref o1), .val (.int p2), .val (.int p3), .val (.int i), .val (.int (f i)), s6] [(.ref o0), (.int ll)])) rfl rfl (hb hby own_df_73)
          refine Run.back (g' := (mkF m 76 #[.val (.ref o0), .val (.ref o1), .val (.int p2), .val (.int p3), .val (.int i), .val (.int (f i)), s6] [(.int cr), (.int ll)])) st15 ?_
          by_cases hc76 : cr = (0 : Int32)
          · skip
            refine Run.ifYes (pc' := 83) X15 hx (hb hby own_df_76) ((if0 _ _).trans (teq hc76).1) (by decide) (by decide) ?_
            refine Run.iconst (pc' := 84) (v := (0 : Int32)) X15 hx (hb hby own_df_83) rfl rfl ?_
            refine Run.isub (pc' := 85) X15 hx (hb hby own_df_84) rfl ?_
            refine Run.istore (pc' := 87) X15 hx (l' := #[.val (.ref o0), .val (.ref o1), .val (.int p2), .val (.int p3), .val (.int i), .val (.int (f i)), .val (.int (ll - (0 : Int32)))]) (hb hby own_df_85) (XS.store1 (o := s6) rfl hs6 rfl) rfl ?_
            refine Run.iload (pc' := 89) X15 hx (hb hby own_df_87) rfl rfl ?_
            by_cases hc89 : (0 : Int32) < (ll - (0 : Int32))
            · skip
              refine Run.ifNo (pc' := 92) X15 hx (hb hby own_df_89) ((if0 _ _).trans (tlt hc89).2.2.2) rfl ?_
              refine Run.aloadN (pc' := 93) X15 hx (hb hby own_df_92) rfl rfl ?_
              refine Run.iconst (pc' := 94) (v := (1 : Int32)) X15 hx (hb hby own_df_93) rfl rfl ?_
              obtain ⟨T16, h16, X16, e16, W16, st16⟩ := putFN X15 hx hZ hown (hw _ (List.mem_of_getElem? (i := 41) rfl)) Via.refl e15 fq12 fq7 (Or.inl (hw _ (List.mem_of_getElem? (i := 42) rfl))) (hw _ (List.mem_of_getElem? (i := 20) rfl)) (ty := .boolean) (v' := .int (1 : Int32)) (by decide) rfl rfl (g := (mkF m 94 #[.val (.ref o0), .val (.ref o1), .val (.int p2), .val (.int p3), .val (.int i), .val (.int (f i)), .val (.int (ll - (0 : Int32)))] [(.int (1 : Int32)), (.ref o0)])) rfl rfl (hb hby own_df_94)
              have N16 := Fr.snoc X16 N6 g_o
              have fq17 := Exa.wr W16 fq7
              have fq18 := Ints.other W16 fq8 ne_o
              have fq19 := Fld.other W16 fq9 (Or.inr (slot_ne (Or.inl (hw _ (List.mem_of_getElem? (i := 36) rfl))) (Or.inl (hw _ (List.mem_of_getElem? (i := 42) rfl))) (by decide) (t := .int) (t' := .boolean) (by decide) (by decide)))
              have fq20 := Fld.other W16 fq10 (Or.inr (slot_ne (Or.inl (hw _ (List.mem_of_getElem? (i := 38) rfl))) (Or.inl (hw _ (List.mem_of_getElem? (i := 42) rfl))) (by decide) (t := .int) (t' := .boolean) (by decide) (by decide)))
              have fq21 := Fld.other W16 fq11 (Or.inr (slot_ne (Or.inl (hw _ (List.mem_of_getElem? (i := 40) rfl))) (Or.inl (hw _ (List.mem_of_getElem? (i := 42) rfl))) (by decide) (t := .boolean) (t' := .boolean) (by decide) (by decide)))
              have fq22 := Fld.same W16 fq12
              have fq23 := Fld.other W16 fq13 (Or.inr (slot_ne (Or.inl (hw _ (List.mem_of_getElem? (i := 34) rfl))) (Or.inl (hw _ (List.mem_of_getElem? (i := 42) rfl))) (by decide) (t := .boolean) (t' := .boolean) (by decide) (by decide)))
              have Z16 : n0 ≤ h16.size := Nat.le_trans Z6 (Keep.of_wr W16).1
              have K16 := K6.wr W16 (Or.inl (List.mem_of_getElem? (i := 0) rfl))
              refine Run.back (g' := (mkF m 97 #[.val (.ref o0), .val (.ref o1), .val (.int p2), .val (.int p3), .val (.int i), .val (.int (f i)), .val (.int (ll - (0 : Int32)))] [])) st16 ?_
              refine Run.goto (pc' := 112) X16 hx (hb hby own_df_97) (by decide) (by decide) ?_
              refine Run.aloadN (pc' := 113) X16 hx (hb hby own_df_112) rfl rfl ?_
              refine Run.iconst (pc' := 114) (v := (0 : Int32)) X16 hx (hb hby own_df_113) rfl rfl ?_
              obtain ⟨T24, h24, X24, e24, W24, st24⟩ := putF X16 hx hZ hown (host := "") (Or.inl (hw _ (List.mem_of_getElem? (i := 37) rfl))) Via.refl e16 fq20 fq17 (Or.inl (hw _ (List.mem_of_getElem? (i := 38) rfl))) (hw _ (List.mem_of_getElem? (i := 20) rfl)) (ty := .int) (by decide) rfl rfl (g := (mkF m 114 #[.val (.ref o0), .val (.ref o1), .val (.int p2), .val (.int p3), .val (.int i), .val (.int (f i)), .val (.int (ll - (0 : Int32)))] [(.int (0 : Int32)), (.ref o0)])) rfl rfl (hb hby own_df_114)
              have N24 := Fr.snoc X24 N16 g_o
              have fq25 := Exa.wr W24 fq17
              have fq26 := Ints.other W24 fq18 ne_o
              have fq27 := Fld.other W24 fq19 (Or.inr (slot_ne (Or.inl (hw _ (List.mem_of_getElem? (i := 36) rfl))) (Or.inl (hw _ (List.mem_of_getElem? (i := 38) rfl))) (by decide) (t := .int) (t' := .int) (by decide) (by decide)))
              have fq28 := Fld.same W24 fq20
              have fq29 := Fld.other W24 fq21 (Or.inr (slot_ne (Or.inl (hw _ (List.mem_of_getElem? (i := 40) rfl))) (Or.inl (hw _ (List.mem_of_getElem? (i := 38) rfl))) (by decide) (t := .boolean) (t' := .int) (by decide) (by decide)))
              have fq30 := Fld.other W24 fq22 (Or.inr (slot_ne (Or.inl (hw _ (List.mem_of_getElem? (i := 42) rfl))) (Or.inl (hw _ (List.mem_of_getElem? (i := 38) rfl))) (by decide) (t := .boolean) (t' := .int) (by decide) (by decide)))
              have fq31 := Fld.other W24 fq23 (Or.inr (slot_ne (Or.inl (hw _ (List.mem_of_getElem? (i := 34) rfl))) (Or.inl (hw _ (List.mem_of_getElem? (i := 38) rfl))) (by decide) (t := .boolean) (t' := .int) (by decide) (by decide)))
              have Z24 : n0 ≤ h24.size := Nat.le_trans Z16 (Keep.of_wr W24).1
              have K24 := K16.wr W24 (Or.inl (List.mem_of_getElem? (i := 0) rfl))
              refine Run.back (g' := (mkF m 117 #[.val (.ref o0), .val (.ref o1), .val (.int p2), .val (.int p3), .val (.int i), .val (.int (f i)), .val (.int (ll - (0 : Int32)))] [])) st24 ?_
              refine Run.aloadN (pc' := 118) X24 hx (hb hby own_df_117) rfl rfl ?_
              refine Run.iconst (pc' := 119) (v := (0 : Int32)) X24 hx (hb hby own_df_118) rfl rfl ?_
              obtain ⟨T32, h32, X32, e32, W32, st32⟩ := putFN X24 hx hZ hown (hw _ (List.mem_of_getElem? (i := 39) rfl)) Via.refl e24 fq29 fq25 (Or.inl (hw _ (List.mem_of_getElem? (i := 40) rfl))) (hw _ (List.mem_of_getElem? (i := 20) rfl)) (ty := .boolean) (v' := .int (0 : Int32)) (by decide) rfl rfl (g := (mkF m 119 #[.val (.ref o0), .val (.ref o1), .val (.int p2), .val (.int p3), .val (.int i), .val (.int (f i)), .val (.int (ll - (0 : Int32)))] [(.int (0 : Int32)), (.ref o0)])) rfl rfl (hb hby own_df_119)
              have N32 := Fr.snoc X32 N24 g_o
              have fq33 := Exa.wr W32 fq25
              have fq34 := Ints.other W32 fq26 ne_o
              have fq35 := Fld.other W32 fq27 (Or.inr (slot_ne (Or.inl (hw _ (List.mem_of_getElem? (i := 36) rfl))) (Or.inl (hw _ (List.mem_of_getElem? (i := 40) rfl))) (by decide) (t := .int) (t' := .boolean) (by decide) (by decide)))
              have fq36 := Fld.other W32 fq28 (Or.inr (slot_ne (Or.inl (hw _ (List.mem_of_getElem? (i := 38) rfl))) (Or.inl (hw _ (List.mem_of_getElem? (i := 40) rfl))) (by decide) (t := .int) (t' := .boolean) (by decide) (by decide)))
              have fq37 := Fld.same W32 fq29
              have fq38 := Fld.other W32 fq30 (Or.inr (slot_ne (Or.inl (hw _ (List.mem_of_getElem? (i := 42) rfl))) (Or.inl (hw _ (List.mem_of_getElem? (i := 40) rfl))) (by decide) (t := .boolean) (t' := .boolean) (by decide) (by decide)))
              have fq39 := Fld.other W32 fq31 (Or.inr (slot_ne (Or.inl (hw _ (List.mem_of_getElem? (i := 34) rfl))) (Or.inl (hw _ (List.mem_of_getElem? (i := 40) rfl))) (by decide) (t := .boolean) (t' := .boolean) (by decide) (by decide)))
              have Z32 : n0 ≤ h32.size := Nat.le_trans Z24 (Keep.of_wr W32).1
              have K32 := K24.wr W32 (Or.inl (List.mem_of_getElem? (i := 0) rfl))
              refine Run.back (g' := (mkF m 122 #[.val (.ref o0), .val (.ref o1), .val (.int p2), .val (.int p3), .val (.int i), .val (.int (f i)), .val (.int (ll - (0 : Int32)))] [])) st32 ?_
              refine Run.iinc (pc' := 125) (w := (1 : Int32)) (l' := #[.val (.ref o0), .val (.ref o1), .val (.int p2), .val (.int p3), .val (.int (i + (1 : Int32))), .val (.int (f i)), .val (.int (ll - (0 : Int32)))]) X32 hx (hb hby own_df_122) rfl rfl rfl rfl ?_
              refine Run.goto (pc' := 3) X32 hx (hb hby own_df_125) (by decide) (by decide) ?_
              rw [if_pos hc7, own_step, if_pos hc36, if_pos hc76, own_line, if_pos hc89] at hR2
              exact ih _ _ _ _ _ _ _ _ _ _ _ R hR2 (One.val rfl) (One.val rfl) (by rw [hup]; omega) (by rw [hup]; omega) X32 e32 N32 K32 fq33 fq35 fq36 fq37 fq38 fq39 fq34 Z32
            · skip
              refine Run.ifYes (pc' := 100) X15 hx (hb hby own_df_89) ((if0 _ _).trans (flt hc89).2.2.2) (by decide) (by decide) ?_
              refine Run.aloadN (pc' := 101) X15 hx (hb hby own_df_100) rfl rfl ?_
              obtain ⟨T40, X40, e40, st40⟩ := getF X15 hx hZ hown (host := "") (Or.inl (hw _ (List.mem_of_getElem? (i := 41) rfl))) Via.refl e15 fq12 (g := (mkF m 101 #[.val (.ref o0), .val (.ref o1), .val (.int p2), .val (.int p3), .val (.int i), .val (.int (f i)), .val (.int (ll - (0 : Int32)))] [(.ref o0)])) rfl rfl (hb hby own_df_101)
              refine Run.back (g' := (mkF m 104 #[.val (.ref o0), .val (.ref o1), .val (.int p2), .val (.int p3), .val (.int i), .val (.int (f i)), .val (.int (ll - (0 : Int32)))] [(.int bg)])) st40 ?_
              by_cases hc104 : bg = (0 : Int32)
              · skip
                refine Run.ifYes (pc' := 112) X40 hx (hb hby own_df_104) ((if0 _ _).trans (teq hc104).1) (by decide) (by decide) ?_
                refine Run.aloadN (pc' := 113) X40 hx (hb hby own_df_112) rfl rfl ?_
                refine Run.iconst (pc' := 114) (v := (0 : Int32)) X40 hx (hb hby own_df_113) rfl rfl ?_
                obtain ⟨T41, h41, X41, e41, W41, st41⟩ := putF X40 hx hZ hown (host := "") (Or.inl (hw _ (List.mem_of_getElem? (i := 37) rfl))) Via.refl e40 fq10 fq7 (Or.inl (hw _ (List.mem_of_getElem? (i := 38) rfl))) (hw _ (List.mem_of_getElem? (i := 20) rfl)) (ty := .int) (by decide) rfl rfl (g := (mkF m 114 #[.val (.ref o0), .val (.ref o1), .val (.int p2), .val (.int p3), .val (.int i), .val (.int (f i)), .val (.int (ll - (0 : Int32)))] [(.int (0 : Int32)), (.ref o0)])) rfl rfl (hb hby own_df_114)
                have N41 := Fr.snoc X41 N6 g_o
                have fq42 := Exa.wr W41 fq7
                have fq43 := Ints.other W41 fq8 ne_o
                have fq44 := Fld.other W41 fq9 (Or.inr (slot_ne (Or.inl (hw _ (List.mem_of_getElem? (i := 36) rfl))) (Or.inl (hw _ (List.mem_of_getElem? (i := 38) rfl))) (by decide) (t := .int) (t' := .int) (by decide) (by decide)))
                have fq45 := Fld.same W41 fq10
                have fq46 := Fld.other W41 fq11 (Or.inr (slot_ne (Or.inl (hw _ (List.mem_of_getElem? (i := 40) rfl))) (Or.inl (hw _ (List.mem_of_getElem? (i := 38) rfl))) (by decide) (t := .boolean) (t' := .int) (by decide) (by decide)))
                have fq47 := Fld.other W41 fq12 (Or.inr (slot_ne (Or.inl (hw _ (List.mem_of_getElem? (i := 42) rfl))) (Or.inl (hw _ (List.mem_of_getElem? (i := 38) rfl))) (by decide) (t := .boolean) (t' := .int) (by decide) (by decide)))
                have fq48 := Fld.other W41 fq13 (Or.inr (slot_ne (Or.inl (hw _ (List.mem_of_getElem? (i := 34) rfl))) (Or.inl (hw _ (List.mem_of_getElem? (i := 38) rfl))) (by decide) (t := .boolean) (t' := .int) (by decide) (by decide)))
                have Z41 : n0 ≤ h41.size := Nat.le_trans Z6 (Keep.of_wr W41).1
                have K41 := K6.wr W41 (Or.inl (List.mem_of_getElem? (i := 0) rfl))
                refine Run.back (g' := (mkF m 117 #[.val (.ref o0), .val (.ref o1), .val (.int p2), .val (.int p3), .val (.int i), .val (.int (f i)), .val (.int (ll - (0 : Int32)))] [])) st41 ?_
                refine Run.aloadN (pc' := 118) X41 hx (hb hby own_df_117) rfl rfl ?_
                refine Run.iconst (pc' := 119) (v := (0 : Int32)) X41 hx (hb hby own_df_118) rfl rfl ?_
                obtain ⟨T49, h49, X49, e49, W49, st49⟩ := putFN X41 hx hZ hown (hw _ (List.mem_of_getElem? (i := 39) rfl)) Via.refl e41 fq46 fq42 (Or.inl (hw _ (List.mem_of_getElem? (i := 40) rfl))) (hw _ (List.mem_of_getElem? (i := 20) rfl)) (ty := .boolean) (v' := .int (0 : Int32)) (by decide) rfl rfl (g := (mkF m 119 #[.val (.ref o0), .val (.ref o1), .val (.int p2), .val (.int p3), .val (.int i), .val (.int (f i)), .val (.int (ll - (0 : Int32)))] [(.int (0 : Int32)), (.ref o0)])) rfl rfl (hb hby own_df_119)
                have N49 := Fr.snoc X49 N41 g_o
                have fq50 := Exa.wr W49 fq42
                have fq51 := Ints.other W49 fq43 ne_o
                have fq52 := Fld.other W49 fq44 (Or.inr (slot_ne (Or.inl (hw _ (List.mem_of_getElem? (i := 36) rfl))) (Or.inl (hw _ (List.mem_of_getElem? (i := 40) rfl))) (by decide) (t := .int) (t' := .boolean) (by decide) (by decide)))
                have fq53 := Fld.other W49 fq45 (Or.inr (slot_ne (Or.inl (hw _ (List.mem_of_getElem? (i := 38) rfl))) (Or.inl (hw _ (List.mem_of_getElem? (i := 40) rfl))) (by decide) (t := .int) (t' := .boolean) (by decide) (by decide)))
                have fq54 := Fld.same W49 fq46
                have fq55 := Fld.other W49 fq47 (Or.inr (slot_ne (Or.inl (hw _ (List.mem_of_getElem? (i := 42) rfl))) (Or.inl (hw _ (List.mem_of_getElem? (i := 40) rfl))) (by decide) (t := .boolean) (t' := .boolean) (by decide) (by decide)))
                have fq56 := Fld.other W49 fq48 (Or.inr (slot_ne (Or.inl (hw _ (List.mem_of_getElem? (i := 34) rfl))) (Or.inl (hw _ (List.mem_of_getElem? (i := 40) rfl))) (by decide) (t := .boolean) (t' := .boolean) (by decide) (by decide)))
                have Z49 : n0 ≤ h49.size := Nat.le_trans Z41 (Keep.of_wr W49).1
                have K49 := K41.wr W49 (Or.inl (List.mem_of_getElem? (i := 0) rfl))
                refine Run.back (g' := (mkF m 122 #[.val (.ref o0), .val (.ref o1), .val (.int p2), .val (.int p3), .val (.int i), .val (.int (f i)), .val (.int (ll - (0 : Int32)))] [])) st49 ?_
                refine Run.iinc (pc' := 125) (w := (1 : Int32)) (l' := #[.val (.ref o0), .val (.ref o1), .val (.int p2), .val (.int p3), .val (.int (i + (1 : Int32))), .val (.int (f i)), .val (.int (ll - (0 : Int32)))]) X49 hx (hb hby own_df_122) rfl rfl rfl rfl ?_
                refine Run.goto (pc' := 3) X49 hx (hb hby own_df_125) (by decide) (by decide) ?_
                rw [if_pos hc7, own_step, if_pos hc36, if_pos hc76, own_line, if_neg hc89, if_pos hc104] at hR2
                exact ih _ _ _ _ _ _ _ _ _ _ _ R hR2 (One.val rfl) (One.val rfl) (by rw [hup]; omega) (by rw [hup]; omega) X49 e49 N49 K49 fq50 fq52 fq53 fq54 fq55 fq56 fq51 Z49
              · skip
                refine Run.ifNo (pc' := 107) X40 hx (hb hby own_df_104) ((if0 _ _).trans (feq hc104).1) rfl ?_
                refine Run.aloadN (pc' := 108) X40 hx (hb hby own_df_107) rfl rfl ?_
                refine Run.iconst (pc' := 109) (v := (1 : Int32)) X40 hx (hb hby own_df_108) rfl rfl ?_
                obtain ⟨T57, h57, X57, e57, W57, st57⟩ := putFN X40 hx hZ hown (hw _ (List.mem_of_getElem? (i := 33) rfl)) Via.refl e40 fq13 fq7 (Or.inl (hw _ (List.mem_of_getElem? (i := 34) rfl))) (hw _ (List.mem_of_getElem? (i := 20) rfl)) (ty := .boolean) (v' := .int (1 : Int32)) (by decide) rfl rfl (g := (mkF m 109 #[.val (.ref o0), .val (.ref o1), .val (.int p2), .val (.int p3), .val (.int i), .val (.int (f i)), .val (.int (ll - (0 : Int32)))] [(.int (1 : Int32)), (.ref o0)])) rfl rfl (hb hby own_df_109)
                have N57 := Fr.snoc X57 N6 g_o
                have fq58 := Exa.wr W57 fq7
                have fq59 := Ints.other W57 fq8 ne_o
                have fq60 := Fld.other W57 fq9 (Or.inr (slot_ne (Or.inl (hw _ (List.mem_of_getElem? (i := 36) rfl))) (Or.inl (hw _ (List.mem_of_getElem? (i := 34) rfl))) (by decide) (t := .int) (t' := .boolean) (by decide) (by decide)))
                have fq61 := Fld.other W57 fq10 (Or.inr (slot_ne (Or.inl (hw _ (List.mem_of_getElem? (i := 38) rfl))) (Or.inl (hw _ (List.mem_of_getElem? (i := 34) rfl))) (by decide) (t := .int) (t' := .boolean) (by decide) (by decide)))
                have fq62 := Fld.other W57 fq11 (Or.inr (slot_ne (Or.inl (hw _ (List.mem_of_getElem? (i := 40) rfl))) (Or.inl (hw _ (List.mem_of_getElem? (i := 34) rfl))) (by decide) (t := .boolean) (t' := .boolean) (by decide) (by decide)))
                have fq63 := Fld.other W57 fq12 (Or.inr (slot_ne (Or.inl (hw _ (List.mem_of_getElem? (i := 42) rfl))) (Or.inl (hw _ (List.mem_of_getElem? (i := 34) rfl))) (by decide) (t := .boolean) (t' := .boolean) (by decide) (by decide)))
                have fq64 := Fld.same W57 fq13
                have Z57 : n0 ≤ h57.size := Nat.le_trans Z6 (Keep.of_wr W57).1
                have K57 := K6.wr W57 (Or.inl (List.mem_of_getElem? (i := 0) rfl))
                refine Run.back (g' := (mkF m 112 #[.val (.ref o0), .val (.ref o1), .val (.int p2), .val (.int p3), .val (.int i), .val (.int (f i)), .val (.int (ll - (0 : Int32)))] [])) st57 ?_
                refine Run.aloadN (pc' := 113) X57 hx (hb hby own_df_112) rfl rfl ?_
                refine Run.iconst (pc' := 114) (v := (0 : Int32)) X57 hx (hb hby own_df_113) rfl rfl ?_
                obtain ⟨T65, h65, X65, e65, W65, st65⟩ := putF X57 hx hZ hown (host := "") (Or.inl (hw _ (List.mem_of_getElem? (i := 37) rfl))) Via.refl e57 fq61 fq58 (Or.inl (hw _ (List.mem_of_getElem? (i := 38) rfl))) (hw _ (List.mem_of_getElem? (i := 20) rfl)) (ty := .int) (by decide) rfl rfl (g := (mkF m 114 #[.val (.ref o0), .val (.ref o1), .val (.int p2), .val (.int p3), .val (.int i), .val (.int (f i)), .val (.int (ll - (0 : Int32)))] [(.int (0 : Int32)), (.ref o0)])) rfl rfl (hb hby own_df_114)
                have N65 := Fr.snoc X65 N57 g_o
                have fq66 := Exa.wr W65 fq58
                have fq67 := Ints.other W65 fq59 ne_o
                have fq68 := Fld.other W65 fq60 (Or.inr (slot_ne (Or.inl (hw _ (List.mem_of_getElem? (i := 36) rfl))) (Or.inl (hw _ (List.mem_of_getElem? (i := 38) rfl))) (by decide) (t := .int) (t' := .int) (by decide) (by decide)))
                have fq69 := Fld.same W65 fq61
                have fq70 := Fld.other W65 fq62 (Or.inr (slot_ne (Or.inl (hw _ (List.mem_of_getElem? (i := 40) rfl))) (Or.inl (hw _ (List.mem_of_getElem? (i := 38) rfl))) (by decide) (t := .boolean) (t' := .int) (by decide) (by decide)))
                have fq71 := Fld.other W65 fq63 (Or.inr (slot_ne (Or.inl (hw _ (List.mem_of_getElem? (i := 42) rfl))) (Or.inl (hw _ (List.mem_of_getElem? (i := 38) rfl))) (by decide) (t := .boolean) (t' := .int) (by decide) (by decide)))
                have fq72 := Fld.other W65 fq64 (Or.inr (slot_ne (Or.inl (hw _ (List.mem_of_getElem? (i := 34) rfl))) (Or.inl (hw _ (List.mem_of_getElem? (i := 38) rfl))) (by decide) (t := .boolean) (t' := .int) (by decide) (by decide)))
                have Z65 : n0 ≤ h65.size := Nat.le_trans Z57 (Keep.of_wr W65).1
                have K65 := K57.wr W65 (Or.inl (List.mem_of_getElem? (i := 0) rfl))
                refine Run.back (g' := (mkF m 117 #[.val (.ref o0), .val (.ref o1), .val (.int p2), .val (.int p3), .val (.int i), .val (.int (f i)), .val (.int (ll - (0 : Int32)))] [])) st65 ?_
                refine Run.aloadN (pc' := 118) X65 hx (hb hby own_df_117) rfl rfl ?_
                refine Run.iconst (pc' := 119) (v := (0 : Int32)) X65 hx (hb hby own_df_118) rfl rfl ?_
                obtain ⟨T73, h73, X73, e73, W73, st73⟩ := putFN X65 hx hZ hown (hw _ (List.mem_of_getElem? (i := 39) rfl)) Via.refl e65 fq70 fq66 (Or.inl (hw _ (List.mem_of_getElem? (i := 40) rfl))) (hw _ (List.mem_of_getElem? (i := 20) rfl)) (ty := .boolean) (v' := .int (0 : Int32)) (by decide) rfl rfl (g := (mkF m 119 #[.val (.ref o0), .val (.ref o1), .val (.int p2), .val (.int p3), .val (.int i), .val (.int (f i)), .val (.int (ll - (0 : Int32)))] [(.int (0 : Int32)), (.ref o0)])) rfl rfl (hb hby own_df_119)
                have N73 := Fr.snoc X73 N65 g_o
                have fq74 := Exa.wr W73 fq66
                have fq75 := Ints.other W73 fq67 ne_o
                have fq76 := Fld.other W73 fq68 (Or.inr (slot_ne (Or.inl (hw _ (List.mem_of_getElem? (i := 36) rfl))) (Or.inl (hw _ (List.mem_of_getElem? (i := 40) rfl))) (by decide) (t := .int) (t' := .boolean) (by decide) (by decide)))
                have fq77 := Fld.other W73 fq69 (Or.inr (slot_ne (Or.inl (hw _ (List.mem_of_getElem? (i := 38) rfl))) (Or.inl (hw _ (List.mem_of_getElem? (i := 40) rfl))) (by decide) (t := .int) (t' := .boolean) (by decide) (by decide)))
                have fq78 := Fld.same W73 fq70
                have fq79 := Fld.other W73 fq71 (Or.inr (slot_ne (Or.inl (hw _ (List.mem_of_getElem? (i := 42) rfl))) (Or.inl (hw _ (List.mem_of_getElem? (i := 40) rfl))) (by decide) (t := .boolean) (t' := .boolean) (by decide) (by decide)))
                have fq80 := Fld.other W73 fq72 (Or.inr (slot_ne (Or.inl (hw _ (List.mem_of_getElem? (i := 34) rfl))) (Or.inl (hw _ (List.mem_of_getElem? (i := 40) rfl))) (by decide) (t := .boolean) (t' := .boolean) (by decide) (by decide)))
                have Z73 : n0 ≤ h73.size := Nat.le_trans Z65 (Keep.of_wr W73).1
                have K73 := K65.wr W73 (Or.inl (List.mem_of_getElem? (i := 0) rfl))
                refine Run.back (g' := (mkF m 122 #[.val (.ref o0), .val (.ref o1), .val (.int p2), .val (.int p3), .val (.int i), .val (.int (f i)), .val (.int (ll - (0 : Int32)))] [])) st73 ?_
                refine Run.iinc (pc' := 125) (w := (1 : Int32)) (l' := #[.val (.ref o0), .val (.ref o1), .val (.int p2), .val (.int p3), .val (.int (i + (1 : Int32))), .val (.int (f i)), .val (.int (ll - (0 : Int32)))]) X73 hx (hb hby own_df_122) rfl rfl rfl rfl ?_
                refine Run.goto (pc' := 3) X73 hx (hb hby own_df_125) (by decide) (by decide) ?_
                rw [if_pos hc7, own_step, if_pos hc36, if_pos hc76, own_line, if_neg hc89, if_neg hc104] at hR2
                exact ih _ _ _ _ _ _ _ _ _ _ _ R hR2 (One.val rfl) (One.val rfl) (by rw [hup]; omega) (by rw [hup]; omega) X73 e73 N73 K73 fq74 fq76 fq77 fq78 fq79 fq80 fq75 Z73
          · skip
            refine Run.ifNo (pc' := 79) X15 hx (hb hby own_df_76) ((if0 _ _).trans (feq hc76).1) rfl ?_
            refine Run.iconst (pc' := 80) (v := (1 : Int32)) X15 hx (hb hby own_df_79) rfl rfl ?_
            refine Run.goto (pc' := 84) X15 hx (hb hby own_df_80) (by decide) (by decide) ?_
            refine Run.isub (pc' := 85) X15 hx (hb hby own_df_84) rfl ?_
            refine Run.istore (pc' := 87) X15 hx (l' := #[.val (.ref o0), .val (.ref o1), .val (.int p2), .val (.int p3), .val (.int i), .val (.int (f i)), .val (.int (ll - (1 : Int32)))]) (hb hby own_df_85) (XS.store1 (o := s6) rfl hs6 rfl) rfl ?_
            refine Run.iload (pc' := 89) X15 hx (hb hby own_df_87) rfl rfl ?_
            by_cases hc89 : (0 : Int32) < (ll - (1 : Int32))
            · skip
              refine Run.ifNo (pc' := 92) X15 hx (hb hby own_df_89) ((if0 _ _).trans (tlt hc89).2.2.2) rfl ?_
              refine Run.aloadN (pc' := 93) X15 hx (hb hby own_df_92) rfl rfl ?_
              refine Run.iconst (pc' := 94) (v := (1 : Int32)) X15 hx (hb hby own_df_93) rfl rfl ?_
              obtain ⟨T81, h81, X81, e81, W81, st81⟩ := putFN X15 hx hZ hown (hw _ (List.mem_of_getElem? (i := 41) rfl)) Via.refl e15 fq12 fq7 (Or.inl (hw _ (List.mem_of_getElem? (i := 42) rfl))) (hw _ (List.mem_of_getElem? (i := 20) rfl)) (ty := .boolean) (v' := .int (1 : Int32)) (by decide) rfl rfl (g := (mkF m 94 #[.val (.ref o0), .val (.ref o1), .val (.int p2), .val (.int p3), .val (.int i), .val (.int (f i)), .val (.int (ll - (1 : Int32)))] [(.int (1 : Int32)), (.ref o0)])) rfl rfl (hb hby own_df_94)
              have N81 := Fr.snoc X81 N6 g_o
              have fq82 := Exa.wr W81 fq7
              have fq83 := Ints.other W81 fq8 ne_o
              have fq84 := Fld.other W81 fq9 (Or.inr (slot_ne (Or.inl (hw _ (List.mem_of_getElem? (i := 36) rfl))) (Or.inl (hw _ (List.mem_of_getElem? (i := 42) rfl))) (by decide) (t := .int) (t' := .boolean) (by decide) (by decide)))
              have fq85 := Fld.other W81 fq10 (Or.inr (slot_ne (Or.inl (hw _ (List.mem_of_getElem? (i := 38) rfl))) (Or.inl (hw _ (List.mem_of_getElem? (i := 42) rfl))) (by decide) (t := .int) (t' := .boolean) (by decide) (by decide)))
              have fq86 := Fld.other W81 fq11 (Or.inr (slot_ne (Or.inl (hw _ (List.mem_of_getElem? (i := 40) rfl))) (Or.inl (hw _ (List.mem_of_getElem? (i := 42) rfl))) (by decide) (t := .boolean) (t' := .boolean) (by decide) (by decide)))
              have fq87 := Fld.same W81 fq12
              have fq88 := Fld.other W81 fq13 (Or.inr (slot_ne (Or.inl (hw _ (List.mem_of_getElem? (i := 34) rfl))) (Or.inl (hw _ (List.mem_of_getElem? (i := 42) rfl))) (by decide) (t := .boolean) (t' := .boolean) (by decide) (by decide)))
              have Z81 : n0 ≤ h81.size := Nat.le_trans Z6 (Keep.of_wr W81).1
              have K81 := K6.wr W81 (Or.inl (List.mem_of_getElem? (i := 0) rfl))
              refine Run.back (g' := (mkF m 97 #[.val (.ref o0), .val (.ref o1), .val (.int p2), .val (.int p3), .val (.int i), .val (.int (f i)), .val (.int (ll - (1 : Int32)))] [])) st81 ?_
              refine Run.goto (pc' := 112) X81 hx (hb hby own_df_97) (by decide) (by decide) ?_
              refine Run.aloadN (pc' := 113) X81 hx (hb hby own_df_112) rfl rfl ?_
              refine Run.iconst (pc' := 114) (v := (0 : Int32)) X81 hx (hb hby own_df_113) rfl rfl ?_
              obtain ⟨T89, h89, X89, e89, W89, st89⟩ := putF X81 hx hZ hown (host := "") (Or.inl (hw _ (List.mem_of_getElem? (i := 37) rfl))) Via.refl e81 fq85 fq82 (Or.inl (hw _ (List.mem_of_getElem? (i := 38) rfl))) (hw _ (List.mem_of_getElem? (i := 20) rfl)) (ty := .int) (by decide) rfl rfl (g := (mkF m 114 #[.val (.ref o0), .val (.ref o1), .val (.int p2), .val (.int p3), .val (.int i), .val (.int (f i)), .val (.int (ll - (1 : Int32)))] [(.int (0 : Int32)), (.ref o0)])) rfl rfl (hb hby own_df_114)
              have N89 := Fr.snoc X89 N81 g_o
              have fq90 := Exa.wr W89 fq82
              have fq91 := Ints.other W89 fq83 ne_o
              have fq92 := Fld.other W89 fq84 (Or.inr (slot_ne (Or.inl (hw _ (List.mem_of_getElem? (i := 36) rfl))) (Or.inl (hw _ (List.mem_of_getElem? (i := 38) rfl))) (by decide) (t := .int) (t' := .int) (by decide) (by decide)))
              have fq93 := Fld.same W89 fq85
              have fq94 := Fld.other W89 fq86 (Or.inr (slot_ne (Or.inl (hw _ (List.mem_of_getElem? (i := 40) rfl))) (Or.inl (hw _ (List.mem_of_getElem? (i := 38) rfl))) (by decide) (t := .boolean) (t' := .int) (by decide) (by decide)))
              have fq95 := Fld.other W89 fq87 (Or.inr (slot_ne (Or.inl (hw _ (List.mem_of_getElem? (i := 42) rfl))) (Or.inl (hw _ (List.mem_of_getElem? (i := 38) rfl))) (by decide) (t := .boolean) (t' := .int) (by decide) (by decide)))
              have fq96 := Fld.other W89 fq88 (Or.inr (slot_ne (Or.inl (hw _ (List.mem_of_getElem? (i := 34) rfl))) (Or.inl (hw _ (List.mem_of_getElem? (i := 38) rfl))) (by decide) (t := .boolean) (t' := .int) (by decide) (by decide)))
              have Z89 : n0 ≤ h89.size := Nat.le_trans Z81 (Keep.of_wr W89).1
              have K89 := K81.wr W89 (Or.inl (List.mem_of_getElem? (i := 0) rfl))
              refine Run.back (g' := (mkF m 117 #[.val (.ref o0), .val (.ref o1), .val (.int p2), .val (.int p3), .val (.int i), .val (.int (f i)), .val (.int (ll - (1 : Int32)))] [])) st89 ?_
              refine Run.aloadN (pc' := 118) X89 hx (hb hby own_df_117) rfl rfl ?_
              refine Run.iconst (pc' := 119) (v := (0 : Int32)) X89 hx (hb hby own_df_118) rfl rfl ?_
              obtain ⟨T97, h97, X97, e97, W97, st97⟩ := putFN X89 hx hZ hown (hw _ (List.mem_of_getElem? (i := 39) rfl)) Via.refl e89 fq94 fq90 (Or.inl (hw _ (List.mem_of_getElem? (i := 40) rfl))) (hw _ (List.mem_of_getElem? (i := 20) rfl)) (ty := .boolean) (v' := .int (0 : Int32)) (by decide) rfl rfl (g := (mkF m 119 #[.val (.ref o0), .val (.ref o1), .val (.int p2), .val (.int p3), .val (.int i), .val (.int (f i)), .val (.int (ll - (1 : Int32)))] [(.int (0 : Int32)), (.ref o0)])) rfl rfl (hb hby own_df_119)
              have N97 := Fr.snoc X97 N89 g_o
              have fq98 := Exa.wr W97 fq90
              have fq99 := Ints.other W97 fq91 ne_o
              have fq100 := Fld.other W97 fq92 (Or.inr (slot_ne (Or.inl (hw _ (List.mem_of_getElem? (i := 36) rfl))) (Or.inl (hw _ (List.mem_of_getElem? (i := 40) rfl))) (by decide) (t := .int) (t' := .boolean) (by decide) (by decide)))
              have fq101 := Fld.other W97 fq93 (Or.inr (slot_ne (Or.inl (hw _ (List.mem_of_getElem? (i := 38) rfl))) (Or.inl (hw _ (List.mem_of_getElem? (i := 40) rfl))) (by decide) (t := .int) (t' := .boolean) (by decide) (by decide)))
              have fq102 := Fld.same W97 fq94
              have fq103 := Fld.other W97 fq95 (Or.inr (slot_ne (Or.inl (hw _ (List.mem_of_getElem? (i := 42) rfl))) (Or.inl (hw _ (List.mem_of_getElem? (i := 40) rfl))) (by decide) (t := .boolean) (t' := .boolean) (by decide) (by decide)))
              have fq104 := Fld.other W97 fq96 (Or.inr (slot_ne (Or.inl (hw _ (List.mem_of_getElem? (i := 34) rfl))) (Or.inl (hw _ (List.mem_of_getElem? (i := 40) rfl))) (by decide) (t := .boolean) (t' := .boolean) (by decide) (by decide)))
              have Z97 : n0 ≤ h97.size := Nat.le_trans Z89 (Keep.of_wr W97).1
              have K97 := K89.wr W97 (Or.inl (List.mem_of_getElem? (i := 0) rfl))
              refine Run.back (g' := (mkF m 122 #[.val (.ref o0), .val (.ref o1), .val (.int p2), .val (.int p3), .val (.int i), .val (.int (f i)), .val (.int (ll - (1 : Int32)))] [])) st97 ?_
              refine Run.iinc (pc' := 125) (w := (1 : Int32)) (l' := #[.val (.ref o0), .val (.ref o1), .val (.int p2), .val (.int p3), .val (.int (i + (1 : Int32))), .val (.int (f i)), .val (.int (ll - (1 : Int32)))]) X97 hx (hb hby own_df_122) rfl rfl rfl rfl ?_
              refine Run.goto (pc' := 3) X97 hx (hb hby own_df_125) (by decide) (by decide) ?_
              rw [if_pos hc7, own_step, if_pos hc36, if_neg hc76, own_line, if_pos hc89] at hR2
              exact ih _ _ _ _ _ _ _ _ _ _ _ R hR2 (One.val rfl) (One.val rfl) (by rw [hup]; omega) (by rw [hup]; omega) X97 e97 N97 K97 fq98 fq100 fq101 fq102 fq103 fq104 fq99 Z97
            · skip
              refine Run.ifYes (pc' := 100) X15 hx (hb hby own_df_89) ((if0 _ _).trans (flt hc89).2.2.2) (by decide) (by decide) ?_
              refine Run.aloadN (pc' := 101) X15 hx (hb hby own_df_100) rfl rfl ?_
              obtain ⟨T105, X105, e105, st105⟩ := getF X15 hx hZ hown (host := "") (Or.inl (hw _ (List.mem_of_getElem? (i := 41) rfl))) Via.refl e15 fq12 (g := (mkF m 101 #[.val (.ref o0), .val (.ref o1), .val (.int p2), .val (.int p3), .val (.int i), .val (.int (f i)), .val (.int (ll - (1 : Int32)))] [(.ref o0)])) rfl rfl (hb hby own_df_101)
              refine Run.back (g' := (mkF m 104 #[.val (.ref o0), .val (.ref o1), .val (.int p2), .val (.int p3), .val (.int i), .val (.int (f i)), .val (.int (ll - (1 : Int32)))] [(.int bg)])) st105 ?_
              by_cases hc104 : bg = (0 : Int32)
              · skip
                refine Run.ifYes (pc' := 112) X105 hx (hb hby own_df_104) ((if0 _ _).trans (teq hc104).1) (by decide) (by decide) ?_
                refine Run.aloadN (pc' := 113) X105 hx (hb hby own_df_112) rfl rfl ?_
                refine Run.iconst (pc' := 114) (v := (0 : Int32)) X105 hx (hb hby own_df_113) rfl rfl ?_
                obtain ⟨T106, h106, X106, e106, W106, st106⟩ := putF X105 hx hZ hown (host := "") (Or.inl (hw _ (List.mem_of_getElem? (i := 37) rfl))) Via.refl e105 fq10 fq7 (Or.inl (hw _ (List.mem_of_getElem? (i := 38) rfl))) (hw _ (List.mem_of_getElem? (i := 20) rfl)) (ty := .int) (by decide) rfl rfl (g := (mkF m 114 #[.val (.ref o0), .val (.ref o1), .val (.int p2), .val (.int p3), .val (.int i), .val (.int (f i)), .val (.int (ll - (1 : Int32)))] [(.int (0 : Int32)), (.ref o0)])) rfl rfl (hb hby own_df_114)
                have N106 := Fr.snoc X106 N6 g_o
                have fq107 := Exa.wr W106 fq7
                have fq108 := Ints.other W106 fq8 ne_o
                have fq109 := Fld.other W106 fq9 (Or.inr (slot_ne (Or.inl (hw _ (List.mem_of_getElem? (i := 36) rfl))) (Or.inl (hw _ (List.mem_of_getElem? (i := 38) rfl))) (by decide) (t := .int) (t' := .int) (by decide) (by decide)))
                have fq110 := Fld.same W106 fq10
                have fq111 := Fld.other W106 fq11 (Or.inr (slot_ne (Or.inl (hw _ (List.mem_of_getElem? (i := 40) rfl))) (Or.inl (hw _ (List.mem_of_getElem? (i := 38) rfl))) (by decide) (t := .boolean) (t' := .int) (by decide) (by decide)))
                have fq112 := Fld.other W106 fq12 (Or.inr (slot_ne (Or.inl (hw _ (List.mem_of_getElem? (i := 42) rfl))) (Or.inl (hw _ (List.mem_of_getElem? (i := 38) rfl))) (by decide) (t := .boolean) (t' := .int) (by decide) (by decide)))
                have fq113 := Fld.other W106 fq13 (Or.inr (slot_ne (Or.inl (hw _ (List.mem_of_getElem? (i := 34) rfl))) (Or.inl (hw _ (List.mem_of_getElem? (i := 38) rfl))) (by decide) (t := .boolean) (t' := .int) (by decide) (by decide)))
                have Z106 : n0 ≤ h106.size := Nat.le_trans Z6 (Keep.of_wr W106).1
                have K106 := K6.wr W106 (Or.inl (List.mem_of_getElem? (i := 0) rfl))
                refine Run.back (g' := (mkF m 117 #[.val (.ref o0), .val (.ref o1), .val (.int p2), .val (.int p3), .val (.int i), .val (.int (f i)), .val (.int (ll - (1 : Int32)))] [])) st106 ?_
                refine Run.aloadN (pc' := 118) X106 hx (hb hby own_df_117) rfl rfl ?_
                refine Run.iconst (pc' := 119) (v := (0 : Int32)) X106 hx (hb hby own_df_118) rfl rfl ?_
                obtain ⟨T114, h114, X114, e114, W114, st114⟩ := putFN X106 hx hZ hown (hw _ (List.mem_of_getElem? (i := 39) rfl)) Via.refl e106 fq111 fq107 (Or.inl (hw _ (List.mem_of_getElem? (i := 40) rfl))) (hw _ (List.mem_of_getElem? (i := 20) rfl)) (ty := .boolean) (v' := .int (0 : Int32)) (by decide) rfl rfl (g := (mkF m 119 #[.val (.ref o0), .val (.ref o1), .val (.int p2), .val (.int p3), .val (.int i), .val (.int (f i)), .val (.int (ll - (1 : Int32)))] [(.int (0 : Int32)), (.ref o0)])) rfl rfl (hb hby own_df_119)
                have N114 := Fr.snoc X114 N106 g_o
                have fq115 := Exa.wr W114 fq107
                have fq116 := Ints.other W114 fq108 ne_o
                have fq117 := Fld.other W114 fq109 (Or.inr (slot_ne (Or.inl (hw _ (List.mem_of_getElem? (i := 36) rfl))) (Or.inl (hw _ (List.mem_of_getElem? (i := 40) rfl))) (by decide) (t := .int) (t' := .boolean) (by decide) (by decide)))
                have fq118 := Fld.other W114 fq110 (Or.inr (slot_ne (Or.inl (hw _ (List.mem_of_getElem? (i := 38) rfl))) (Or.inl (hw _ (List.mem_of_getElem? (i := 40) rfl))) (by decide) (t := .int) (t' := .boolean) (by decide) (by decide)))
                have fq119 := Fld.same W114 fq111
                have fq120 := Fld.other W114 fq112 (Or.inr (slot_ne (Or.inl (hw _ (List.mem_of_getElem? (i := 42) rfl))) (Or.inl (hw _ (List.mem_of_getElem? (i := 40) rfl))) (by decide) (t := .boolean) (t' := .boolean) (by decide) (by decide)))
                have fq121 := Fld.other W114 fq113 (Or.inr (slot_ne (Or.inl (hw _ (List.mem_of_getElem? (i := 34) rfl))) (Or.inl (hw _ (List.mem_of_getElem? (i := 40) rfl))) (by decide) (t := .boolean) (t' := .boolean) (by decide) (by decide)))
                have Z114 : n0 ≤ h114.size := Nat.le_trans Z106 (Keep.of_wr W114).1
                have K114 := K106.wr W114 (Or.inl (List.mem_of_getElem? (i := 0) rfl))
                refine Run.back (g' := (mkF m 122 #[.val (.ref o0), .val (.ref o1), .val (.int p2), .val (.int p3), .val (.int i), .val (.int (f i)), .val (.int (ll - (1 : Int32)))] [])) st114 ?_
                refine Run.iinc (pc' := 125) (w := (1 : Int32)) (l' := #[.val (.ref o0), .val (.ref o1), .val (.int p2), .val (.int p3), .val (.int (i + (1 : Int32))), .val (.int (f i)), .val (.int (ll - (1 : Int32)))]) X114 hx (hb hby own_df_122) rfl rfl rfl rfl ?_
                refine Run.goto (pc' := 3) X114 hx (hb hby own_df_125) (by decide) (by decide) ?_
                rw [if_pos hc7, own_step, if_pos hc36, if_neg hc76, own_line, if_neg hc89, if_pos hc104] at hR2
                exact ih _ _ _ _ _ _ _ _ _ _ _ R hR2 (One.val rfl) (One.val rfl) (by rw [hup]; omega) (by rw [hup]; omega) X114 e114 N114 K114 fq115 fq117 fq118 fq119 fq120 fq121 fq116 Z114
              · skip
                refine Run.ifNo (pc' := 107) X105 hx (hb hby own_df_104) ((if0 _ _).trans (feq hc104).1) rfl ?_
                refine Run.aloadN (pc' := 108) X105 hx (hb hby own_df_107) rfl rfl ?_
                refine Run.iconst (pc' := 109) (v := (1 : Int32)) X105 hx (hb hby own_df_108) rfl rfl ?_
                obtain ⟨T122, h122, X122, e122, W122, st122⟩ := putFN X105 hx hZ hown (hw _ (List.mem_of_getElem? (i := 33) rfl)) Via.refl e105 fq13 fq7 (Or.inl (hw _ (List.mem_of_getElem? (i := 34) rfl))) (hw _ (List.mem_of_getElem? (i := 20) rfl)) (ty := .boolean) (v' := .int (1 : Int32)) (by decide) rfl rfl (g := (mkF m 109 #[.val (.ref o0), .val (.ref o1), .val (.int p2), .val (.int p3), .val (.int i), .val (.int (f i)), .val (.int (ll - (1 : Int32)))] [(.int (1 : Int32)), (.ref o0)])) rfl rfl (hb hby own_df_109)
                have N122 := Fr.snoc X122 N6 g_o
                have fq123 := Exa.wr W122 fq7
                have fq124 := Ints.other W122 fq8 ne_o
                have fq125 := Fld.other W122 fq9 (Or.inr (slot_ne (Or.inl (hw _ (List.mem_of_getElem? (i := 36) rfl))) (Or.inl (hw _ (List.mem_of_getElem? (i := 34) rfl))) (by decide) (t := .int) (t' := .boolean) (by decide) (by decide)))
                have fq126 := Fld.other W122 fq10 (Or.inr (slot_ne (Or.inl (hw _ (List.mem_of_getElem? (i := 38) rfl))) (Or.inl (hw _ (List.mem_of_getElem? (i := 34) rfl))) (by decide) (t := .int) (t' := .boolean) (by decide) (by decide)))
                have fq127 := Fld.other W122 fq11 (Or.inr (slot_ne (Or.inl (hw _ (List.mem_of_getElem? (i := 40) rfl))) (Or.inl (hw _ (List.mem_of_getElem? (i := 34) rfl))) (by decide) (t := .boolean) (t' := .boolean) (by decide) (by decide)))
                have fq128 := Fld.other W122 fq12 (Or.inr (slot_ne (Or.inl (hw _ (List.mem_of_getElem? (i := 42) rfl))) (Or.inl (hw _ (List.mem_of_getElem? (i := 34) rfl))) (by decide) (t := .boolean) (t' := .boolean) (by decide) (by decide)))
                have fq129 := Fld.same W122 fq13
                have Z122 : n0 ≤ h122.size := Nat.le_trans Z6 (Keep.of_wr W122).1
                have K122 := K6.wr W122 (Or.inl (List.mem_of_getElem? (i := 0) rfl))
                refine Run.back (g' := (mkF m 112 #[.val (.ref o0), .val (.ref o1), .val (.int p2), .val (.int p3), .val (.int i), .val (.int (f i)), .val (.int (ll - (1 : Int32)))] [])) st122 ?_
                refine Run.aloadN (pc' := 113) X122 hx (hb hby own_df_112) rfl rfl ?_
                refine Run.iconst (pc' := 114) (v := (0 : Int32)) X122 hx (hb hby own_df_113) rfl rfl ?_
                obtain ⟨T130, h130, X130, e130, W130, st130⟩ := putF X122 hx hZ hown (host := "") (Or.inl (hw _ (List.mem_of_getElem? (i := 37) rfl))) Via.refl e122 fq126 fq123 (Or.inl (hw _ (List.mem_of_getElem? (i := 38) rfl))) (hw _ (List.mem_of_getElem? (i := 20) rfl)) (ty := .int) (by decide) rfl rfl (g := (mkF m 114 #[.val (.ref o0), .val (.ref o1), .val (.int p2), .val (.int p3), .val (.int i), .val (.int (f i)), .val (.int (ll - (1 : Int32)))] [(.int (0 : Int32)), (.ref o0)])) rfl rfl (hb hby own_df_114)
                have N130 := Fr.snoc X130 N122 g_o
                have fq131 := Exa.wr W130 fq123
                have fq132 := Ints.other W130 fq124 ne_o
                have fq133 := Fld.other W130 fq125 (Or.inr (slot_ne (Or.inl (hw _ (List.mem_of_getElem? (i := 36) rfl))) (Or.inl (hw _ (List.mem_of_getElem? (i := 38) rfl))) (by decide) (t := .int) (t' := .int) (by decide) (by decide)))
                have fq134 := Fld.same W130 fq126
                have fq135 := Fld.other W130 fq127 (Or.inr (slot_ne (Or.inl (hw _ (List.mem_of_getElem? (i := 40) rfl))) (Or.inl (hw _ (List.mem_of_getElem? (i := 38) rfl))) (by decide) (t := .boolean) (t' := .int) (by decide) (by decide)))
                have fq136 := Fld.other W130 fq128 (Or.inr (slot_ne (Or.inl (hw _ (List.mem_of_getElem? (i := 42) rfl))) (Or.inl (hw _ (List.mem_of_getElem? (i := 38) rfl))) (by decide) (t := .boolean) (t' := .int) (by decide) (by decide)))
                have fq137 := Fld.other W130 fq129 (Or.inr (slot_ne (Or.inl (hw _ (List.mem_of_getElem? (i := 34) rfl))) (Or.inl (hw _ (List.mem_of_getElem? (i := 38) rfl))) (by decide) (t := .boolean) (t' := .int) (by decide) (by decide)))
                have Z130 : n0 ≤ h130.size := Nat.le_trans Z122 (Keep.of_wr W130).1
                have K130 := K122.wr W130 (Or.inl (List.mem_of_getElem? (i := 0) rfl))
                refine Run.back (g' := (mkF m 117 #[.val (.ref o0), .val (.ref o1), .val (.int p2), .val (.int p3), .val (.int i), .val (.int (f i)), .val (.int (ll - (1 : Int32)))] [])) st130 ?_
                refine Run.aloadN (pc' := 118) X130 hx (hb hby own_df_117) rfl rfl ?_
                refine Run.iconst (pc' := 119) (v := (0 : Int32)) X130 hx (hb hby own_df_118) rfl rfl ?_
                obtain ⟨T138, h138, X138, e138, W138, st138⟩ := putFN X130 hx hZ hown (hw _ (List.mem_of_getElem? (i := 39) rfl)) Via.refl e130 fq135 fq131 (Or.inl (hw _ (List.mem_of_getElem? (i := 40) rfl))) (hw _ (List.mem_of_getElem? (i := 20) rfl)) (ty := .boolean) (v' := .int (0 : Int32)) (by decide) rfl rfl (g := (mkF m 119 #[.val (.ref o0), .val (.ref o1), .val (.int p2), .val (.int p3), .val (.int i), .val (.int (f i)), .val (.int (ll - (1 : Int32)))] [(.int (0 : Int32)), (.ref o0)])) rfl rfl (hb hby own_df_119)
                have N138 := Fr.snoc X138 N130 g_o
                have fq139 := Exa.wr W138 fq131
                have fq140 := Ints.other W138 fq132 ne_o
                have fq141 := Fld.other W138 fq133 (Or.inr (slot_ne (Or.inl (hw _ (List.mem_of_getElem? (i := 36) rfl))) (Or.inl (hw _ (List.mem_of_getElem? (i := 40) rfl))) (by decide) (t := .int) (t' := .boolean) (by decide) (by decide)))
                have fq142 := Fld.other W138 fq134 (Or.inr (slot_ne (Or.inl (hw _ (List.mem_of_getElem? (i := 38) rfl))) (Or.inl (hw _ (List.mem_of_getElem? (i := 40) rfl))) (by decide) (t := .int) (t' := .boolean) (by decide) (by decide)))
                have fq143 := Fld.same W138 fq135
                have fq144 := Fld.other W138 fq136 (Or.inr (slot_ne (Or.inl (hw _ (List.mem_of_getElem? (i := 42) rfl))) (Or.inl (hw _ (List.mem_of_getElem? (i := 40) rfl))) (by decide) (t := .boolean) (t' := .boolean) (by decide) (by decide)))
                have fq145 := Fld.other W138 fq137 (Or.inr (slot_ne (Or.inl (hw _ (List.mem_of_getElem? (i := 34) rfl))) (Or.inl (hw _ (List.mem_of_getElem? (i := 40) rfl))) (by decide) (t := .boolean) (t' := .boolean) (by decide) (by decide)))
                have Z138 : n0 ≤ h138.size := Nat.le_trans Z130 (Keep.of_wr W138).1
                have K138 := K130.wr W138 (Or.inl (List.mem_of_getElem? (i := 0) rfl))
                refine Run.back (g' := (mkF m 122 #[.val (.ref o0), .val (.ref o1), .val (.int p2), .val (.int p3), .val (.int i), .val (.int (f i)), .val (.int (ll - (1 : Int32)))] [])) st138 ?_
                refine Run.iinc (pc' := 125) (w := (1 : Int32)) (l' := #[.val (.ref o0), .val (.ref o1), .val (.int p2), .val (.int p3), .val (.int (i + (1 : Int32))), .val (.int (f i)), .val (.int (ll - (1 : Int32)))]) X138 hx (hb hby own_df_122) rfl rfl rfl rfl ?_
                refine Run.goto (pc' := 3) X138 hx (hb hby own_df_125) (by decide) (by decide) ?_
                rw [if_pos hc7, own_step, if_pos hc36, if_neg hc76, own_line, if_neg hc89, if_neg hc104] at hR2
                exact ih _ _ _ _ _ _ _ _ _ _ _ R hR2 (One.val rfl) (One.val rfl) (by rw [hup]; omega) (by rw [hup]; omega) X138 e138 N138 K138 fq139 fq141 fq142 fq143 fq144 fq145 fq140 Z138
        · skip
          refine Run.icmpNo (pc' := 39) X6 hx (hb hby own_df_36) (feq hc36).1 rfl ?_
          refine Run.aloadN (pc' := 40) X6 hx (hb hby own_df_39) rfl rfl ?_
          refine Run.dup (pc' := 41) X6 hx (hb hby own_df_40) rfl rfl ?_
          obtain ⟨T146, X146, e146, st146⟩ := getF X6 hx hZ hown (host := "") (Or.inl (hw _ (List.mem_of_getElem? (i := 37) rfl))) Via.refl e6 fq10 (g := (mkF m 41 #[.val (.ref o0), .val (.ref o1), .val (.int p2), .val (.int p3), .val (.int i), .val (.int (f i)), s6] [(.ref o0), (.ref o0)])) rfl rfl (hb hby own_df_41)
          refine Run.back (g' := (mkF m 44 #[.val (.ref o0), .val (.ref o1), .val (.int p2), .val (.int p3), .val (.int i), .val (.int (f i)), s6] [(.int ll), (.ref o0)])) st146 ?_
          refine Run.iconst (pc' := 45) (v := (1 : Int32)) X146 hx (hb hby own_df_44) rfl rfl ?_
          refine Run.iadd (pc' := 46) X146 hx (hb hby own_df_45) rfl ?_
          obtain ⟨T147, h147, X147, e147, W147, st147⟩ := putF X146 hx hZ hown (host := "") (Or.inl (hw _ (List.mem_of_getElem? (i := 37) rfl))) Via.refl e146 fq10 fq7 (Or.inl (hw _ (List.mem_of_getElem? (i := 38) rfl))) (hw _ (List.mem_of_getElem? (i := 20) rfl)) (ty := .int) (by decide) rfl rfl (g := (mkF m 46 #[.val (.ref o0), .val (.ref o1), .val (.int p2), .val (.int p3), .val (.int i), .val (.int (f i)), s6] [(.int (ll + (1 : Int32))), (.ref o0)])) rfl rfl (hb hby own_df_46)
          have N147 := Fr.snoc X147 N6 g_o
          have fq148 := Exa.wr W147 fq7
          have fq149 := Ints.other W147 fq8 ne_o
          have fq150 := Fld.other W147 fq9 (Or.inr (slot_ne (Or.inl (hw _ (List.mem_of_getElem? (i := 36) rfl))) (Or.inl (hw _ (List.mem_of_getElem? (i := 38) rfl))) (by decide) (t := .int) (t' := .int) (by decide) (by decide)))
          have fq151 := Fld.same W147 fq10
          have fq152 := Fld.other W147 fq11 (Or.inr (slot_ne (Or.inl (hw _ (List.mem_of_getElem? (i := 40) rfl))) (Or.inl (hw _ (List.mem_of_getElem? (i := 38) rfl))) (by decide) (t := .boolean) (t' := .int) (by decide) (by decide)))
          have fq153 := Fld.other W147 fq12 (Or.inr (slot_ne (Or.inl (hw _ (List.mem_of_getElem? (i := 42) rfl))) (Or.inl (hw _ (List.mem_of_getElem? (i := 38) rfl))) (by decide) (t := .boolean) (t' := .int) (by decide) (by decide)))
          have fq154 := Fld.other W147 fq13 (Or.inr (slot_ne (Or.inl (hw _ (List.mem_of_getElem? (i := 34) rfl))) (Or.inl (hw _ (List.mem_of_getElem? (i := 38) rfl))) (by decide) (t := .boolean) (t' := .int) (by decide) (by decide)))
          have Z147 : n0 ≤ h147.size := Nat.le_trans Z6 (Keep.of_wr W147).1
          have K147 := K6.wr W147 (Or.inl (List.mem_of_getElem? (i := 0) rfl))
          refine Run.back (g' := (mkF m 49 #[.val (.ref o0), .val (.ref o1), .val (.int p2), .val (.int p3), .val (.int i), .val (.int (f i)), s6] [])) st147 ?_
          refine Run.aloadN (pc' := 50) X147 hx (hb hby own_df_49) rfl rfl ?_
          refine Run.iload (pc' := 52) X147 hx (hb hby own_df_50) rfl rfl ?_
          refine Run.bipush (pc' := 54) (v := (13 : Int32)) X147 hx (hb hby own_df_52) rfl rfl ?_
          by_cases hc54 : (f i) = (13 : Int32)
          · skip
            refine Run.icmpNo (pc' := 57) X147 hx (hb hby own_df_54) (teq hc54).2 rfl ?_
            refine Run.iconst (pc' := 58) (v := (1 : Int32)) X147 hx (hb hby own_df_57) rfl rfl ?_
            refine Run.goto (pc' := 62) X147 hx (hb hby own_df_58) (by decide) (by decide) ?_
            obtain ⟨T155, h155, X155, e155, W155, st155⟩ := putFN X147 hx hZ hown (hw _ (List.mem_of_getElem? (i := 39) rfl)) Via.refl e147 fq152 fq148 (Or.inl (hw _ (List.mem_of_getElem? (i := 40) rfl))) (hw _ (List.mem_of_getElem? (i := 20) rfl)) (ty := .boolean) (v' := .int (1 : Int32)) (by decide) rfl rfl (g := (mkF m 62 #[.val (.ref o0), .val (.ref o1), .val (.int p2), .val (.int p3), .val (.int i), .val (.int (f i)), s6] [(.int (1 : Int32)), (.ref o0)])) rfl rfl (hb hby own_df_62)
            have N155 := Fr.snoc X155 N147 g_o
            have fq156 := Exa.wr W155 fq148
            have fq157 := Ints.other W155 fq149 ne_o
            have fq158 := Fld.other W155 fq150 (Or.inr (slot_ne (Or.inl (hw _ (List.mem_of_getElem? (i := 36) rfl))) (Or.inl (hw _ (List.mem_of_getElem? (i := 40) rfl))) (by decide) (t := .int) (t' := .boolean) (by decide) (by decide)))
            have fq159 := Fld.other W155 fq151 (Or.inr (slot_ne (Or.inl (hw _ (List.mem_of_getElem? (i := 38) rfl))) (Or.inl (hw _ (List.mem_of_getElem? (i := 40) rfl))) (by decide) (t := .int) (t' := .boolean) (by decide) (by decide)))
            have fq160 := Fld.same W155 fq152
            have fq161 := Fld.other W155 fq153 (Or.inr (slot_ne (Or.inl (hw _ (List.mem_of_getElem? (i := 42) rfl))) (Or.inl (hw _ (List.mem_of_getElem? (i := 40) rfl))) (by decide) (t := .boolean) (t' := .boolean) (by decide) (by decide)))
            have fq162 := Fld.other W155 fq154 (Or.inr (slot_ne (Or.inl (hw _ (List.mem_of_getElem? (i := 34) rfl))) (Or.inl (hw _ (List.mem_of_getElem? (i := 40) rfl))) (by decide) (t := .boolean) (t' := .boolean) (by decide) (by decide)))
            have Z155 : n0 ≤ h155.size := Nat.le_trans Z147 (Keep.of_wr W155).1
            have K155 := K147.wr W155 (Or.inl (List.mem_of_getElem? (i := 0) rfl))
            refine Run.back (g' := (mkF m 65 #[.val (.ref o0), .val (.ref o1), .val (.int p2), .val (.int p3), .val (.int i), .val (.int (f i)), s6] [])) st155 ?_
            refine Run.goto (pc' := 122) X155 hx (hb hby own_df_65) (by decide) (by decide) ?_
            refine Run.iinc (pc' := 125) (w := (1 : Int32)) (l' := #[.val (.ref o0), .val (.ref o1), .val (.int p2), .val (.int p3), .val (.int (i + (1 : Int32))), .val (.int (f i)), s6]) X155 hx (hb hby own_df_122) rfl rfl rfl rfl ?_
            refine Run.goto (pc' := 3) X155 hx (hb hby own_df_125) (by decide) (by decide) ?_
            rw [if_pos hc7, own_step, if_neg hc36, if_pos hc54] at hR2
            exact ih _ _ _ _ _ _ _ _ _ _ _ R hR2 (One.val rfl) hs6 (by rw [hup]; omega) (by rw [hup]; omega) X155 e155 N155 K155 fq156 fq158 fq159 fq160 fq161 fq162 fq157 Z155
          · skip
            refine Run.icmpYes (pc' := 61) X147 hx (hb hby own_df_54) (feq hc54).2 (by decide) (by decide) ?_
            refine Run.iconst (pc' := 62) (v := (0 : Int32)) X147 hx (hb hby own_df_61) rfl rfl ?_
            obtain ⟨T163, h163, X163, e163, W163, st163⟩ := putFN X147 hx hZ hown (hw _ (List.mem_of_getElem? (i := 39) rfl)) Via.refl e147 fq152 fq148 (Or.inl (hw _ (List.mem_of_getElem? (i := 40) rfl))) (hw _ (List.mem_of_getElem? (i := 20) rfl)) (ty := .boolean) (v' := .int (0 : Int32)) (by decide) rfl rfl (g := (mkF m 62 #[.val (.ref o0), .val (.ref o1), .val (.int p2), .val (.int p3), .val (.int i), .val (.int (f i)), s6] [(.int (0 : Int32)), (.ref o0)])) rfl rfl (hb hby own_df_62)
            have N163 := Fr.snoc X163 N147 g_o
            have fq164 := Exa.wr W163 fq148
            have fq165 := Ints.other W163 fq149 ne_o
            have fq166 := Fld.other W163 fq150 (Or.inr (slot_ne (Or.inl (hw _ (List.mem_of_getElem? (i := 36) rfl))) (Or.inl (hw _ (List.mem_of_getElem? (i := 40) rfl))) (by decide) (t := .int) (t' := .boolean) (by decide) (by decide)))
            have fq167 := Fld.other W163 fq151 (Or.inr (slot_ne (Or.inl (hw _ (List.mem_of_getElem? (i := 38) rfl))) (Or.inl (hw _ (List.mem_of_getElem? (i := 40) rfl))) (by decide) (t := .int) (t' := .boolean) (by decide) (by decide)))
            have fq168 := Fld.same W163 fq152
            have fq169 := Fld.other W163 fq153 (Or.inr (slot_ne (Or.inl (hw _ (List.mem_of_getElem? (i := 42) rfl))) (Or.inl (hw _ (List.mem_of_getElem? (i := 40) rfl))) (by decide) (t := .boolean) (t' := .boolean) (by decide) (by decide)))
            have fq170 := Fld.other W163 fq154 (Or.inr (slot_ne (Or.inl (hw _ (List.mem_of_getElem? (i := 34) rfl))) (Or.inl (hw _ (List.mem_of_getElem? (i := 40) rfl))) (by decide) (t := .boolean) (t' := .boolean) (by decide) (by decide)))
            have Z163 : n0 ≤ h163.size := Nat.le_trans Z147 (Keep.of_wr W163).1
            have K163 := K147.wr W163 (Or.inl (List.mem_of_getElem? (i := 0) rfl))
            refine Run.back (g' := (mkF m 65 #[.val (.ref o0), .val (.ref o1), .val (.int p2), .val (.int p3), .val (.int i), .val (.int (f i)), s6] [])) st163 ?_
            refine Run.goto (pc' := 122) X163 hx (hb hby own_df_65) (by decide) (by decide) ?_
            refine Run.iinc (pc' := 125) (w := (1 : Int32)) (l' := #[.val (.ref o0), .val (.ref o1), .val (.int p2), .val (.int p3), .val (.int (i + (1 : Int32))), .val (.int (f i)), s6]) X163 hx (hb hby own_df_122) rfl rfl rfl rfl ?_
            refine Run.goto (pc' := 3) X163 hx (hb hby own_df_125) (by decide) (by decide) ?_
            rw [if_pos hc7, own_step, if_neg hc36, if_neg hc54] at hR2
            exact ih _ _ _ _ _ _ _ _ _ _ _ R hR2 (One.val rfl) hs6 (by rw [hup]; omega) (by rw [hup]; omega) X163 e163 N163 K163 fq164 fq166 fq167 fq168 fq169 fq170 fq165 Z163
      · skip
        refine Run.ifYes (pc' := 128) X4 hx (hb hby own_df_7) ((if0 _ _).trans (feq hc7).2) (by decide) (by decide) ?_
        refine Run.aloadN (pc' := 129) X4 hx (hb hby own_df_128) rfl rfl ?_
        obtain ⟨T171, X171, e171, st171⟩ := getF X4 hx hZ hown (host := "") (Or.inl (hw _ (List.mem_of_getElem? (i := 33) rfl))) Via.refl e4 F_wh (g := (mkF m 129 #[.val (.ref o0), .val (.ref o1), .val (.int p2), .val (.int p3), .val (.int i), s5, s6] [(.ref o0)])) rfl rfl (hb hby own_df_129)
        refine Run.back (g' := (mkF m 132 #[.val (.ref o0), .val (.ref o1), .val (.int p2), .val (.int p3), .val (.int i), s5, s6] [(.int wh)])) st171 ?_
        exact Run.retSmall X171 hx (t := .boolean) (z' := (wh &&& 1)) Bd.notSynchronized Bd.returns (by simp) rfl (hb hby own_df_132) (by rw [if_neg hc7] at hR2; rw [hR2]; exact ⟨rfl, N, by rw [e171]; exact K0, by rw [e171]; exact E1, by rw [e171]; exact F_sc, by rw [e171]; exact F_ll, by rw [e171]; exact F_cr, by rw [e171]; exact F_bg, by rw [e171]; exact F_wh⟩) (by decide) (by decide)
  refine Run.iloadN (pc' := 1) X0 hx (hb hby own_df_0) rfl rfl ?_
  refine Run.istore (pc' := 3) X0 hx (l' := #[.val (.ref o0), .val (.ref o1), .val (.int p2), .val (.int p3), .val (.int p2), .unset, .unset]) (hb hby own_df_1) rfl rfl ?_
  exact LOOP k p2 sc ll cr bg wh _ _ _ _ _ R hR One.u One.u hk hk0 X0 e0 N0 (Keep.refl h0 [o0]) E_o F_scanned F_lineLength F_cr F_begun F_whole A_t Z0
theorem own_dr_0 : decode prog_32_method_2_code 0 = .ok (.aload_n 0, 1) := by decide +kernel
theorem own_dr_1 : decode prog_32_method_2_code 1 = .ok (.iload_n 1, 1) := by decide +kernel
theorem own_dr_2 : decode prog_32_method_2_code 2 = .ok (.putfield 7, 3) := by decide +kernel
theorem own_dr_5 : decode prog_32_method_2_code 5 = .ok (.aload_n 0, 1) := by decide +kernel
theorem own_dr_6 : decode prog_32_method_2_code 6 = .ok (.iconst 0, 1) := by decide +kernel
theorem own_dr_7 : decode prog_32_method_2_code 7 = .ok (.putfield 13, 3) := by decide +kernel
theorem own_dr_10 : decode prog_32_method_2_code 10 = .ok (.aload_n 0, 1) := by decide +kernel
theorem own_dr_11 : decode prog_32_method_2_code 11 = .ok (.iconst 0, 1) := by decide +kernel
theorem own_dr_12 : decode prog_32_method_2_code 12 = .ok (.putfield 16, 3) := by decide +kernel
theorem own_dr_15 : decode prog_32_method_2_code 15 = .ok (.aload_n 0, 1) := by decide +kernel
theorem own_dr_16 : decode prog_32_method_2_code 16 = .ok (.iconst 0, 1) := by decide +kernel
theorem own_dr_17 : decode prog_32_method_2_code 17 = .ok (.putfield 20, 3) := by decide +kernel
theorem own_dr_20 : decode prog_32_method_2_code 20 = .ok (.aload_n 0, 1) := by decide +kernel
theorem own_dr_21 : decode prog_32_method_2_code 21 = .ok (.iconst 0, 1) := by decide +kernel
theorem own_dr_22 : decode prog_32_method_2_code 22 = .ok (.putfield 23, 3) := by decide +kernel
theorem own_dr_25 : decode prog_32_method_2_code 25 = .ok (.return_, 1) := by decide +kernel
theorem own_efr (m : MethodId) (x0 : Addr) (x1 : Int32) : entryFrame m #[(.ref x0), (.int x1)] 2 = mkF m 0 #[.val (.ref x0), .val (.int x1)] [] := by first | (simp [entryFrame, mkF, argsToLocals, Value.category]; done) | rfl
set_option maxRecDepth 65536 in
set_option maxHeartbeats 40000000 in
theorem rm_r (l : Launch) (Z : State) (a0 : Array Value) (hw : ∀ d ∈ tables_1, d.before a0 Z = true) (ws : List Jvm.Cond) (o0 : Addr) (p1 : Int32) (sc : Int32) (ll : Int32) (cr : Int32) (bg : Int32) (wh : Int32) (h0 : Heap) (n0 : Nat) (Z0 : n0 ≤ h0.size) (E_o : Exa Z h0 o0 "com/example/vez/vez/gateway/http/HeadEnd") (F_scanned : Fld Z h0 o0 "com/example/vez/vez/gateway/http/HeadEnd" "scanned" "I" (.int sc)) (F_lineLength : Fld Z h0 o0 "com/example/vez/vez/gateway/http/HeadEnd" "lineLength" "I" (.int ll)) (F_cr : Fld Z h0 o0 "com/example/vez/vez/gateway/http/HeadEnd" "cr" "Z" (.int cr)) (F_begun : Fld Z h0 o0 "com/example/vez/vez/gateway/http/HeadEnd" "begun" "Z" (.int bg)) (F_whole : Fld Z h0 o0 "com/example/vez/vez/gateway/http/HeadEnd" "whole" "Z" (.int wh)) (g_o : n0 ≤ o0) :
    MetFree l (⟨"com/example/vez/vez/gateway/http/HeadEnd", "reset", "(I)V"⟩ : MethodName) (head1 (Jvm.Cond.code (⟨"com/example/vez/vez/gateway/http/HeadEnd", "reset", "(I)V"⟩ : MethodName) prog_32_method_2_code 2 none :: ws) ({ frames := 0, cells := 0, slots := 0, locals := 0 } : Room)) (fun a U => a = #[(.ref o0), (.int p1)] ∧ Z.Warmed39 U.vm ∧ U.heap = h0) (fun _ _ _ _ _ => True) (fun _ U o U' => ∃ v L, o = .returned v ∧ (Say (fun v h L => v = none ∧ Fr n0 L ∧ Keep h0 h [o0] ∧ Exa Z h o0 "com/example/vez/vez/gateway/http/HeadEnd" ∧ Fld Z h o0 "com/example/vez/vez/gateway/http/HeadEnd" "scanned" "I" (.int p1) ∧ Fld Z h o0 "com/example/vez/vez/gateway/http/HeadEnd" "lineLength" "I" (.int (0 : Int32)) ∧ Fld Z h o0 "com/example/vez/vez/gateway/http/HeadEnd" "cr" "Z" (.int (0 : Int32)) ∧ Fld Z h o0 "com/example/vez/vez/gateway/http/HeadEnd" "begun" "Z" (.int (0 : Int32)) ∧ Fld Z h o0 "com/example/vez/vez/gateway/http/HeadEnd" "whole" "Z" (.int (0 : Int32)))) v U'.heap L ∧ FrameEnd U o U' L ({ frames := 0, cells := 0, slots := 0, locals := 0 } : Room).cells ({ frames := 0, cells := 0, slots := 0, locals := 0 } : Room).slots) := by
  refine MetFree.of_bodySF (plainFor_of_name own_pn0) hisR ?_
  intro p e s m args below meth c s₁ Bd hml0 hP hK
  obtain ⟨rfl, hZ, hh⟩ := hP
  have hx := Bd.exec
  have hby := Bd.bytes
  have hml : c.maxLocals = 2 := hml0
  have hown : s.vm.findClass "com/example/vez/vez/gateway/http/HeadEnd" = some m.cls := findClass_of_methodNamed Bd.named
  have hnm := (name_of_methodNamed Bd.named Bd.method).1
  have X0 : Stand p l e ({ frames := 0, cells := 0, slots := 0, locals := 0 } : Room) s m #[(.ref o0), (.int p1)] below meth c s₁ [] 0 0 := Stand.of_body Bd
  have e0 : s₁.heap = h0 := by rw [← hh, Bd.state]; rfl
  have N0 := Fr.nil n0
  suffices H : Run p.tables e below (FinR s ({ frames := 0, cells := 0, slots := 0, locals := 0 } : Room).cells ({ frames := 0, cells := 0, slots := 0, locals := 0 } : Room).slots (Say (fun v h L => v = none ∧ Fr n0 L ∧ Keep h0 h [o0] ∧ Exa Z h o0 "com/example/vez/vez/gateway/http/HeadEnd" ∧ Fld Z h o0 "com/example/vez/vez/gateway/http/HeadEnd" "scanned" "I" (.int p1) ∧ Fld Z h o0 "com/example/vez/vez/gateway/http/HeadEnd" "lineLength" "I" (.int (0 : Int32)) ∧ Fld Z h o0 "com/example/vez/vez/gateway/http/HeadEnd" "cr" "Z" (.int (0 : Int32)) ∧ Fld Z h o0 "com/example/vez/vez/gateway/http/HeadEnd" "begun" "Z" (.int (0 : Int32)) ∧ Fld Z h o0 "com/example/vez/vez/gateway/http/HeadEnd" "whole" "Z" (.int (0 : Int32))))) s₁ (mkF m 0 #[.val (.ref o0), .val (.int p1)] []) by
    obtain ⟨s₂, o, k1, k2, k3, k4⟩ := H
    exact ⟨s₂, o, castTop (own_efr m o0 p1) k1, k2, k3, k4⟩
  refine Run.aloadN (pc' := 1) X0 hx (hb hby own_dr_0) rfl rfl ?_
  refine Run.iloadN (pc' := 2) X0 hx (hb hby own_dr_1) rfl rfl ?_
  obtain ⟨T1, h1, X1, e1, W1, st1⟩ := putF X0 hx hZ hown (host := "") (Or.inl (hw _ (List.mem_of_getElem? (i := 35) rfl))) Via.refl e0 F_scanned E_o (Or.inl (hw _ (List.mem_of_getElem? (i := 36) rfl))) (hw _ (List.mem_of_getElem? (i := 20) rfl)) (ty := .int) (by decide) rfl rfl (g := (mkF m 2 #[.val (.ref o0), .val (.int p1)] [(.int p1), (.ref o0)])) rfl rfl (hb hby own_dr_2)
  have N1 := Fr.snoc X1 N0 g_o
  have fq2 := Exa.wr W1 E_o
  have fq3 := Fld.same W1 F_scanned
  have fq4 := Fld.other W1 F_lineLength (Or.inr (slot_ne (Or.inl (hw _ (List.mem_of_getElem? (i := 38) rfl))) (Or.inl (hw _ (List.mem_of_getElem? (i := 36) rfl))) (by decide) (t := .int) (t' := .int) (by decide) (by decide)))
  have fq5 := Fld.other W1 F_cr (Or.inr (slot_ne (Or.inl (hw _ (List.mem_of_getElem? (i := 40) rfl))) (Or.inl (hw _ (List.mem_of_getElem? (i := 36) rfl))) (by decide) (t := .boolean) (t' := .int) (by decide) (by decide)))
  have fq6 := Fld.other W1 F_begun (Or.inr (slot_ne (Or.inl (hw _ (List.mem_of_getElem? (i := 42) rfl))) (Or.inl (hw _ (List.mem_of_getElem? (i := 36) rfl))) (by decide) (t := .boolean) (t' := .int) (by decide) (by decide)))
  have fq7 := Fld.other W1 F_whole (Or.inr (slot_ne (Or.inl (hw _ (List.mem_of_getElem? (i := 34) rfl))) (Or.inl (hw _ (List.mem_of_getElem? (i := 36) rfl))) (by decide) (t := .boolean) (t' := .int) (by decide) (by decide)))
  have Z1 : n0 ≤ h1.size := Nat.le_trans Z0 (Keep.of_wr W1).1
  have K1 := (Keep.refl h0 [o0]).wr W1 (Or.inl (List.mem_of_getElem? (i := 0) rfl))
  refine Run.back (g' := (mkF m 5 #[.val (.ref o0), .val (.int p1)] [])) st1 ?_
  refine Run.aloadN (pc' := 6) X1 hx (hb hby own_dr_5) rfl rfl ?_
  refine Run.iconst (pc' := 7) (v := (0 : Int32)) X1 hx (hb hby own_dr_6) rfl rfl ?_
  obtain ⟨T8, h8, X8, e8, W8, st8⟩ := putF X1 hx hZ hown (host := "") (Or.inl (hw _ (List.mem_of_getElem? (i := 37) rfl))) Via.refl e1 fq4 fq2 (Or.inl (hw _ (List.mem_of_getElem? (i := 38) rfl))) (hw _ (List.mem_of_getElem? (i := 20) rfl)) (ty := .int) (by decide) rfl rfl (g := (mkF m 7 #[.val (.ref o0), .val (.int p1)] [(.int (0 : Int32)), (.ref o0)])) rfl rfl (hb hby own_dr_7)
  have N8 := Fr.snoc X8 N1 g_o
  have fq9 := Exa.wr W8 fq2
  have fq10 := Fld.other W8 fq3 (Or.inr (slot_ne (Or.inl (hw _ (List.mem_of_getElem? (i := 36) rfl))) (Or.inl (hw _ (List.mem_of_getElem? (i := 38) rfl))) (by decide) (t := .int) (t' := .int) (by decide) (by decide)))
  have fq11 := Fld.same W8 fq4
  have fq12 := Fld.other W8 fq5 (Or.inr (slot_ne (Or.inl (hw _ (List.mem_of_getElem? (i := 40) rfl))) (Or.inl (hw _ (List.mem_of_getElem? (i := 38) rfl))) (by decide) (t := .boolean) (t' := .int) (by decide) (by decide)))
  have fq13 := Fld.other W8 fq6 (Or.inr (slot_ne (Or.inl (hw _ (List.mem_of_getElem? (i := 42) rfl))) (Or.inl (hw _ (List.mem_of_getElem? (i := 38) rfl))) (by decide) (t := .boolean) (t' := .int) (by decide) (by decide)))
  have fq14 := Fld.other W8 fq7 (Or.inr (slot_ne (Or.inl (hw _ (List.mem_of_getElem? (i := 34) rfl))) (Or.inl (hw _ (List.mem_of_getElem? (i := 38) rfl))) (by decide) (t := .boolean) (t' := .int) (by decide) (by decide)))
  have Z8 : n0 ≤ h8.size := Nat.le_trans Z1 (Keep.of_wr W8).1
  have K8 := K1.wr W8 (Or.inl (List.mem_of_getElem? (i := 0) rfl))
  refine Run.back (g' := (mkF m 10 #[.val (.ref o0), .val (.int p1)] [])) st8 ?_
  refine Run.aloadN (pc' := 11) X8 hx (hb hby own_dr_10) rfl rfl ?_
  refine Run.iconst (pc' := 12) (v := (0 : Int32)) X8 hx (hb hby own_dr_11) rfl rfl ?_
  obtain ⟨T15, h15, X15, e15, W15, st15⟩ := putFN X8 hx hZ hown (hw _ (List.mem_of_getElem? (i := 39) rfl)) Via.refl e8 fq12 fq9 (Or.inl (hw _ (List.mem_of_getElem? (i := 40) rfl))) (hw _ (List.mem_of_getElem? (i := 20) rfl)) (ty := .boolean) (v' := .int (0 : Int32)) (by decide) rfl rfl (g := (mkF m 12 #[.val (.ref o0), .val (.int p1)] [(.int (0 : Int32)), (.ref o0)])) rfl rfl (hb hby own_dr_12)
  have N15 := Fr.snoc X15 N8 g_o
  have fq16 := Exa.wr W15 fq9
  have fq17 := Fld.other W15 fq10 (Or.inr (slot_ne (Or.inl (hw _ (List.mem_of_getElem? (i := 36) rfl))) (Or.inl (hw _ (List.mem_of_getElem? (i := 40) rfl))) (by decide) (t := .int) (t' := .boolean) (by decide) (by decide)))
  have fq18 := Fld.other W15 fq11 (Or.inr (slot_ne (Or.inl (hw _ (List.mem_of_getElem? (i := 38) rfl))) (Or.inl (hw _ (List.mem_of_getElem? (i := 40) rfl))) (by decide) (t := .int) (t' := .boolean) (by decide) (by decide)))
  have fq19 := Fld.same W15 fq12
  have fq20 := Fld.other W15 fq13 (Or.inr (slot_ne (Or.inl (hw _ (List.mem_of_getElem? (i := 42) rfl))) (Or.inl (hw _ (List.mem_of_getElem? (i := 40) rfl))) (by decide) (t := .boolean) (t' := .boolean) (by decide) (by decide)))
  have fq21 := Fld.other W15 fq14 (Or.inr (slot_ne (Or.inl (hw _ (List.mem_of_getElem? (i := 34) rfl))) (Or.inl (hw _ (List.mem_of_getElem? (i := 40) rfl))) (by decide) (t := .boolean) (t' := .boolean) (by decide) (by decide)))
  have Z15 : n0 ≤ h15.size := Nat.le_trans Z8 (Keep.of_wr W15).1
  have K15 := K8.wr W15 (Or.inl (List.mem_of_getElem? (i := 0) rfl))
  refine Run.back (g' := (mkF m 15 #[.val (.ref o0), .val (.int p1)] [])) st15 ?_
  refine Run.aloadN (pc' := 16) X15 hx (hb hby own_dr_15) rfl rfl ?_
  refine Run.iconst (pc' := 17) (v := (0 : Int32)) X15 hx (hb hby own_dr_16) rfl rfl ?_
  obtain ⟨T22, h22, X22, e22, W22, st22⟩ := putFN X15 hx hZ hown (hw _ (List.mem_of_getElem? (i := 41) rfl)) Via.refl e15 fq20 fq16 (Or.inl (hw _ (List.mem_of_getElem? (i := 42) rfl))) (hw _ (List.mem_of_getElem? (i := 20) rfl)) (ty := .boolean) (v' := .int (0 : Int32)) (by decide) rfl rfl (g := (mkF m 17 #[.val (.ref o0), .val (.int p1)] [(.int (0 : Int32)), (.ref o0)])) rfl rfl (hb hby own_dr_17)
  have N22 := Fr.snoc X22 N15 g_o
  have fq23 := Exa.wr W22 fq16
  have fq24 := Fld.other W22 fq17 (Or.inr (slot_ne (Or.inl (hw _ (List.mem_of_getElem? (i := 36) rfl))) (Or.inl (hw _ (List.mem_of_getElem? (i := 42) rfl))) (by decide) (t := .int) (t' := .boolean) (by decide) (by decide)))
  have fq25 := Fld.other W22 fq18 (Or.inr (slot_ne (Or.inl (hw _ (List.mem_of_getElem? (i := 38) rfl))) (Or.inl (hw _ (List.mem_of_getElem? (i := 42) rfl))) (by decide) (t := .int) (t' := .boolean) (by decide) (by decide)))
  have fq26 := Fld.other W22 fq19 (Or.inr (slot_ne (Or.inl (hw _ (List.mem_of_getElem? (i := 40) rfl))) (Or.inl (hw _ (List.mem_of_getElem? (i := 42) rfl))) (by decide) (t := .boolean) (t' := .boolean) (by decide) (by decide)))
  have fq27 := Fld.same W22 fq20
  have fq28 := Fld.other W22 fq21 (Or.inr (slot_ne (Or.inl (hw _ (List.mem_of_getElem? (i := 34) rfl))) (Or.inl (hw _ (List.mem_of_getElem? (i := 42) rfl))) (by decide) (t := .boolean) (t' := .boolean) (by decide) (by decide)))
  have Z22 : n0 ≤ h22.size := Nat.le_trans Z15 (Keep.of_wr W22).1
  have K22 := K15.wr W22 (Or.inl (List.mem_of_getElem? (i := 0) rfl))
  refine Run.back (g' := (mkF m 20 #[.val (.ref o0), .val (.int p1)] [])) st22 ?_
  refine Run.aloadN (pc' := 21) X22 hx (hb hby own_dr_20) rfl rfl ?_
  refine Run.iconst (pc' := 22) (v := (0 : Int32)) X22 hx (hb hby own_dr_21) rfl rfl ?_
  obtain ⟨T29, h29, X29, e29, W29, st29⟩ := putFN X22 hx hZ hown (hw _ (List.mem_of_getElem? (i := 33) rfl)) Via.refl e22 fq28 fq23 (Or.inl (hw _ (List.mem_of_getElem? (i := 34) rfl))) (hw _ (List.mem_of_getElem? (i := 20) rfl)) (ty := .boolean) (v' := .int (0 : Int32)) (by decide) rfl rfl (g := (mkF m 22 #[.val (.ref o0), .val (.int p1)] [(.int (0 : Int32)), (.ref o0)])) rfl rfl (hb hby own_dr_22)
  have N29 := Fr.snoc X29 N22 g_o
  have fq30 := Exa.wr W29 fq23
  have fq31 := Fld.other W29 fq24 (Or.inr (slot_ne (Or.inl (hw _ (List.mem_of_getElem? (i := 36) rfl))) (Or.inl (hw _ (List.mem_of_getElem? (i := 34) rfl))) (by decide) (t := .int) (t' := .boolean) (by decide) (by decide)))
  have fq32 := Fld.other W29 fq25 (Or.inr (slot_ne (Or.inl (hw _ (List.mem_of_getElem? (i := 38) rfl))) (Or.inl (hw _ (List.mem_of_getElem? (i := 34) rfl))) (by decide) (t := .int) (t' := .boolean) (by decide) (by decide)))
  have fq33 := Fld.other W29 fq26 (Or.inr (slot_ne (Or.inl (hw _ (List.mem_of_getElem? (i := 40) rfl))) (Or.inl (hw _ (List.mem_of_getElem? (i := 34) rfl))) (by decide) (t := .boolean) (t' := .boolean) (by decide) (by decide)))
  have fq34 := Fld.other W29 fq27 (Or.inr (slot_ne (Or.inl (hw _ (List.mem_of_getElem? (i := 42) rfl))) (Or.inl (hw _ (List.mem_of_getElem? (i := 34) rfl))) (by decide) (t := .boolean) (t' := .boolean) (by decide) (by decide)))
  have fq35 := Fld.same W29 fq28
  have Z29 : n0 ≤ h29.size := Nat.le_trans Z22 (Keep.of_wr W29).1
  have K29 := K22.wr W29 (Or.inl (List.mem_of_getElem? (i := 0) rfl))
  refine Run.back (g' := (mkF m 25 #[.val (.ref o0), .val (.int p1)] [])) st29 ?_
  exact Run.retVoid X29 hx Bd.notSynchronized Bd.returns (hb hby own_dr_25) ⟨rfl, N29, by rw [e29]; exact K29, by rw [e29]; exact fq30, by rw [e29]; exact fq31, by rw [e29]; exact fq32, by rw [e29]; exact fq33, by rw [e29]; exact fq34, by rw [e29]; exact fq35⟩ (by decide) (by decide)
def own_Fs (o0 : Addr) (w : Int32) : Int32 := w
theorem own_ds_0 : decode prog_32_method_4_code 0 = .ok (.aload_n 0, 1) := by decide +kernel
theorem own_ds_1 : decode prog_32_method_4_code 1 = .ok (.getfield 7, 3) := by decide +kernel
theorem own_ds_4 : decode prog_32_method_4_code 4 = .ok (.ireturn, 1) := by decide +kernel
theorem own_efs (m : MethodId) (x0 : Addr) : entryFrame m #[(.ref x0)] 1 = mkF m 0 #[.val (.ref x0)] [] := by first | (simp [entryFrame, mkF, argsToLocals, Value.category]; done) | rfl
set_option maxRecDepth 65536 in
set_option maxHeartbeats 40000000 in
theorem rm_s (l : Launch) (Z : State) (a0 : Array Value) (hw : ∀ d ∈ tables_1, d.before a0 Z = true) (ws : List Jvm.Cond) (o0 : Addr) (w : Int32) (h0 : Heap) (n0 : Nat) (Z0 : n0 ≤ h0.size) (F_f : Fld Z h0 o0 "com/example/vez/vez/gateway/http/HeadEnd" "scanned" "I" (.int w)) :
    MetFree l (⟨"com/example/vez/vez/gateway/http/HeadEnd", "getScanned", "()I"⟩ : MethodName) (head1 (Jvm.Cond.code (⟨"com/example/vez/vez/gateway/http/HeadEnd", "getScanned", "()I"⟩ : MethodName) prog_32_method_4_code 1 (some .int) :: ws) ({ frames := 0, cells := 0, slots := 0, locals := 0 } : Room)) (fun a U => a = #[(.ref o0)] ∧ Z.Warmed39 U.vm ∧ U.heap = h0) (fun _ _ _ _ _ => True) (fun _ U o U' => ∃ v L, o = .returned v ∧ (QPure n0 h0 (.int (own_Fs o0 w))) v U'.heap L ∧ FrameEnd U o U' L ({ frames := 0, cells := 0, slots := 0, locals := 0 } : Room).cells ({ frames := 0, cells := 0, slots := 0, locals := 0 } : Room).slots) := by
  refine MetFree.of_bodySF (plainFor_of_name own_pn0) hisR ?_
  intro p e s m args below meth c s₁ Bd hml0 hP hK
  obtain ⟨rfl, hZ, hh⟩ := hP
  have hx := Bd.exec
  have hby := Bd.bytes
  have hml : c.maxLocals = 1 := hml0
  have hown : s.vm.findClass "com/example/vez/vez/gateway/http/HeadEnd" = some m.cls := findClass_of_methodNamed Bd.named
  have hnm := (name_of_methodNamed Bd.named Bd.method).1
  have X0 : Stand p l e ({ frames := 0, cells := 0, slots := 0, locals := 0 } : Room) s m #[(.ref o0)] below meth c s₁ [] 0 0 := Stand.of_body Bd
  have e0 : s₁.heap = h0 := by rw [← hh, Bd.state]; rfl
  have N0 := Fr.nil n0
  suffices H : Run p.tables e below (FinR s ({ frames := 0, cells := 0, slots := 0, locals := 0 } : Room).cells ({ frames := 0, cells := 0, slots := 0, locals := 0 } : Room).slots (QPure n0 h0 (.int (own_Fs o0 w)))) s₁ (mkF m 0 #[.val (.ref o0)] []) by
    obtain ⟨s₂, o, k1, k2, k3, k4⟩ := H
    exact ⟨s₂, o, castTop (own_efs m o0) k1, k2, k3, k4⟩
  obtain ⟨r, hr⟩ : ∃ r, r = own_Fs o0 w := ⟨_, rfl⟩
  rw [← hr]
  rw [own_Fs] at hr
  refine Run.aloadN (pc' := 1) X0 hx (hb hby own_ds_0) rfl rfl ?_
  obtain ⟨T1, X1, e1, st1⟩ := getF X0 hx hZ hown (host := "") (Or.inl (hw _ (List.mem_of_getElem? (i := 35) rfl))) Via.refl e0 F_f (g := (mkF m 1 #[.val (.ref o0)] [(.ref o0)])) rfl rfl (hb hby own_ds_1)
  refine Run.back (g' := (mkF m 4 #[.val (.ref o0)] [(.int w)])) st1 ?_
  exact Run.retInt X1 hx Bd.notSynchronized Bd.returns (hb hby own_ds_4) ⟨by rw [hr], N0, e1⟩ (by decide) (by decide)
def own_Fw (o0 : Addr) (w : Int32) : Int32 := (w &&& 1)
theorem own_dw_0 : decode prog_32_method_5_code 0 = .ok (.aload_n 0, 1) := by decide +kernel
theorem own_dw_1 : decode prog_32_method_5_code 1 = .ok (.getfield 23, 3) := by decide +kernel
theorem own_dw_4 : decode prog_32_method_5_code 4 = .ok (.ireturn, 1) := by decide +kernel
theorem own_efw (m : MethodId) (x0 : Addr) : entryFrame m #[(.ref x0)] 1 = mkF m 0 #[.val (.ref x0)] [] := by first | (simp [entryFrame, mkF, argsToLocals, Value.category]; done) | rfl
set_option maxRecDepth 65536 in
set_option maxHeartbeats 40000000 in
theorem rm_w (l : Launch) (Z : State) (a0 : Array Value) (hw : ∀ d ∈ tables_1, d.before a0 Z = true) (ws : List Jvm.Cond) (o0 : Addr) (w : Int32) (h0 : Heap) (n0 : Nat) (Z0 : n0 ≤ h0.size) (F_f : Fld Z h0 o0 "com/example/vez/vez/gateway/http/HeadEnd" "whole" "Z" (.int w)) :
    MetFree l (⟨"com/example/vez/vez/gateway/http/HeadEnd", "isWhole", "()Z"⟩ : MethodName) (head1 (Jvm.Cond.code (⟨"com/example/vez/vez/gateway/http/HeadEnd", "isWhole", "()Z"⟩ : MethodName) prog_32_method_5_code 1 (some .boolean) :: ws) ({ frames := 0, cells := 0, slots := 0, locals := 0 } : Room)) (fun a U => a = #[(.ref o0)] ∧ Z.Warmed39 U.vm ∧ U.heap = h0) (fun _ _ _ _ _ => True) (fun _ U o U' => ∃ v L, o = .returned v ∧ (QPure n0 h0 (.int (own_Fw o0 w))) v U'.heap L ∧ FrameEnd U o U' L ({ frames := 0, cells := 0, slots := 0, locals := 0 } : Room).cells ({ frames := 0, cells := 0, slots := 0, locals := 0 } : Room).slots) := by
  refine MetFree.of_bodySF (plainFor_of_name own_pn0) hisR ?_
  intro p e s m args below meth c s₁ Bd hml0 hP hK
  obtain ⟨rfl, hZ, hh⟩ := hP
  have hx := Bd.exec
  have hby := Bd.bytes
  have hml : c.maxLocals = 1 := hml0
  have hown : s.vm.findClass "com/example/vez/vez/gateway/http/HeadEnd" = some m.cls := findClass_of_methodNamed Bd.named
  have hnm := (name_of_methodNamed Bd.named Bd.method).1
  have X0 : Stand p l e ({ frames := 0, cells := 0, slots := 0, locals := 0 } : Room) s m #[(.ref o0)] below meth c s₁ [] 0 0 := Stand.of_body Bd
  have e0 : s₁.heap = h0 := by rw [← hh, Bd.state]; rfl
  have N0 := Fr.nil n0
  suffices H : Run p.tables e below (FinR s ({ frames := 0, cells := 0, slots := 0, locals := 0 } : Room).cells ({ frames := 0, cells := 0, slots := 0, locals := 0 } : Room).slots (QPure n0 h0 (.int (own_Fw o0 w)))) s₁ (mkF m 0 #[.val (.ref o0)] []) by
    obtain ⟨s₂, o, k1, k2, k3, k4⟩ := H
    exact ⟨s₂, o, castTop (own_efw m o0) k1, k2, k3, k4⟩
  obtain ⟨r, hr⟩ : ∃ r, r = own_Fw o0 w := ⟨_, rfl⟩
  rw [← hr]
  rw [own_Fw] at hr
  refine Run.aloadN (pc' := 1) X0 hx (hb hby own_dw_0) rfl rfl ?_
  obtain ⟨T1, X1, e1, st1⟩ := getF X0 hx hZ hown (host := "") (Or.inl (hw _ (List.mem_of_getElem? (i := 33) rfl))) Via.refl e0 F_f (g := (mkF m 1 #[.val (.ref o0)] [(.ref o0)])) rfl rfl (hb hby own_dw_1)
  refine Run.back (g' := (mkF m 4 #[.val (.ref o0)] [(.int w)])) st1 ?_
  exact Run.retSmall X1 hx (t := .boolean) (z' := (w &&& 1)) Bd.notSynchronized Bd.returns (by simp) rfl (hb hby own_dw_4) ⟨by rw [hr], N0, e1⟩ (by decide) (by decide)
def own_Fe (o0 : Addr) (w : Int32) : Int32 := w
theorem own_de_0 : decode prog_32_method_6_code 0 = .ok (.aload_n 0, 1) := by decide +kernel
theorem own_de_1 : decode prog_32_method_6_code 1 = .ok (.getfield 7, 3) := by decide +kernel
theorem own_de_4 : decode prog_32_method_6_code 4 = .ok (.ireturn, 1) := by decide +kernel
theorem own_efe (m : MethodId) (x0 : Addr) : entryFrame m #[(.ref x0)] 1 = mkF m 0 #[.val (.ref x0)] [] := by first | (simp [entryFrame, mkF, argsToLocals, Value.category]; done) | rfl
set_option maxRecDepth 65536 in
set_option maxHeartbeats 40000000 in
theorem rm_e (l : Launch) (Z : State) (a0 : Array Value) (hw : ∀ d ∈ tables_1, d.before a0 Z = true) (ws : List Jvm.Cond) (o0 : Addr) (w : Int32) (h0 : Heap) (n0 : Nat) (Z0 : n0 ≤ h0.size) (F_f : Fld Z h0 o0 "com/example/vez/vez/gateway/http/HeadEnd" "scanned" "I" (.int w)) :
    MetFree l (⟨"com/example/vez/vez/gateway/http/HeadEnd", "getEnd", "()I"⟩ : MethodName) (head1 (Jvm.Cond.code (⟨"com/example/vez/vez/gateway/http/HeadEnd", "getEnd", "()I"⟩ : MethodName) prog_32_method_6_code 1 (some .int) :: ws) ({ frames := 0, cells := 0, slots := 0, locals := 0 } : Room)) (fun a U => a = #[(.ref o0)] ∧ Z.Warmed39 U.vm ∧ U.heap = h0) (fun _ _ _ _ _ => True) (fun _ U o U' => ∃ v L, o = .returned v ∧ (QPure n0 h0 (.int (own_Fe o0 w))) v U'.heap L ∧ FrameEnd U o U' L ({ frames := 0, cells := 0, slots := 0, locals := 0 } : Room).cells ({ frames := 0, cells := 0, slots := 0, locals := 0 } : Room).slots) := by
  refine MetFree.of_bodySF (plainFor_of_name own_pn0) hisR ?_
  intro p e s m args below meth c s₁ Bd hml0 hP hK
  obtain ⟨rfl, hZ, hh⟩ := hP
  have hx := Bd.exec
  have hby := Bd.bytes
  have hml : c.maxLocals = 1 := hml0
  have hown : s.vm.findClass "com/example/vez/vez/gateway/http/HeadEnd" = some m.cls := findClass_of_methodNamed Bd.named
  have hnm := (name_of_methodNamed Bd.named Bd.method).1
  have X0 : Stand p l e ({ frames := 0, cells := 0, slots := 0, locals := 0 } : Room) s m #[(.ref o0)] below meth c s₁ [] 0 0 := Stand.of_body Bd
  have e0 : s₁.heap = h0 := by rw [← hh, Bd.state]; rfl
  have N0 := Fr.nil n0
  suffices H : Run p.tables e below (FinR s ({ frames := 0, cells := 0, slots := 0, locals := 0 } : Room).cells ({ frames := 0, cells := 0, slots := 0, locals := 0 } : Room).slots (QPure n0 h0 (.int (own_Fe o0 w)))) s₁ (mkF m 0 #[.val (.ref o0)] []) by
    obtain ⟨s₂, o, k1, k2, k3, k4⟩ := H
    exact ⟨s₂, o, castTop (own_efe m o0) k1, k2, k3, k4⟩
  obtain ⟨r, hr⟩ : ∃ r, r = own_Fe o0 w := ⟨_, rfl⟩
  rw [← hr]
  rw [own_Fe] at hr
  refine Run.aloadN (pc' := 1) X0 hx (hb hby own_de_0) rfl rfl ?_
  obtain ⟨T1, X1, e1, st1⟩ := getF X0 hx hZ hown (host := "") (Or.inl (hw _ (List.mem_of_getElem? (i := 35) rfl))) Via.refl e0 F_f (g := (mkF m 1 #[.val (.ref o0)] [(.ref o0)])) rfl rfl (hb hby own_de_1)
  refine Run.back (g' := (mkF m 4 #[.val (.ref o0)] [(.int w)])) st1 ?_
  exact Run.retInt X1 hx Bd.notSynchronized Bd.returns (hb hby own_de_4) ⟨by rw [hr], N0, e1⟩ (by decide) (by decide)
def own_Fp (q0 : Int64) : Int32 := (if (((q0 &&& (1023 : Int64)).toInt32) &&& (3 : Int32)) = (0 : Int32) then (10 : Int32) else (if (((q0 &&& (1023 : Int64)).toInt32) &&& (3 : Int32)) = (1 : Int32) then (13 : Int32) else (((((q0 &&& (1023 : Int64)).toInt32) >>> ((2 : Int32) &&& 31)).toInt8.toInt32).toInt8.toInt32)))
theorem own_dp_0 : decode method_2_code 0 = .ok (.lload_n 0, 1) := by decide +kernel
theorem own_dp_1 : decode method_2_code 1 = .ok (.ldc2_w 7, 3) := by decide +kernel
theorem own_dp_4 : decode method_2_code 4 = .ok (.land, 1) := by decide +kernel
theorem own_dp_5 : decode method_2_code 5 = .ok (.l2i, 1) := by decide +kernel
theorem own_dp_6 : decode method_2_code 6 = .ok (.istore_n 2, 1) := by decide +kernel
theorem own_dp_7 : decode method_2_code 7 = .ok (.iload_n 2, 1) := by decide +kernel
theorem own_dp_8 : decode method_2_code 8 = .ok (.iconst 3, 1) := by decide +kernel
theorem own_dp_9 : decode method_2_code 9 = .ok (.iand, 1) := by decide +kernel
theorem own_dp_10 : decode method_2_code 10 = .ok (.istore_n 3, 1) := by decide +kernel
theorem own_dp_11 : decode method_2_code 11 = .ok (.iload_n 3, 1) := by decide +kernel
theorem own_dp_12 : decode method_2_code 12 = .ok (.ifCond .ne 6, 3) := by decide +kernel
theorem own_dp_15 : decode method_2_code 15 = .ok (.bipush 10, 2) := by decide +kernel
theorem own_dp_17 : decode method_2_code 17 = .ok (.ireturn, 1) := by decide +kernel
theorem own_dp_18 : decode method_2_code 18 = .ok (.iload_n 3, 1) := by decide +kernel
theorem own_dp_19 : decode method_2_code 19 = .ok (.iconst 1, 1) := by decide +kernel
theorem own_dp_20 : decode method_2_code 20 = .ok (.if_icmp .ne 6, 3) := by decide +kernel
theorem own_dp_23 : decode method_2_code 23 = .ok (.bipush 13, 2) := by decide +kernel
theorem own_dp_25 : decode method_2_code 25 = .ok (.ireturn, 1) := by decide +kernel
theorem own_dp_26 : decode method_2_code 26 = .ok (.iload_n 2, 1) := by decide +kernel
theorem own_dp_27 : decode method_2_code 27 = .ok (.iconst 2, 1) := by decide +kernel
theorem own_dp_28 : decode method_2_code 28 = .ok (.ishr, 1) := by decide +kernel
theorem own_dp_29 : decode method_2_code 29 = .ok (.i2b, 1) := by decide +kernel
theorem own_dp_30 : decode method_2_code 30 = .ok (.ireturn, 1) := by decide +kernel
theorem own_efp (m : MethodId) (x0 : Int64) : entryFrame m #[(.long x0)] 4 = mkF m 0 #[.val (.long x0), .second, .unset, .unset] [] := by first | (simp [entryFrame, mkF, argsToLocals, Value.category]; done) | rfl
set_option maxRecDepth 65536 in
set_option maxHeartbeats 40000000 in
theorem rm_p (l : Launch) (Z : State) (a0 : Array Value) (hw : ∀ d ∈ tables_1, d.before a0 Z = true) (ws : List Jvm.Cond) (q0 : Int64) (h0 : Heap) (n0 : Nat) (Z0 : n0 ≤ h0.size) :
    MetFree l (⟨"com/example/vez/vez/gateway/http/HeadEndFindPinLaw", "pick", "(J)B"⟩ : MethodName) (head1 (Jvm.Cond.code (⟨"com/example/vez/vez/gateway/http/HeadEndFindPinLaw", "pick", "(J)B"⟩ : MethodName) method_2_code 4 (some .byte) :: ws) ({ frames := 0, cells := 0, slots := 0, locals := 0 } : Room)) (fun a U => a = #[(.long q0)] ∧ Z.Warmed39 U.vm ∧ U.heap = h0) (fun _ _ _ _ _ => True) (fun _ U o U' => ∃ v L, o = .returned v ∧ (QPure n0 h0 (.int (own_Fp q0))) v U'.heap L ∧ FrameEnd U o U' L ({ frames := 0, cells := 0, slots := 0, locals := 0 } : Room).cells ({ frames := 0, cells := 0, slots := 0, locals := 0 } : Room).slots) := by
  refine MetFree.of_bodySF (plainFor_of_name own_pn1) hisR ?_
  intro p e s m args below meth c s₁ Bd hml0 hP hK
  obtain ⟨rfl, hZ, hh⟩ := hP
  have hx := Bd.exec
  have hby := Bd.bytes
  have hml : c.maxLocals = 4 := hml0
  have hown : s.vm.findClass "com/example/vez/vez/gateway/http/HeadEndFindPinLaw" = some m.cls := findClass_of_methodNamed Bd.named
  have hnm := (name_of_methodNamed Bd.named Bd.method).1
  have X0 : Stand p l e ({ frames := 0, cells := 0, slots := 0, locals := 0 } : Room) s m #[(.long q0)] below meth c s₁ [] 0 0 := Stand.of_body Bd
  have e0 : s₁.heap = h0 := by rw [← hh, Bd.state]; rfl
  have N0 := Fr.nil n0
  suffices H : Run p.tables e below (FinR s ({ frames := 0, cells := 0, slots := 0, locals := 0 } : Room).cells ({ frames := 0, cells := 0, slots := 0, locals := 0 } : Room).slots (QPure n0 h0 (.int (own_Fp q0)))) s₁ (mkF m 0 #[.val (.long q0), .second, .unset, .unset] []) by
    obtain ⟨s₂, o, k1, k2, k3, k4⟩ := H
    exact ⟨s₂, o, castTop (own_efp m q0) k1, k2, k3, k4⟩
  obtain ⟨r, hr⟩ : ∃ r, r = own_Fp q0 := ⟨_, rfl⟩
  rw [← hr]
  rw [own_Fp] at hr
  refine Run.lloadN (pc' := 1) X0 hx (hb hby own_dp_0) rfl rfl ?_
  refine Run.ldc2Long (pc' := 4) (v := (1023 : Int64)) X0 hx hown (mvT hZ (hw _ (List.mem_of_getElem? (i := 5) rfl))) (hb hby own_dp_1) rfl ?_
  refine Run.land (pc' := 5) X0 hx (hb hby own_dp_4) rfl ?_
  refine Run.l2i (pc' := 6) X0 hx (hb hby own_dp_5) rfl ?_
  refine Run.istoreN (pc' := 7) X0 hx (l' := #[.val (.long q0), .second, .val (.int ((q0 &&& (1023 : Int64)).toInt32)), .unset]) (hb hby own_dp_6) rfl rfl ?_
  refine Run.iloadN (pc' := 8) X0 hx (hb hby own_dp_7) rfl rfl ?_
  refine Run.iconst (pc' := 9) (v := (3 : Int32)) X0 hx (hb hby own_dp_8) rfl rfl ?_
  refine Run.iand (pc' := 10) X0 hx (hb hby own_dp_9) rfl ?_
  refine Run.istoreN (pc' := 11) X0 hx (l' := #[.val (.long q0), .second, .val (.int ((q0 &&& (1023 : Int64)).toInt32)), .val (.int (((q0 &&& (1023 : Int64)).toInt32) &&& (3 : Int32)))]) (hb hby own_dp_10) rfl rfl ?_
  refine Run.iloadN (pc' := 12) X0 hx (hb hby own_dp_11) rfl rfl ?_
  by_cases hc12 : (((q0 &&& (1023 : Int64)).toInt32) &&& (3 : Int32)) = (0 : Int32)
  · rw [if_pos hc12] at hr
    refine Run.ifNo (pc' := 15) X0 hx (hb hby own_dp_12) ((if0 _ _).trans (teq hc12).2) rfl ?_
    refine Run.bipush (pc' := 17) (v := (10 : Int32)) X0 hx (hb hby own_dp_15) rfl rfl ?_
    exact Run.retSmall X0 hx (t := .byte) (z' := (10 : Int32)) Bd.notSynchronized Bd.returns (by simp) rfl (hb hby own_dp_17) ⟨by rw [hr], N0, e0⟩ (by decide) (by decide)
  · rw [if_neg hc12] at hr
    refine Run.ifYes (pc' := 18) X0 hx (hb hby own_dp_12) ((if0 _ _).trans (feq hc12).2) (by decide) (by decide) ?_
    refine Run.iloadN (pc' := 19) X0 hx (hb hby own_dp_18) rfl rfl ?_
    refine Run.iconst (pc' := 20) (v := (1 : Int32)) X0 hx (hb hby own_dp_19) rfl rfl ?_
    by_cases hc20 : (((q0 &&& (1023 : Int64)).toInt32) &&& (3 : Int32)) = (1 : Int32)
    · rw [if_pos hc20] at hr
      refine Run.icmpNo (pc' := 23) X0 hx (hb hby own_dp_20) (teq hc20).2 rfl ?_
      refine Run.bipush (pc' := 25) (v := (13 : Int32)) X0 hx (hb hby own_dp_23) rfl rfl ?_
      exact Run.retSmall X0 hx (t := .byte) (z' := (13 : Int32)) Bd.notSynchronized Bd.returns (by simp) rfl (hb hby own_dp_25) ⟨by rw [hr], N0, e0⟩ (by decide) (by decide)
    · rw [if_neg hc20] at hr
      refine Run.icmpYes (pc' := 26) X0 hx (hb hby own_dp_20) (feq hc20).2 (by decide) (by decide) ?_
      refine Run.iloadN (pc' := 27) X0 hx (hb hby own_dp_26) rfl rfl ?_
      refine Run.iconst (pc' := 28) (v := (2 : Int32)) X0 hx (hb hby own_dp_27) rfl rfl ?_
      refine Run.ishr (pc' := 29) X0 hx (hb hby own_dp_28) rfl ?_
      refine Run.i2b (pc' := 30) X0 hx (hb hby own_dp_29) rfl ?_
      exact Run.retSmall X0 hx (t := .byte) (z' := (((((q0 &&& (1023 : Int64)).toInt32) >>> ((2 : Int32) &&& 31)).toInt8.toInt32).toInt8.toInt32)) Bd.notSynchronized Bd.returns (by simp) rfl (hb hby own_dp_30) ⟨by rw [hr], N0, e0⟩ (by decide) (by decide)
def own_fo_13 (p0 : Int32) (y13_0 : Int32) : Int32 := (y13_0.toInt8.toInt32)
def own_Fo (p0 : Int32) : Int32 := (if p0 = (10 : Int32) then (own_fo_13 p0 (97 : Int32)) else (own_fo_13 p0 (10 : Int32)))
theorem own_do_0 : decode method_3_code 0 = .ok (.iload_n 0, 1) := by decide +kernel
theorem own_do_1 : decode method_3_code 1 = .ok (.bipush 10, 2) := by decide +kernel
theorem own_do_3 : decode method_3_code 3 = .ok (.if_icmp .ne 8, 3) := by decide +kernel
theorem own_do_6 : decode method_3_code 6 = .ok (.bipush 97, 2) := by decide +kernel
theorem own_do_8 : decode method_3_code 8 = .ok (.goto 5, 3) := by decide +kernel
theorem own_do_11 : decode method_3_code 11 = .ok (.bipush 10, 2) := by decide +kernel
theorem own_do_13 : decode method_3_code 13 = .ok (.ireturn, 1) := by decide +kernel
theorem own_efo (m : MethodId) (x0 : Int32) : entryFrame m #[(.int x0)] 1 = mkF m 0 #[.val (.int x0)] [] := by first | (simp [entryFrame, mkF, argsToLocals, Value.category]; done) | rfl
set_option maxRecDepth 65536 in
set_option maxHeartbeats 40000000 in
theorem rm_o (l : Launch) (Z : State) (a0 : Array Value) (hw : ∀ d ∈ tables_1, d.before a0 Z = true) (ws : List Jvm.Cond) (p0 : Int32) (h0 : Heap) (n0 : Nat) (Z0 : n0 ≤ h0.size) :
    MetFree l (⟨"com/example/vez/vez/gateway/http/HeadEndFindPinLaw", "opp", "(B)B"⟩ : MethodName) (head1 (Jvm.Cond.code (⟨"com/example/vez/vez/gateway/http/HeadEndFindPinLaw", "opp", "(B)B"⟩ : MethodName) method_3_code 1 (some .byte) :: ws) ({ frames := 0, cells := 0, slots := 0, locals := 0 } : Room)) (fun a U => a = #[(.int p0)] ∧ Z.Warmed39 U.vm ∧ U.heap = h0) (fun _ _ _ _ _ => True) (fun _ U o U' => ∃ v L, o = .returned v ∧ (QPure n0 h0 (.int (own_Fo p0))) v U'.heap L ∧ FrameEnd U o U' L ({ frames := 0, cells := 0, slots := 0, locals := 0 } : Room).cells ({ frames := 0, cells := 0, slots := 0, locals := 0 } : Room).slots) := by
  refine MetFree.of_bodySF (plainFor_of_name own_pn1) hisR ?_
  intro p e s m args below meth c s₁ Bd hml0 hP hK
  obtain ⟨rfl, hZ, hh⟩ := hP
  have hx := Bd.exec
  have hby := Bd.bytes
  have hml : c.maxLocals = 1 := hml0
  have hown : s.vm.findClass "com/example/vez/vez/gateway/http/HeadEndFindPinLaw" = some m.cls := findClass_of_methodNamed Bd.named
  have hnm := (name_of_methodNamed Bd.named Bd.method).1
  have X0 : Stand p l e ({ frames := 0, cells := 0, slots := 0, locals := 0 } : Room) s m #[(.int p0)] below meth c s₁ [] 0 0 := Stand.of_body Bd
  have e0 : s₁.heap = h0 := by rw [← hh, Bd.state]; rfl
  have N0 := Fr.nil n0
  suffices H : Run p.tables e below (FinR s ({ frames := 0, cells := 0, slots := 0, locals := 0 } : Room).cells ({ frames := 0, cells := 0, slots := 0, locals := 0 } : Room).slots (QPure n0 h0 (.int (own_Fo p0)))) s₁ (mkF m 0 #[.val (.int p0)] []) by
    obtain ⟨s₂, o, k1, k2, k3, k4⟩ := H
    exact ⟨s₂, o, castTop (own_efo m p0) k1, k2, k3, k4⟩
  obtain ⟨r, hr⟩ : ∃ r, r = own_Fo p0 := ⟨_, rfl⟩
  rw [← hr]
  have J13 : ∀ (y13_0 : Int32) (r : Int32), r = (own_fo_13 p0 y13_0) → ∀ (T : State) (locs : List Loc), Stand p l e ({ frames := 0, cells := 0, slots := 0, locals := 0 } : Room) s m #[(.int p0)] below meth c T locs 0 0 → T.heap = h0 → Fr n0 locs → Run p.tables e below (FinR s ({ frames := 0, cells := 0, slots := 0, locals := 0 } : Room).cells ({ frames := 0, cells := 0, slots := 0, locals := 0 } : Room).slots (QPure n0 h0 (.int r))) T (mkF m 13 #[.val (.int p0)] [(.int y13_0)]) := by
    clear hr
    intro y13_0 r hr T locs X eT N
    rw [own_fo_13] at hr
    exact Run.retSmall X hx (t := .byte) (z' := (y13_0.toInt8.toInt32)) Bd.notSynchronized Bd.returns (by simp) rfl (hb hby own_do_13) ⟨by rw [hr], N, eT⟩ (by decide) (by decide)
  rw [own_Fo] at hr
  refine Run.iloadN (pc' := 1) X0 hx (hb hby own_do_0) rfl rfl ?_
  refine Run.bipush (pc' := 3) (v := (10 : Int32)) X0 hx (hb hby own_do_1) rfl rfl ?_
  by_cases hc3 : p0 = (10 : Int32)
  · rw [if_pos hc3] at hr
    refine Run.icmpNo (pc' := 6) X0 hx (hb hby own_do_3) (teq hc3).2 rfl ?_
    refine Run.bipush (pc' := 8) (v := (97 : Int32)) X0 hx (hb hby own_do_6) rfl rfl ?_
    refine Run.goto (pc' := 13) X0 hx (hb hby own_do_8) (by decide) (by decide) ?_
    exact J13 (97 : Int32) _ hr _ _ X0 e0 N0
  · rw [if_neg hc3] at hr
    refine Run.icmpYes (pc' := 11) X0 hx (hb hby own_do_3) (feq hc3).2 (by decide) (by decide) ?_
    refine Run.bipush (pc' := 13) (v := (10 : Int32)) X0 hx (hb hby own_do_11) rfl rfl ?_
    exact J13 (10 : Int32) _ hr _ _ X0 e0 N0
def own_fk_12 (p0 : Int32) (p1 : Int32) (y12_0 : Int32) : Int32 := (y12_0.toInt8.toInt32)
def own_Fk (p0 : Int32) (p1 : Int32) : Int32 := (if p1 = (0 : Int32) then (own_fk_12 p0 p1 (own_Fo p0)) else (own_fk_12 p0 p1 p0))
theorem own_dk_0 : decode method_4_code 0 = .ok (.iload_n 1, 1) := by decide +kernel
theorem own_dk_1 : decode method_4_code 1 = .ok (.ifCond .eq 7, 3) := by decide +kernel
theorem own_dk_4 : decode method_4_code 4 = .ok (.iload_n 0, 1) := by decide +kernel
theorem own_dk_5 : decode method_4_code 5 = .ok (.goto 7, 3) := by decide +kernel
theorem own_dk_8 : decode method_4_code 8 = .ok (.iload_n 0, 1) := by decide +kernel
theorem own_dk_9 : decode method_4_code 9 = .ok (.invokestatic 9, 3) := by decide +kernel
theorem own_dk_12 : decode method_4_code 12 = .ok (.ireturn, 1) := by decide +kernel
theorem own_efk (m : MethodId) (x0 : Int32) (x1 : Int32) : entryFrame m #[(.int x0), (.int x1)] 2 = mkF m 0 #[.val (.int x0), .val (.int x1)] [] := by first | (simp [entryFrame, mkF, argsToLocals, Value.category]; done) | rfl
set_option maxRecDepth 65536 in
set_option maxHeartbeats 40000000 in
theorem rm_k (l : Launch) (Z : State) (a0 : Array Value) (hw : ∀ d ∈ tables_1, d.before a0 Z = true) (ws : List Jvm.Cond) (p0 : Int32) (p1 : Int32) (h0 : Heap) (n0 : Nat) (Z0 : n0 ≤ h0.size) :
    MetFree l (⟨"com/example/vez/vez/gateway/http/HeadEndFindPinLaw", "keep", "(BZ)B"⟩ : MethodName) (head1 (Jvm.Cond.code (⟨"com/example/vez/vez/gateway/http/HeadEndFindPinLaw", "keep", "(BZ)B"⟩ : MethodName) method_4_code 2 (some .byte) :: ws) ({ frames := 1, cells := 0, slots := 0, locals := 12 } : Room)) (fun a U => a = #[(.int p0), (.int p1)] ∧ Z.Warmed39 U.vm ∧ U.heap = h0) (fun _ _ _ _ _ => True) (fun _ U o U' => ∃ v L, o = .returned v ∧ (QPure n0 h0 (.int (own_Fk p0 p1))) v U'.heap L ∧ FrameEnd U o U' L ({ frames := 1, cells := 0, slots := 0, locals := 12 } : Room).cells ({ frames := 1, cells := 0, slots := 0, locals := 12 } : Room).slots) := by
  refine MetFree.of_bodySF (plainFor_of_name own_pn1) hisR ?_
  intro p e s m args below meth c s₁ Bd hml0 hP hK
  obtain ⟨rfl, hZ, hh⟩ := hP
  have hx := Bd.exec
  have hby := Bd.bytes
  have hml : c.maxLocals = 2 := hml0
  have hown : s.vm.findClass "com/example/vez/vez/gateway/http/HeadEndFindPinLaw" = some m.cls := findClass_of_methodNamed Bd.named
  have hnm := (name_of_methodNamed Bd.named Bd.method).1
  have X0 : Stand p l e ({ frames := 1, cells := 0, slots := 0, locals := 12 } : Room) s m #[(.int p0), (.int p1)] below meth c s₁ [] 0 0 := Stand.of_body Bd
  have e0 : s₁.heap = h0 := by rw [← hh, Bd.state]; rfl
  have N0 := Fr.nil n0
  suffices H : Run p.tables e below (FinR s ({ frames := 1, cells := 0, slots := 0, locals := 12 } : Room).cells ({ frames := 1, cells := 0, slots := 0, locals := 12 } : Room).slots (QPure n0 h0 (.int (own_Fk p0 p1)))) s₁ (mkF m 0 #[.val (.int p0), .val (.int p1)] []) by
    obtain ⟨s₂, o, k1, k2, k3, k4⟩ := H
    exact ⟨s₂, o, castTop (own_efk m p0 p1) k1, k2, k3, k4⟩
  obtain ⟨r, hr⟩ : ∃ r, r = own_Fk p0 p1 := ⟨_, rfl⟩
  rw [← hr]
  have J12 : ∀ (y12_0 : Int32) (r : Int32), r = (own_fk_12 p0 p1 y12_0) → ∀ (T : State) (locs : List Loc), Stand p l e ({ frames := 1, cells := 0, slots := 0, locals := 12 } : Room) s m #[(.int p0), (.int p1)] below meth c T locs 0 0 → T.heap = h0 → Fr n0 locs → Run p.tables e below (FinR s ({ frames := 1, cells := 0, slots := 0, locals := 12 } : Room).cells ({ frames := 1, cells := 0, slots := 0, locals := 12 } : Room).slots (QPure n0 h0 (.int r))) T (mkF m 12 #[.val (.int p0), .val (.int p1)] [(.int y12_0)]) := by
    clear hr
    intro y12_0 r hr T locs X eT N
    rw [own_fk_12] at hr
    exact Run.retSmall X hx (t := .byte) (z' := (y12_0.toInt8.toInt32)) Bd.notSynchronized Bd.returns (by simp) rfl (hb hby own_dk_12) ⟨by rw [hr], N, eT⟩ (by decide) (by decide)
  rw [own_Fk] at hr
  refine Run.iloadN (pc' := 1) X0 hx (hb hby own_dk_0) rfl rfl ?_
  by_cases hc1 : p1 = (0 : Int32)
  · rw [if_pos hc1] at hr
    refine Run.ifYes (pc' := 8) X0 hx (hb hby own_dk_1) ((if0 _ _).trans (teq hc1).1) (by decide) (by decide) ?_
    refine Run.iloadN (pc' := 9) X0 hx (hb hby own_dk_8) rfl rfl ?_
    obtain ⟨T1, L1, v1, X1, Q1, st1⟩ := callStatic X0 hx (y := (⟨"com/example/vez/vez/gateway/http/HeadEndFindPinLaw", "opp", "(B)B"⟩ : MethodName)) (Ls := #[.val (.int p0), .val (.int p1)]) (rest := []) (W := 0) (argsL := [(.int p0)]) hZ hown (hw _ (List.mem_of_getElem? (i := 10) rfl)) (hw _ (List.mem_of_getElem? (i := 11) rfl)) (hw _ (List.mem_of_getElem? (i := 3) rfl)) (hw _ (List.mem_of_getElem? (i := 12) rfl)) (by decide) e0 (rm_o l Z a0 hw [] p0  h0 n0 Z0 ) (hb hby own_dk_9) (lenOf own_pd0 rfl) (by decide) (by decide) (by rw [hml]; rfl) (Nat.le_of_eq rfl) (by decide) (by decide)
    obtain ⟨rfl, M1, e1⟩ := Q1
    have N1 := Fr.app N0 M1
    refine Run.back (g' := (mkF m 12 #[.val (.int p0), .val (.int p1)] [(.int (own_Fo p0))])) st1 ?_
    exact J12 (own_Fo p0) _ hr _ _ X1 e1 N1
  · rw [if_neg hc1] at hr
    refine Run.ifNo (pc' := 4) X0 hx (hb hby own_dk_1) ((if0 _ _).trans (feq hc1).1) rfl ?_
    refine Run.iloadN (pc' := 5) X0 hx (hb hby own_dk_4) rfl rfl ?_
    refine Run.goto (pc' := 12) X0 hx (hb hby own_dk_5) (by decide) (by decide) ?_
    exact J12 p0 _ hr _ _ X0 e0 N0
def own_fm_60 (o0 : Addr) (p1 : Int32) (f : Int32 → Int32) (y60_0 : Int32) : Int32 := (y60_0 &&& 1)
def own_fm_55 (o0 : Addr) (p1 : Int32) (f : Int32 → Int32) : Int32 := (own_fm_60 o0 p1 f (1 : Int32))
def own_Fm (o0 : Addr) (p1 : Int32) (f : Int32 → Int32) : Int32 := (if (f p1) = (10 : Int32) then (if p1 = (0 : Int32) then (1 : Int32) else (if (f (p1 - (1 : Int32))) = (10 : Int32) then (1 : Int32) else (if (f (p1 - (1 : Int32))) = (13 : Int32) then (if p1 = (1 : Int32) then (own_fm_55 o0 p1 f) else (if (f (p1 - (2 : Int32))) = (10 : Int32) then (own_fm_55 o0 p1 f) else (own_fm_60 o0 p1 f (0 : Int32)))) else (0 : Int32)))) else (0 : Int32))
theorem own_dm_0 : decode method_5_code 0 = .ok (.aload_n 0, 1) := by decide +kernel
theorem own_dm_1 : decode method_5_code 1 = .ok (.iload_n 1, 1) := by decide +kernel
theorem own_dm_2 : decode method_5_code 2 = .ok (.baload, 1) := by decide +kernel
theorem own_dm_3 : decode method_5_code 3 = .ok (.bipush 10, 2) := by decide +kernel
theorem own_dm_5 : decode method_5_code 5 = .ok (.if_icmp .eq 5, 3) := by decide +kernel
theorem own_dm_8 : decode method_5_code 8 = .ok (.iconst 0, 1) := by decide +kernel
theorem own_dm_9 : decode method_5_code 9 = .ok (.ireturn, 1) := by decide +kernel
theorem own_dm_10 : decode method_5_code 10 = .ok (.iload_n 1, 1) := by decide +kernel
theorem own_dm_11 : decode method_5_code 11 = .ok (.ifCond .ne 5, 3) := by decide +kernel
theorem own_dm_14 : decode method_5_code 14 = .ok (.iconst 1, 1) := by decide +kernel
theorem own_dm_15 : decode method_5_code 15 = .ok (.ireturn, 1) := by decide +kernel
theorem own_dm_16 : decode method_5_code 16 = .ok (.aload_n 0, 1) := by decide +kernel
theorem own_dm_17 : decode method_5_code 17 = .ok (.iload_n 1, 1) := by decide +kernel
theorem own_dm_18 : decode method_5_code 18 = .ok (.iconst 1, 1) := by decide +kernel
theorem own_dm_19 : decode method_5_code 19 = .ok (.isub, 1) := by decide +kernel
theorem own_dm_20 : decode method_5_code 20 = .ok (.baload, 1) := by decide +kernel
theorem own_dm_21 : decode method_5_code 21 = .ok (.bipush 10, 2) := by decide +kernel
theorem own_dm_23 : decode method_5_code 23 = .ok (.if_icmp .ne 5, 3) := by decide +kernel
theorem own_dm_26 : decode method_5_code 26 = .ok (.iconst 1, 1) := by decide +kernel
theorem own_dm_27 : decode method_5_code 27 = .ok (.ireturn, 1) := by decide +kernel
theorem own_dm_28 : decode method_5_code 28 = .ok (.aload_n 0, 1) := by decide +kernel
theorem own_dm_29 : decode method_5_code 29 = .ok (.iload_n 1, 1) := by decide +kernel
theorem own_dm_30 : decode method_5_code 30 = .ok (.iconst 1, 1) := by decide +kernel
theorem own_dm_31 : decode method_5_code 31 = .ok (.isub, 1) := by decide +kernel
theorem own_dm_32 : decode method_5_code 32 = .ok (.baload, 1) := by decide +kernel
theorem own_dm_33 : decode method_5_code 33 = .ok (.bipush 13, 2) := by decide +kernel
theorem own_dm_35 : decode method_5_code 35 = .ok (.if_icmp .eq 5, 3) := by decide +kernel
theorem own_dm_38 : decode method_5_code 38 = .ok (.iconst 0, 1) := by decide +kernel
theorem own_dm_39 : decode method_5_code 39 = .ok (.ireturn, 1) := by decide +kernel
theorem own_dm_40 : decode method_5_code 40 = .ok (.iload_n 1, 1) := by decide +kernel
theorem own_dm_41 : decode method_5_code 41 = .ok (.iconst 1, 1) := by decide +kernel
theorem own_dm_42 : decode method_5_code 42 = .ok (.if_icmp .eq 13, 3) := by decide +kernel
theorem own_dm_45 : decode method_5_code 45 = .ok (.aload_n 0, 1) := by decide +kernel
theorem own_dm_46 : decode method_5_code 46 = .ok (.iload_n 1, 1) := by decide +kernel
theorem own_dm_47 : decode method_5_code 47 = .ok (.iconst 2, 1) := by decide +kernel
theorem own_dm_48 : decode method_5_code 48 = .ok (.isub, 1) := by decide +kernel
theorem own_dm_49 : decode method_5_code 49 = .ok (.baload, 1) := by decide +kernel
theorem own_dm_50 : decode method_5_code 50 = .ok (.bipush 10, 2) := by decide +kernel
theorem own_dm_52 : decode method_5_code 52 = .ok (.if_icmp .ne 7, 3) := by decide +kernel
theorem own_dm_55 : decode method_5_code 55 = .ok (.iconst 1, 1) := by decide +kernel
theorem own_dm_56 : decode method_5_code 56 = .ok (.goto 4, 3) := by decide +kernel
theorem own_dm_59 : decode method_5_code 59 = .ok (.iconst 0, 1) := by decide +kernel
theorem own_dm_60 : decode method_5_code 60 = .ok (.ireturn, 1) := by decide +kernel
theorem own_efm (m : MethodId) (x0 : Addr) (x1 : Int32) : entryFrame m #[(.ref x0), (.int x1)] 2 = mkF m 0 #[.val (.ref x0), .val (.int x1)] [] := by first | (simp [entryFrame, mkF, argsToLocals, Value.category]; done) | rfl
set_option maxRecDepth 65536 in
set_option maxHeartbeats 40000000 in
theorem rm_m (l : Launch) (Z : State) (a0 : Array Value) (hw : ∀ d ∈ tables_1, d.before a0 Z = true) (ws : List Jvm.Cond) (o0 : Addr) (p1 : Int32) (f : Int32 → Int32) (h0 : Heap) (n0 : Nat) (Z0 : n0 ≤ h0.size) (A_t : Ints Z h0 o0 .byte (5 : Int32) f) (hp0 : ¬ p1 < 0) (hp1 : p1 < (5 : Int32)) :
    MetFree l (⟨"com/example/vez/vez/gateway/http/HeadEndFindPinLaw", "em", "([BI)Z"⟩ : MethodName) (head1 (Jvm.Cond.code (⟨"com/example/vez/vez/gateway/http/HeadEndFindPinLaw", "em", "([BI)Z"⟩ : MethodName) method_5_code 2 (some .boolean) :: ws) ({ frames := 0, cells := 0, slots := 0, locals := 0 } : Room)) (fun a U => a = #[(.ref o0), (.int p1)] ∧ Z.Warmed39 U.vm ∧ U.heap = h0) (fun _ _ _ _ _ => True) (fun _ U o U' => ∃ v L, o = .returned v ∧ (QPure n0 h0 (.int (own_Fm o0 p1 f))) v U'.heap L ∧ FrameEnd U o U' L ({ frames := 0, cells := 0, slots := 0, locals := 0 } : Room).cells ({ frames := 0, cells := 0, slots := 0, locals := 0 } : Room).slots) := by
  refine MetFree.of_bodySF (plainFor_of_name own_pn1) hisR ?_
  intro p e s m args below meth c s₁ Bd hml0 hP hK
  obtain ⟨rfl, hZ, hh⟩ := hP
  have hx := Bd.exec
  have hby := Bd.bytes
  have hml : c.maxLocals = 2 := hml0
  have hown : s.vm.findClass "com/example/vez/vez/gateway/http/HeadEndFindPinLaw" = some m.cls := findClass_of_methodNamed Bd.named
  have hnm := (name_of_methodNamed Bd.named Bd.method).1
  have X0 : Stand p l e ({ frames := 0, cells := 0, slots := 0, locals := 0 } : Room) s m #[(.ref o0), (.int p1)] below meth c s₁ [] 0 0 := Stand.of_body Bd
  have e0 : s₁.heap = h0 := by rw [← hh, Bd.state]; rfl
  have N0 := Fr.nil n0
  suffices H : Run p.tables e below (FinR s ({ frames := 0, cells := 0, slots := 0, locals := 0 } : Room).cells ({ frames := 0, cells := 0, slots := 0, locals := 0 } : Room).slots (QPure n0 h0 (.int (own_Fm o0 p1 f)))) s₁ (mkF m 0 #[.val (.ref o0), .val (.int p1)] []) by
    obtain ⟨s₂, o, k1, k2, k3, k4⟩ := H
    exact ⟨s₂, o, castTop (own_efm m o0 p1) k1, k2, k3, k4⟩
  obtain ⟨r, hr⟩ : ∃ r, r = own_Fm o0 p1 f := ⟨_, rfl⟩
  rw [← hr]
  have J60 : ∀ (y60_0 : Int32) (r : Int32), r = (own_fm_60 o0 p1 f y60_0) → ∀ (T : State) (locs : List Loc), Stand p l e ({ frames := 0, cells := 0, slots := 0, locals := 0 } : Room) s m #[(.ref o0), (.int p1)] below meth c T locs 0 0 → T.heap = h0 → Fr n0 locs → Run p.tables e below (FinR s ({ frames := 0, cells := 0, slots := 0, locals := 0 } : Room).cells ({ frames := 0, cells := 0, slots := 0, locals := 0 } : Room).slots (QPure n0 h0 (.int r))) T (mkF m 60 #[.val (.ref o0), .val (.int p1)] [(.int y60_0)]) := by
    clear hr
    intro y60_0 r hr T locs X eT N
    rw [own_fm_60] at hr
    exact Run.retSmall X hx (t := .boolean) (z' := (y60_0 &&& 1)) Bd.notSynchronized Bd.returns (by simp) rfl (hb hby own_dm_60) ⟨by rw [hr], N, eT⟩ (by decide) (by decide)
  have J55 : ∀  (r : Int32), r = (own_fm_55 o0 p1 f) → ∀ (T : State) (locs : List Loc), Stand p l e ({ frames := 0, cells := 0, slots := 0, locals := 0 } : Room) s m #[(.ref o0), (.int p1)] below meth c T locs 0 0 → T.heap = h0 → Fr n0 locs → Run p.tables e below (FinR s ({ frames := 0, cells := 0, slots := 0, locals := 0 } : Room).cells ({ frames := 0, cells := 0, slots := 0, locals := 0 } : Room).slots (QPure n0 h0 (.int r))) T (mkF m 55 #[.val (.ref o0), .val (.int p1)] []) := by
    clear hr
    intro  r hr T locs X eT N
    rw [own_fm_55] at hr
    refine Run.iconst (pc' := 56) (v := (1 : Int32)) X hx (hb hby own_dm_55) rfl rfl ?_
    refine Run.goto (pc' := 60) X hx (hb hby own_dm_56) (by decide) (by decide) ?_
    exact J60 (1 : Int32) _ hr _ _ X eT N
  rw [own_Fm] at hr
  refine Run.aloadN (pc' := 1) X0 hx (hb hby own_dm_0) rfl rfl ?_
  refine Run.iloadN (pc' := 2) X0 hx (hb hby own_dm_1) rfl rfl ?_
  refine Run.baload (pc' := 3) X0 hx hZ e0 A_t hp0 hp1 (hb hby own_dm_2) rfl ?_
  refine Run.bipush (pc' := 5) (v := (10 : Int32)) X0 hx (hb hby own_dm_3) rfl rfl ?_
  by_cases hc5 : (f p1) = (10 : Int32)
  · rw [if_pos hc5] at hr
    refine Run.icmpYes (pc' := 10) X0 hx (hb hby own_dm_5) (teq hc5).1 (by decide) (by decide) ?_
    refine Run.iloadN (pc' := 11) X0 hx (hb hby own_dm_10) rfl rfl ?_
    by_cases hc11 : p1 = (0 : Int32)
    · rw [if_pos hc11] at hr
      refine Run.ifNo (pc' := 14) X0 hx (hb hby own_dm_11) ((if0 _ _).trans (teq hc11).2) rfl ?_
      refine Run.iconst (pc' := 15) (v := (1 : Int32)) X0 hx (hb hby own_dm_14) rfl rfl ?_
      exact Run.retSmall X0 hx (t := .boolean) (z' := (1 : Int32)) Bd.notSynchronized Bd.returns (by simp) rfl (hb hby own_dm_15) ⟨by rw [hr], N0, e0⟩ (by decide) (by decide)
    · rw [if_neg hc11] at hr
      refine Run.ifYes (pc' := 16) X0 hx (hb hby own_dm_11) ((if0 _ _).trans (feq hc11).2) (by decide) (by decide) ?_
      refine Run.aloadN (pc' := 17) X0 hx (hb hby own_dm_16) rfl rfl ?_
      refine Run.iloadN (pc' := 18) X0 hx (hb hby own_dm_17) rfl rfl ?_
      refine Run.iconst (pc' := 19) (v := (1 : Int32)) X0 hx (hb hby own_dm_18) rfl rfl ?_
      refine Run.isub (pc' := 20) X0 hx (hb hby own_dm_19) rfl ?_
      refine Run.baload (pc' := 21) X0 hx hZ e0 A_t (own_m1 hp0 hp1 hc11).1 (own_m1 hp0 hp1 hc11).2 (hb hby own_dm_20) rfl ?_
      refine Run.bipush (pc' := 23) (v := (10 : Int32)) X0 hx (hb hby own_dm_21) rfl rfl ?_
      by_cases hc23 : (f (p1 - (1 : Int32))) = (10 : Int32)
      · rw [if_pos hc23] at hr
        refine Run.icmpNo (pc' := 26) X0 hx (hb hby own_dm_23) (teq hc23).2 rfl ?_
        refine Run.iconst (pc' := 27) (v := (1 : Int32)) X0 hx (hb hby own_dm_26) rfl rfl ?_
        exact Run.retSmall X0 hx (t := .boolean) (z' := (1 : Int32)) Bd.notSynchronized Bd.returns (by simp) rfl (hb hby own_dm_27) ⟨by rw [hr], N0, e0⟩ (by decide) (by decide)
      · rw [if_neg hc23] at hr
        refine Run.icmpYes (pc' := 28) X0 hx (hb hby own_dm_23) (feq hc23).2 (by decide) (by decide) ?_
        refine Run.aloadN (pc' := 29) X0 hx (hb hby own_dm_28) rfl rfl ?_
        refine Run.iloadN (pc' := 30) X0 hx (hb hby own_dm_29) rfl rfl ?_
        refine Run.iconst (pc' := 31) (v := (1 : Int32)) X0 hx (hb hby own_dm_30) rfl rfl ?_
        refine Run.isub (pc' := 32) X0 hx (hb hby own_dm_31) rfl ?_
        refine Run.baload (pc' := 33) X0 hx hZ e0 A_t (own_m1 hp0 hp1 hc11).1 (own_m1 hp0 hp1 hc11).2 (hb hby own_dm_32) rfl ?_
        refine Run.bipush (pc' := 35) (v := (13 : Int32)) X0 hx (hb hby own_dm_33) rfl rfl ?_
        by_cases hc35 : (f (p1 - (1 : Int32))) = (13 : Int32)
        · rw [if_pos hc35] at hr
          refine Run.icmpYes (pc' := 40) X0 hx (hb hby own_dm_35) (teq hc35).1 (by decide) (by decide) ?_
          refine Run.iloadN (pc' := 41) X0 hx (hb hby own_dm_40) rfl rfl ?_
          refine Run.iconst (pc' := 42) (v := (1 : Int32)) X0 hx (hb hby own_dm_41) rfl rfl ?_
          by_cases hc42 : p1 = (1 : Int32)
          · rw [if_pos hc42] at hr
            refine Run.icmpYes (pc' := 55) X0 hx (hb hby own_dm_42) (teq hc42).1 (by decide) (by decide) ?_
            exact J55  _ hr _ _ X0 e0 N0
          · rw [if_neg hc42] at hr
            refine Run.icmpNo (pc' := 45) X0 hx (hb hby own_dm_42) (feq hc42).1 rfl ?_
            refine Run.aloadN (pc' := 46) X0 hx (hb hby own_dm_45) rfl rfl ?_
            refine Run.iloadN (pc' := 47) X0 hx (hb hby own_dm_46) rfl rfl ?_
            refine Run.iconst (pc' := 48) (v := (2 : Int32)) X0 hx (hb hby own_dm_47) rfl rfl ?_
            refine Run.isub (pc' := 49) X0 hx (hb hby own_dm_48) rfl ?_
            refine Run.baload (pc' := 50) X0 hx hZ e0 A_t (own_m2 hp0 hp1 hc11 hc42).1 (own_m2 hp0 hp1 hc11 hc42).2 (hb hby own_dm_49) rfl ?_
            refine Run.bipush (pc' := 52) (v := (10 : Int32)) X0 hx (hb hby own_dm_50) rfl rfl ?_
            by_cases hc52 : (f (p1 - (2 : Int32))) = (10 : Int32)
            · rw [if_pos hc52] at hr
              refine Run.icmpNo (pc' := 55) X0 hx (hb hby own_dm_52) (teq hc52).2 rfl ?_
              exact J55  _ hr _ _ X0 e0 N0
            · rw [if_neg hc52] at hr
              refine Run.icmpYes (pc' := 59) X0 hx (hb hby own_dm_52) (feq hc52).2 (by decide) (by decide) ?_
              refine Run.iconst (pc' := 60) (v := (0 : Int32)) X0 hx (hb hby own_dm_59) rfl rfl ?_
              exact J60 (0 : Int32) _ hr _ _ X0 e0 N0
        · rw [if_neg hc35] at hr
          refine Run.icmpNo (pc' := 38) X0 hx (hb hby own_dm_35) (feq hc35).1 rfl ?_
          refine Run.iconst (pc' := 39) (v := (0 : Int32)) X0 hx (hb hby own_dm_38) rfl rfl ?_
          exact Run.retSmall X0 hx (t := .boolean) (z' := (0 : Int32)) Bd.notSynchronized Bd.returns (by simp) rfl (hb hby own_dm_39) ⟨by rw [hr], N0, e0⟩ (by decide) (by decide)
  · rw [if_neg hc5] at hr
    refine Run.icmpNo (pc' := 8) X0 hx (hb hby own_dm_5) (feq hc5).1 rfl ?_
    refine Run.iconst (pc' := 9) (v := (0 : Int32)) X0 hx (hb hby own_dm_8) rfl rfl ?_
    exact Run.retSmall X0 hx (t := .boolean) (z' := (0 : Int32)) Bd.notSynchronized Bd.returns (by simp) rfl (hb hby own_dm_9) ⟨by rw [hr], N0, e0⟩ (by decide) (by decide)
def own_fn_21 (o0 : Addr) (p1 : Int32) (f : Int32 → Int32) (y21_0 : Int32) : Int32 := (y21_0 &&& 1)
def own_fn_20 (o0 : Addr) (p1 : Int32) (f : Int32 → Int32) : Int32 := (own_fn_21 o0 p1 f (0 : Int32))
def own_Fn (o0 : Addr) (p1 : Int32) (f : Int32 → Int32) : Int32 := (if (f p1) = (10 : Int32) then (if (own_Fm o0 p1 f) = (0 : Int32) then (own_fn_21 o0 p1 f (1 : Int32)) else (own_fn_20 o0 p1 f)) else (own_fn_20 o0 p1 f))
theorem own_dn_0 : decode method_6_code 0 = .ok (.aload_n 0, 1) := by decide +kernel
theorem own_dn_1 : decode method_6_code 1 = .ok (.iload_n 1, 1) := by decide +kernel
theorem own_dn_2 : decode method_6_code 2 = .ok (.baload, 1) := by decide +kernel
theorem own_dn_3 : decode method_6_code 3 = .ok (.bipush 10, 2) := by decide +kernel
theorem own_dn_5 : decode method_6_code 5 = .ok (.if_icmp .ne 15, 3) := by decide +kernel
theorem own_dn_8 : decode method_6_code 8 = .ok (.aload_n 0, 1) := by decide +kernel
theorem own_dn_9 : decode method_6_code 9 = .ok (.iload_n 1, 1) := by decide +kernel
theorem own_dn_10 : decode method_6_code 10 = .ok (.invokestatic 15, 3) := by decide +kernel
theorem own_dn_13 : decode method_6_code 13 = .ok (.ifCond .ne 7, 3) := by decide +kernel
theorem own_dn_16 : decode method_6_code 16 = .ok (.iconst 1, 1) := by decide +kernel
theorem own_dn_17 : decode method_6_code 17 = .ok (.goto 4, 3) := by decide +kernel
theorem own_dn_20 : decode method_6_code 20 = .ok (.iconst 0, 1) := by decide +kernel
theorem own_dn_21 : decode method_6_code 21 = .ok (.ireturn, 1) := by decide +kernel
theorem own_efn (m : MethodId) (x0 : Addr) (x1 : Int32) : entryFrame m #[(.ref x0), (.int x1)] 2 = mkF m 0 #[.val (.ref x0), .val (.int x1)] [] := by first | (simp [entryFrame, mkF, argsToLocals, Value.category]; done) | rfl
set_option maxRecDepth 65536 in
set_option maxHeartbeats 40000000 in
theorem rm_n (l : Launch) (Z : State) (a0 : Array Value) (hw : ∀ d ∈ tables_1, d.before a0 Z = true) (ws : List Jvm.Cond) (o0 : Addr) (p1 : Int32) (f : Int32 → Int32) (h0 : Heap) (n0 : Nat) (Z0 : n0 ≤ h0.size) (A_t : Ints Z h0 o0 .byte (5 : Int32) f) (hp0 : ¬ p1 < 0) (hp1 : p1 < (5 : Int32)) :
    MetFree l (⟨"com/example/vez/vez/gateway/http/HeadEndFindPinLaw", "ne", "([BI)Z"⟩ : MethodName) (head1 (Jvm.Cond.code (⟨"com/example/vez/vez/gateway/http/HeadEndFindPinLaw", "ne", "([BI)Z"⟩ : MethodName) method_6_code 2 (some .boolean) :: ws) ({ frames := 1, cells := 0, slots := 0, locals := 13 } : Room)) (fun a U => a = #[(.ref o0), (.int p1)] ∧ Z.Warmed39 U.vm ∧ U.heap = h0) (fun _ _ _ _ _ => True) (fun _ U o U' => ∃ v L, o = .returned v ∧ (QPure n0 h0 (.int (own_Fn o0 p1 f))) v U'.heap L ∧ FrameEnd U o U' L ({ frames := 1, cells := 0, slots := 0, locals := 13 } : Room).cells ({ frames := 1, cells := 0, slots := 0, locals := 13 } : Room).slots) := by
  refine MetFree.of_bodySF (plainFor_of_name own_pn1) hisR ?_
  intro p e s m args below meth c s₁ Bd hml0 hP hK
  obtain ⟨rfl, hZ, hh⟩ := hP
  have hx := Bd.exec
  have hby := Bd.bytes
  have hml : c.maxLocals = 2 := hml0
  have hown : s.vm.findClass "com/example/vez/vez/gateway/http/HeadEndFindPinLaw" = some m.cls := findClass_of_methodNamed Bd.named
  have hnm := (name_of_methodNamed Bd.named Bd.method).1
  have X0 : Stand p l e ({ frames := 1, cells := 0, slots := 0, locals := 13 } : Room) s m #[(.ref o0), (.int p1)] below meth c s₁ [] 0 0 := Stand.of_body Bd
  have e0 : s₁.heap = h0 := by rw [← hh, Bd.state]; rfl
  have N0 := Fr.nil n0
  suffices H : Run p.tables e below (FinR s ({ frames := 1, cells := 0, slots := 0, locals := 13 } : Room).cells ({ frames := 1, cells := 0, slots := 0, locals := 13 } : Room).slots (QPure n0 h0 (.int (own_Fn o0 p1 f)))) s₁ (mkF m 0 #[.val (.ref o0), .val (.int p1)] []) by
    obtain ⟨s₂, o, k1, k2, k3, k4⟩ := H
    exact ⟨s₂, o, castTop (own_efn m o0 p1) k1, k2, k3, k4⟩
  obtain ⟨r, hr⟩ : ∃ r, r = own_Fn o0 p1 f := ⟨_, rfl⟩
  rw [← hr]
  have J21 : ∀ (y21_0 : Int32) (r : Int32), r = (own_fn_21 o0 p1 f y21_0) → ∀ (T : State) (locs : List Loc), Stand p l e ({ frames := 1, cells := 0, slots := 0, locals := 13 } : Room) s m #[(.ref o0), (.int p1)] below meth c T locs 0 0 → T.heap = h0 → Fr n0 locs → Run p.tables e below (FinR s ({ frames := 1, cells := 0, slots := 0, locals := 13 } : Room).cells ({ frames := 1, cells := 0, slots := 0, locals := 13 } : Room).slots (QPure n0 h0 (.int r))) T (mkF m 21 #[.val (.ref o0), .val (.int p1)] [(.int y21_0)]) := by
    clear hr
    intro y21_0 r hr T locs X eT N
    rw [own_fn_21] at hr
    exact Run.retSmall X hx (t := .boolean) (z' := (y21_0 &&& 1)) Bd.notSynchronized Bd.returns (by simp) rfl (hb hby own_dn_21) ⟨by rw [hr], N, eT⟩ (by decide) (by decide)
  have J20 : ∀  (r : Int32), r = (own_fn_20 o0 p1 f) → ∀ (T : State) (locs : List Loc), Stand p l e ({ frames := 1, cells := 0, slots := 0, locals := 13 } : Room) s m #[(.ref o0), (.int p1)] below meth c T locs 0 0 → T.heap = h0 → Fr n0 locs → Run p.tables e below (FinR s ({ frames := 1, cells := 0, slots := 0, locals := 13 } : Room).cells ({ frames := 1, cells := 0, slots := 0, locals := 13 } : Room).slots (QPure n0 h0 (.int r))) T (mkF m 20 #[.val (.ref o0), .val (.int p1)] []) := by
    clear hr
    intro  r hr T locs X eT N
    rw [own_fn_20] at hr
    refine Run.iconst (pc' := 21) (v := (0 : Int32)) X hx (hb hby own_dn_20) rfl rfl ?_
    exact J21 (0 : Int32) _ hr _ _ X eT N
  rw [own_Fn] at hr
  refine Run.aloadN (pc' := 1) X0 hx (hb hby own_dn_0) rfl rfl ?_
  refine Run.iloadN (pc' := 2) X0 hx (hb hby own_dn_1) rfl rfl ?_
  refine Run.baload (pc' := 3) X0 hx hZ e0 A_t hp0 hp1 (hb hby own_dn_2) rfl ?_
  refine Run.bipush (pc' := 5) (v := (10 : Int32)) X0 hx (hb hby own_dn_3) rfl rfl ?_
  by_cases hc5 : (f p1) = (10 : Int32)
  · rw [if_pos hc5] at hr
    refine Run.icmpNo (pc' := 8) X0 hx (hb hby own_dn_5) (teq hc5).2 rfl ?_
    refine Run.aloadN (pc' := 9) X0 hx (hb hby own_dn_8) rfl rfl ?_
    refine Run.iloadN (pc' := 10) X0 hx (hb hby own_dn_9) rfl rfl ?_
    obtain ⟨T1, L1, v1, X1, Q1, st1⟩ := callStatic X0 hx (y := (⟨"com/example/vez/vez/gateway/http/HeadEndFindPinLaw", "em", "([BI)Z"⟩ : MethodName)) (Ls := #[.val (.ref o0), .val (.int p1)]) (rest := []) (W := 0) (argsL := [(.ref o0), (.int p1)]) hZ hown (hw _ (List.mem_of_getElem? (i := 16) rfl)) (hw _ (List.mem_of_getElem? (i := 17) rfl)) (hw _ (List.mem_of_getElem? (i := 3) rfl)) (hw _ (List.mem_of_getElem? (i := 18) rfl)) (by decide) e0 (rm_m l Z a0 hw [] o0 p1 f h0 n0 Z0 A_t hp0 hp1) (hb hby own_dn_10) (lenOf own_pd1 rfl) (by decide) (by decide) (by rw [hml]; rfl) (Nat.le_of_eq rfl) (by decide) (by decide)
    obtain ⟨rfl, M1, e1⟩ := Q1
    have N1 := Fr.app N0 M1
    refine Run.back (g' := (mkF m 13 #[.val (.ref o0), .val (.int p1)] [(.int (own_Fm o0 p1 f))])) st1 ?_
    by_cases hc13 : (own_Fm o0 p1 f) = (0 : Int32)
    · rw [if_pos hc13] at hr
      refine Run.ifNo (pc' := 16) X1 hx (hb hby own_dn_13) ((if0 _ _).trans (teq hc13).2) rfl ?_
      refine Run.iconst (pc' := 17) (v := (1 : Int32)) X1 hx (hb hby own_dn_16) rfl rfl ?_
      refine Run.goto (pc' := 21) X1 hx (hb hby own_dn_17) (by decide) (by decide) ?_
      exact J21 (1 : Int32) _ hr _ _ X1 e1 N1
    · rw [if_neg hc13] at hr
      refine Run.ifYes (pc' := 20) X1 hx (hb hby own_dn_13) ((if0 _ _).trans (feq hc13).2) (by decide) (by decide) ?_
      exact J20  _ hr _ _ X1 e1 N1
  · rw [if_neg hc5] at hr
    refine Run.icmpYes (pc' := 20) X0 hx (hb hby own_dn_5) (feq hc5).2 (by decide) (by decide) ?_
    exact J20  _ hr _ _ X0 e0 N0
theorem own_bb (x : Int32) : x.toInt8.toInt32.toInt8.toInt32 = x.toInt8.toInt32 := by
  have h1 := c_i2b x
  have h2 := c_i2b x.toInt8.toInt32
  apply Int32.toInt_inj.mp
  omega
theorem own_s6 (x : Int64) : 0 ≤ (((((x.toUInt64 >>> ((50 : Int32) &&& 0x3f).toInt64.toUInt64).toInt64) &&& (7 : Int64)).toInt32) % (6 : Int32)).toInt ∧ (((((x.toUInt64 >>> ((50 : Int32) &&& 0x3f).toInt64.toUInt64).toInt64) &&& (7 : Int64)).toInt32) % (6 : Int32)).toInt ≤ 5 := by
  generalize ((x.toUInt64 >>> ((50 : Int32) &&& 0x3f).toInt64.toUInt64).toInt64) = y
  have m := c_maskL y 7 3 (by decide) (by decide)
  have c := c_l2i (y &&& 7)
  have r := rng32 (y &&& 7).toInt32
  have h := (c_irem (y &&& 7).toInt32 6 6 (by decide)).1 (by omega)
  omega
theorem own_f1 {s : Int32} (hs : 0 ≤ s.toInt ∧ s.toInt ≤ 5) : (0 : Int32).toInt + (s.toNatClampNeg : Nat) = s.toInt := by
  have e0 : (0 : Int32).toInt = 0 := rfl
  have h : s.toInt = (s.toNatClampNeg : Int) := nat_of (fun q => by have := Int32.lt_iff_toInt_lt.mp q; omega)
  omega
theorem own_f2 {s : Int32} (hs : 0 ≤ s.toInt ∧ s.toInt ≤ 5) : s.toInt ≤ (5 : Int32).toInt := hs.2
theorem own_f3 {s : Int32} (hs : 0 ≤ s.toInt ∧ s.toInt ≤ 5) : s.toInt + ((5 - s.toNatClampNeg : Nat) : Int) = (5 : Int32).toInt := by
  have e5 : (5 : Int32).toInt = 5 := rfl
  have e0 : (0 : Int32).toInt = 0 := rfl
  have h : s.toInt = (s.toNatClampNeg : Int) := nat_of (fun q => by have := Int32.lt_iff_toInt_lt.mp q; omega)
  omega
def own_k (v : Int32) : Int32 := if v = (10 : Int32) then 10 else if v = (13 : Int32) then 13 else 0
theorem own_k10 (v : Int32) : v = (10 : Int32) ↔ own_k v = 10 := by
  unfold own_k
  by_cases h : v = (10 : Int32)
  · simp [h]
  · by_cases h2 : v = (13 : Int32)
    · simp [h2]
    · simp [h, h2]
theorem own_k13 (v : Int32) : v = (13 : Int32) ↔ own_k v = 13 := by
  unfold own_k
  by_cases h : v = (10 : Int32)
  · simp [h]
  · by_cases h2 : v = (13 : Int32)
    · simp [h2]
    · simp [h, h2]
theorem own_eq10 {v w : Int32} (h : own_k v = own_k w) : v = (10 : Int32) ↔ w = (10 : Int32) := (own_k10 v).trans (by rw [h]; exact (own_k10 w).symm)
theorem own_eq13 {v w : Int32} (h : own_k v = own_k w) : v = (13 : Int32) ↔ w = (13 : Int32) := (own_k13 v).trans (by rw [h]; exact (own_k13 w).symm)
theorem own_kk (v : Int32) : own_k (own_k v) = own_k v := by
  unfold own_k
  by_cases h : v = (10 : Int32)
  · simp [h]
  · by_cases h2 : v = (13 : Int32)
    · simp [h2]
    · simp [h, h2]
theorem own_ite {P P' : Prop} [Decidable P] [Decidable P'] {α : Type} {a a' b b' : α} (h : P ↔ P') (h1 : P → a = a') (h2 : ¬ P → b = b') : (if P then a else b) = (if P' then a' else b') := by
  by_cases q : P
  · rw [if_pos q, if_pos (h.mp q), h1 q]
  · rw [if_neg q, if_neg (fun z => q (h.mpr z)), h2 q]
theorem own_stepk (sc ll cr bg wh v w : Int32) (h : own_k v = own_k w) : own_step sc ll cr bg wh v = own_step sc ll cr bg wh w := by
  unfold own_step
  exact own_ite (own_eq10 (h)) (fun _ => rfl) (fun _ => own_ite (own_eq13 (h)) (fun _ => rfl) (fun _ => rfl))
theorem own_goC (f g : Int32 → Int32) : ∀ (k i : Nat) (S : own_S), (∀ m, i ≤ m → m < i + k → own_k (f (Int32.ofNat m)) = own_k (g (Int32.ofNat m))) → own_go k f (Int32.ofNat i) S = own_go k g (Int32.ofNat i) S := by
  intro k
  induction k with
  | zero => intro i S _; rfl
  | succ k ih =>
    intro i S h
    have e : Int32.ofNat i + 1 = Int32.ofNat (i + 1) := by rw [Int32.ofNat_add]; rfl
    rw [own_go, own_go, own_stepk _ _ _ _ _ _ _ (h i (Nat.le_refl _) (by omega)), e, ih (i + 1) _ (fun m h1 h2 => h m (by omega) (by omega))]
theorem own_FmC (o o' : Addr) (f g : Int32 → Int32) (p : Int32) (h0 : own_k (f p) = own_k (g p)) (h1 : ¬ p = (0 : Int32) → own_k (f (p - (1 : Int32))) = own_k (g (p - (1 : Int32)))) (h2 : ¬ p = (0 : Int32) → ¬ p = (1 : Int32) → own_k (f (p - (2 : Int32))) = own_k (g (p - (2 : Int32)))) : own_Fm o p f = own_Fm o' p g := by
  unfold own_Fm own_fm_55 own_fm_60
  refine own_ite (own_eq10 (h0)) (fun _ => ?_) (fun _ => rfl)
  refine own_ite Iff.rfl (fun _ => rfl) (fun n0 => ?_)
  refine own_ite (own_eq10 (h1 n0)) (fun _ => rfl) (fun _ => ?_)
  refine own_ite (own_eq13 (h1 n0)) (fun _ => ?_) (fun _ => rfl)
  refine own_ite Iff.rfl (fun _ => rfl) (fun n1 => ?_)
  exact own_ite (own_eq10 (h2 n0 n1)) (fun _ => rfl) (fun _ => rfl)
theorem own_FnC (o o' : Addr) (f g : Int32 → Int32) (p : Int32) (h0 : own_k (f p) = own_k (g p)) (h : own_Fm o p f = own_Fm o' p g) : own_Fn o p f = own_Fn o' p g := by
  unfold own_Fn own_fn_20 own_fn_21
  exact own_ite (own_eq10 (h0)) (fun _ => own_ite (by rw [h]) (fun _ => rfl) (fun _ => rfl)) (fun _ => rfl)
def own_t (z0 z1 z2 z3 z4 i : Int32) : Int32 := if i = 0 then z0 else if i = 1 then z1 else if i = 2 then z2 else if i = 3 then z3 else z4
def own_fin (g1 n1 n2 n3 m1 m2 m3 m4 sx a b c d : Int32) : Bool :=
  let gv2 := (if g1 = (0 : Int32) then (if n1 = (0 : Int32) then (0 : Int32) else (1 : Int32)) else (1 : Int32))
  let gv3 := (if gv2 = (0 : Int32) then (if n2 = (0 : Int32) then (0 : Int32) else (1 : Int32)) else (1 : Int32))
  let gv4 := (if gv3 = (0 : Int32) then (if n3 = (0 : Int32) then (0 : Int32) else (1 : Int32)) else (1 : Int32))
  let ev4 := (if gv4 = (0 : Int32) then (-1 : Int32) else (if m4 = (0 : Int32) then (-1 : Int32) else (4 : Int32)))
  let ev3 := (if gv3 = (0 : Int32) then ev4 else (if m3 = (0 : Int32) then ev4 else (3 : Int32)))
  let ev2 := (if gv2 = (0 : Int32) then ev3 else (if m2 = (0 : Int32) then ev3 else (2 : Int32)))
  let ev1 := (if g1 = (0 : Int32) then ev2 else (if m1 = (0 : Int32) then ev2 else (1 : Int32)))
  let dv := (if ev1 < (0 : Int32) then (0 : Int32) else (1 : Int32))
  let dv1 := (if dv = (0 : Int32) then (0 : Int32) else (if ev1 < sx then (1 : Int32) else (0 : Int32)))
  let cv1 := (if dv1 = (0 : Int32) then sx else (ev1 + (1 : Int32)))
  let cv := (if dv = (0 : Int32) then (5 : Int32) else (ev1 + (1 : Int32)))
  decide (a = dv1 ∧ b = cv1 ∧ c = dv ∧ d = cv)
theorem own_finS {g1 n1 n2 n3 m1 m2 m3 m4 sx a b c d gv2 gv3 gv4 ev4 ev3 ev2 ev1 dv dv1 cv1 cv : Int32} (h : own_fin g1 n1 n2 n3 m1 m2 m3 m4 sx a b c d = true)
    (h2 : gv2 = (if g1 = (0 : Int32) then (if n1 = (0 : Int32) then (0 : Int32) else (1 : Int32)) else (1 : Int32)))
    (h3 : gv3 = (if gv2 = (0 : Int32) then (if n2 = (0 : Int32) then (0 : Int32) else (1 : Int32)) else (1 : Int32)))
    (h4 : gv4 = (if gv3 = (0 : Int32) then (if n3 = (0 : Int32) then (0 : Int32) else (1 : Int32)) else (1 : Int32)))
    (i4 : ev4 = (if gv4 = (0 : Int32) then (-1 : Int32) else (if m4 = (0 : Int32) then (-1 : Int32) else (4 : Int32))))
    (i3 : ev3 = (if gv3 = (0 : Int32) then ev4 else (if m3 = (0 : Int32) then ev4 else (3 : Int32))))
    (i2 : ev2 = (if gv2 = (0 : Int32) then ev3 else (if m2 = (0 : Int32) then ev3 else (2 : Int32))))
    (i1 : ev1 = (if g1 = (0 : Int32) then ev2 else (if m1 = (0 : Int32) then ev2 else (1 : Int32))))
    (j1 : dv = (if ev1 < (0 : Int32) then (0 : Int32) else (1 : Int32)))
    (j2 : dv1 = (if dv = (0 : Int32) then (0 : Int32) else (if ev1 < sx then (1 : Int32) else (0 : Int32))))
    (j3 : cv1 = (if dv1 = (0 : Int32) then sx else (ev1 + (1 : Int32))))
    (j4 : cv = (if dv = (0 : Int32) then (5 : Int32) else (ev1 + (1 : Int32)))) : a = dv1 ∧ b = cv1 ∧ c = dv ∧ d = cv := by
  subst h2 h3 h4 i4 i3 i2 i1 j1 j2 j3 j4
  exact of_decide_eq_true h
def own_chk (z0 z1 z2 z3 z4 : Int32) (n : Nat) : Bool :=
  let T := own_t z0 z1 z2 z3 z4
  let Q1 := own_go n T 0 (0, 0, 0, 0, 0)
  let Q2 := own_go (5 - n) T (Int32.ofNat n) Q1
  own_fin (own_Fn 0 0 T) (own_Fn 0 1 T) (own_Fn 0 2 T) (own_Fn 0 3 T) (own_Fm 0 1 T) (own_Fm 0 2 T) (own_Fm 0 3 T) (own_Fm 0 4 T) (Int32.ofNat n) (Q1.2.2.2.2 &&& 1) Q1.1 (Q2.2.2.2.2 &&& 1) Q2.1
def own_val (a : Fin 3) : Int32 := if a = 0 then 0 else if a = 1 then 10 else 13
set_option maxRecDepth 100000 in
theorem own_all : ∀ a0 a1 a2 a3 a4 : Fin 3, ∀ n : Fin 6, own_chk (own_val a0) (own_val a1) (own_val a2) (own_val a3) (own_val a4) n.val = true := by decide +kernel
theorem own_kv (v : Int32) : ∃ a : Fin 3, own_k v = own_val a := by
  unfold own_k
  by_cases h : v = (10 : Int32)
  · exact ⟨1, by rw [if_pos h]; rfl⟩
  · by_cases h2 : v = (13 : Int32)
    · exact ⟨2, by rw [if_neg h, if_pos h2]; rfl⟩
    · exact ⟨0, by rw [if_neg h, if_neg h2]; rfl⟩
theorem own_shift (f : Int32 → Int32) (d : Int32) : ∀ (k : Nat) (i sc ll cr bg wh : Int32), own_go k f i (sc + d, ll, cr, bg, wh) = ((own_go k f i (sc, ll, cr, bg, wh)).1 + d, (own_go k f i (sc, ll, cr, bg, wh)).2) := by
  intro k
  induction k with
  | zero => intro i sc ll cr bg wh; rfl
  | succ k ih =>
    intro i sc ll cr bg wh
    have hs : own_step (sc + d) ll cr bg wh (f i) = ((own_step sc ll cr bg wh (f i)).1 + d, (own_step sc ll cr bg wh (f i)).2) := by
      have e : sc + d + 1 = sc + 1 + d := by rw [Int32.add_assoc, Int32.add_comm d 1, ← Int32.add_assoc]
      unfold own_step own_line
      rw [e]
      repeat' split
      all_goals rfl
    show (if wh = (0 : Int32) then own_go k f (i + 1) (own_step (sc + d) ll cr bg wh (f i)) else (sc + d, ll, cr, bg, wh)) = _
    by_cases h : wh = (0 : Int32)
    · rw [if_pos h, hs, ih]
      have e2 : own_go (k + 1) f i (sc, ll, cr, bg, wh) = own_go k f (i + 1) (own_step sc ll cr bg wh (f i)) := by
        show (if wh = (0 : Int32) then own_go k f (i + 1) (own_step sc ll cr bg wh (f i)) else (sc, ll, cr, bg, wh)) = _
        rw [if_pos h]
      rw [e2]
    · rw [if_neg h]
      have e2 : own_go (k + 1) f i (sc, ll, cr, bg, wh) = (sc, ll, cr, bg, wh) := by
        show (if wh = (0 : Int32) then own_go k f (i + 1) (own_step sc ll cr bg wh (f i)) else (sc, ll, cr, bg, wh)) = _
        rw [if_neg h]
      rw [e2]
theorem own_keep1 {x v z : Int32} (y : x.toInt8.toInt32 = x) (hv : v = (1 : Int32)) (hz : z = (own_Fk x v).toInt8.toInt32) : z = x := by
  have e : own_Fk x (1 : Int32) = x.toInt8.toInt32 := rfl
  rw [hz, hv, e, y, y]
/-- the two finds, of the parts, over the whole's classes -/
theorem own_fins (FB FX FY : Int32 → Int32) (o : Addr) (sx p1 : Int32) (n : Nat) (hn : n ≤ 5) (hsn : sx = Int32.ofNat n) (hx : ∀ m, m < n → FX (Int32.ofNat m) = FB (Int32.ofNat m)) (hy : ∀ m, n ≤ m → m < 5 → FY (Int32.ofNat m) = FB (Int32.ofNat m)) :
    ∃ a b c d : Int32, own_fin (own_Fn o 0 FB) (own_Fn o 1 FB) (own_Fn o 2 FB) (own_Fn o 3 FB) (own_Fm o 1 FB) (own_Fm o 2 FB) (own_Fm o 3 FB) (own_Fm o 4 FB) sx a b c d = true ∧
      ((own_go n FX (0 : Int32) (p1, (0 : Int32), (0 : Int32), (0 : Int32), (0 : Int32))).2.2.2.2 &&& 1) = a ∧ (own_go n FX (0 : Int32) (p1, (0 : Int32), (0 : Int32), (0 : Int32), (0 : Int32))).1 = p1 + b ∧
      ((own_go (5 - n) FY sx (own_go n FX (0 : Int32) (p1, (0 : Int32), (0 : Int32), (0 : Int32), (0 : Int32)))).2.2.2.2 &&& 1) = c ∧ (own_go (5 - n) FY sx (own_go n FX (0 : Int32) (p1, (0 : Int32), (0 : Int32), (0 : Int32), (0 : Int32)))).1 = p1 + d := by
  obtain ⟨z0, hz0⟩ : ∃ z, z = own_k (FB 0) := ⟨_, rfl⟩
  obtain ⟨z1, hz1⟩ : ∃ z, z = own_k (FB 1) := ⟨_, rfl⟩
  obtain ⟨z2, hz2⟩ : ∃ z, z = own_k (FB 2) := ⟨_, rfl⟩
  obtain ⟨z3, hz3⟩ : ∃ z, z = own_k (FB 3) := ⟨_, rfl⟩
  obtain ⟨z4, hz4⟩ : ∃ z, z = own_k (FB 4) := ⟨_, rfl⟩
  obtain ⟨T, hT⟩ : ∃ T, T = own_t z0 z1 z2 z3 z4 := ⟨_, rfl⟩
  have t0 : own_k (FB 0) = own_k (T 0) := by rw [hT]; show _ = own_k z0; rw [hz0, own_kk]
  have t1 : own_k (FB 1) = own_k (T 1) := by rw [hT]; show _ = own_k z1; rw [hz1, own_kk]
  have t2 : own_k (FB 2) = own_k (T 2) := by rw [hT]; show _ = own_k z2; rw [hz2, own_kk]
  have t3 : own_k (FB 3) = own_k (T 3) := by rw [hT]; show _ = own_k z3; rw [hz3, own_kk]
  have t4 : own_k (FB 4) = own_k (T 4) := by rw [hT]; show _ = own_k z4; rw [hz4, own_kk]
  have tk : ∀ m, m < 5 → own_k (FB (Int32.ofNat m)) = own_k (T (Int32.ofNat m)) := fun m hm => by
    have h : m = 0 ∨ m = 1 ∨ m = 2 ∨ m = 3 ∨ m = 4 := by omega
    rcases h with rfl | rfl | rfl | rfl | rfl
    · exact t0
    · exact t1
    · exact t2
    · exact t3
    · exact t4
  have key : own_chk z0 z1 z2 z3 z4 n = true := by
    obtain ⟨a0, q0⟩ := own_kv (FB 0)
    obtain ⟨a1, q1⟩ := own_kv (FB 1)
    obtain ⟨a2, q2⟩ := own_kv (FB 2)
    obtain ⟨a3, q3⟩ := own_kv (FB 3)
    obtain ⟨a4, q4⟩ := own_kv (FB 4)
    rw [hz0, hz1, hz2, hz3, hz4, q0, q1, q2, q3, q4]
    exact own_all a0 a1 a2 a3 a4 ⟨n, by omega⟩
  have key2 : own_fin (own_Fn 0 0 T) (own_Fn 0 1 T) (own_Fn 0 2 T) (own_Fn 0 3 T) (own_Fm 0 1 T) (own_Fm 0 2 T) (own_Fm 0 3 T) (own_Fm 0 4 T) (Int32.ofNat n) ((own_go n T 0 (0, 0, 0, 0, 0)).2.2.2.2 &&& 1) (own_go n T 0 (0, 0, 0, 0, 0)).1 ((own_go (5 - n) T (Int32.ofNat n) (own_go n T 0 (0, 0, 0, 0, 0))).2.2.2.2 &&& 1) (own_go (5 - n) T (Int32.ofNat n) (own_go n T 0 (0, 0, 0, 0, 0))).1 = true := by rw [hT]; exact key
  have m0 : own_Fm o 0 FB = own_Fm 0 0 T := own_FmC _ _ _ _ _ t0 (fun h => absurd rfl h) (fun h => absurd rfl h)
  have m1 : own_Fm o 1 FB = own_Fm 0 1 T := own_FmC _ _ _ _ _ t1 (fun _ => t0) (fun _ h => absurd rfl h)
  have m2 : own_Fm o 2 FB = own_Fm 0 2 T := own_FmC _ _ _ _ _ t2 (fun _ => t1) (fun _ _ => t0)
  have m3 : own_Fm o 3 FB = own_Fm 0 3 T := own_FmC _ _ _ _ _ t3 (fun _ => t2) (fun _ _ => t1)
  have m4 : own_Fm o 4 FB = own_Fm 0 4 T := own_FmC _ _ _ _ _ t4 (fun _ => t3) (fun _ _ => t2)
  have g1 : own_go n FX 0 (0, 0, 0, 0, 0) = own_go n T 0 (0, 0, 0, 0, 0) := own_goC FX T n 0 _ (fun m _ h2 => by rw [hx m (by omega)]; exact tk m (by omega))
  have g2 : ∀ S, own_go (5 - n) FY (Int32.ofNat n) S = own_go (5 - n) T (Int32.ofNat n) S := fun S => own_goC FY T (5 - n) n S (fun m h1 h2 => by rw [hy m h1 (by omega)]; exact tk m (by omega))
  have s1 : own_go n FX (0 : Int32) (p1, (0 : Int32), (0 : Int32), (0 : Int32), (0 : Int32)) = ((own_go n T 0 (0, 0, 0, 0, 0)).1 + p1, (own_go n T 0 (0, 0, 0, 0, 0)).2) := by
    have h := own_shift FX p1 n 0 0 0 0 0 0
    rw [Int32.zero_add, g1] at h
    exact h
  refine ⟨_, _, _, _, by rw [own_FnC _ _ _ _ _ t0 m0, own_FnC _ _ _ _ _ t1 m1, own_FnC _ _ _ _ _ t2 m2, own_FnC _ _ _ _ _ t3 m3, m1, m2, m3, m4, hsn]; exact key2, ?_⟩
  have s2 : own_go (5 - n) FY sx (own_go n FX (0 : Int32) (p1, (0 : Int32), (0 : Int32), (0 : Int32), (0 : Int32))) = ((own_go (5 - n) T (Int32.ofNat n) (own_go n T 0 (0, 0, 0, 0, 0))).1 + p1, (own_go (5 - n) T (Int32.ofNat n) (own_go n T 0 (0, 0, 0, 0, 0))).2) := by
    rw [s1, hsn, g2]
    exact own_shift T p1 (5 - n) (Int32.ofNat n) _ _ _ _ _
  rw [s2, s1]
  exact ⟨rfl, Int32.add_comm _ _, rfl, Int32.add_comm _ _⟩
theorem own_final (o : Addr) (FB FX FY : Int32 → Int32) (sx p1 : Int32) (vv0 vv1 vv2 vv3 vv4 ww0 ww1 ww2 ww3 ww4 gv2 gv3 gv4 ev4 ev3 ev2 ev1 dv dv1 cv1 cv : Int32) (hs : 0 ≤ sx.toInt ∧ sx.toInt ≤ 5) (y0 : (FB (0 : Int32)).toInt8.toInt32 = FB (0 : Int32)) (y1 : (FB (1 : Int32)).toInt8.toInt32 = FB (1 : Int32)) (y2 : (FB (2 : Int32)).toInt8.toInt32 = FB (2 : Int32)) (y3 : (FB (3 : Int32)).toInt8.toInt32 = FB (3 : Int32)) (y4 : (FB (4 : Int32)).toInt8.toInt32 = FB (4 : Int32)) (fx0 : FX (0 : Int32) = (own_Fk (FB (0 : Int32)) vv0).toInt8.toInt32) (fx1 : FX (1 : Int32) = (own_Fk (FB (1 : Int32)) vv1).toInt8.toInt32) (fx2 : FX (2 : Int32) = (own_Fk (FB (2 : Int32)) vv2).toInt8.toInt32) (fx3 : FX (3 : Int32) = (own_Fk (FB (3 : Int32)) vv3).toInt8.toInt32) (fx4 : FX (4 : Int32) = (own_Fk (FB (4 : Int32)) vv4).toInt8.toInt32) (fy0 : FY (0 : Int32) = (own_Fk (FB (0 : Int32)) ww0).toInt8.toInt32) (fy1 : FY (1 : Int32) = (own_Fk (FB (1 : Int32)) ww1).toInt8.toInt32) (fy2 : FY (2 : Int32) = (own_Fk (FB (2 : Int32)) ww2).toInt8.toInt32) (fy3 : FY (3 : Int32) = (own_Fk (FB (3 : Int32)) ww3).toInt8.toInt32) (fy4 : FY (4 : Int32) = (own_Fk (FB (4 : Int32)) ww4).toInt8.toInt32) (hv_vv0 : vv0 = (if (0 : Int32) < sx then (1 : Int32) else (0 : Int32))) (hv_vv1 : vv1 = (if (1 : Int32) < sx then (1 : Int32) else (0 : Int32))) (hv_vv2 : vv2 = (if (2 : Int32) < sx then (1 : Int32) else (0 : Int32))) (hv_vv3 : vv3 = (if (3 : Int32) < sx then (1 : Int32) else (0 : Int32))) (hv_vv4 : vv4 = (if (4 : Int32) < sx then (1 : Int32) else (0 : Int32))) (hv_ww0 : ww0 = (if (0 : Int32) < sx then (0 : Int32) else (1 : Int32))) (hv_ww1 : ww1 = (if (1 : Int32) < sx then (0 : Int32) else (1 : Int32))) (hv_ww2 : ww2 = (if (2 : Int32) < sx then (0 : Int32) else (1 : Int32))) (hv_ww3 : ww3 = (if (3 : Int32) < sx then (0 : Int32) else (1 : Int32))) (hv_ww4 : ww4 = (if (4 : Int32) < sx then (0 : Int32) else (1 : Int32))) (hv_gv2 : gv2 = (if (own_Fn o (0 : Int32) FB) = (0 : Int32) then (if (own_Fn o (1 : Int32) FB) = (0 : Int32) then (0 : Int32) else (1 : Int32)) else (1 : Int32))) (hv_gv3 : gv3 = (if gv2 = (0 : Int32) then (if (own_Fn o (2 : Int32) FB) = (0 : Int32) then (0 : Int32) else (1 : Int32)) else (1 : Int32))) (hv_gv4 : gv4 = (if gv3 = (0 : Int32) then (if (own_Fn o (3 : Int32) FB) = (0 : Int32) then (0 : Int32) else (1 : Int32)) else (1 : Int32))) (hv_ev4 : ev4 = (if gv4 = (0 : Int32) then (-1 : Int32) else (if (own_Fm o (4 : Int32) FB) = (0 : Int32) then (-1 : Int32) else (4 : Int32)))) (hv_ev3 : ev3 = (if gv3 = (0 : Int32) then ev4 else (if (own_Fm o (3 : Int32) FB) = (0 : Int32) then ev4 else (3 : Int32)))) (hv_ev2 : ev2 = (if gv2 = (0 : Int32) then ev3 else (if (own_Fm o (2 : Int32) FB) = (0 : Int32) then ev3 else (2 : Int32)))) (hv_ev1 : ev1 = (if (own_Fn o (0 : Int32) FB) = (0 : Int32) then ev2 else (if (own_Fm o (1 : Int32) FB) = (0 : Int32) then ev2 else (1 : Int32)))) (hv_dv : dv = (if ev1 < (0 : Int32) then (0 : Int32) else (1 : Int32))) (hv_dv1 : dv1 = (if dv = (0 : Int32) then (0 : Int32) else (if ev1 < sx then (1 : Int32) else (0 : Int32)))) (hv_cv1 : cv1 = (if dv1 = (0 : Int32) then sx else (ev1 + (1 : Int32)))) (hv_cv : cv = (if dv = (0 : Int32) then (5 : Int32) else (ev1 + (1 : Int32)))) : ((own_go sx.toNatClampNeg FX (0 : Int32) (p1, (0 : Int32), (0 : Int32), (0 : Int32), (0 : Int32))).2.2.2.2 &&& 1) = dv1 ∧ (own_go sx.toNatClampNeg FX (0 : Int32) (p1, (0 : Int32), (0 : Int32), (0 : Int32), (0 : Int32))).1 = (p1 + cv1) ∧ ((own_go (5 - sx.toNatClampNeg) FY sx ((own_go sx.toNatClampNeg FX (0 : Int32) (p1, (0 : Int32), (0 : Int32), (0 : Int32), (0 : Int32))).1, (own_go sx.toNatClampNeg FX (0 : Int32) (p1, (0 : Int32), (0 : Int32), (0 : Int32), (0 : Int32))).2.1, (own_go sx.toNatClampNeg FX (0 : Int32) (p1, (0 : Int32), (0 : Int32), (0 : Int32), (0 : Int32))).2.2.1, (own_go sx.toNatClampNeg FX (0 : Int32) (p1, (0 : Int32), (0 : Int32), (0 : Int32), (0 : Int32))).2.2.2.1, (own_go sx.toNatClampNeg FX (0 : Int32) (p1, (0 : Int32), (0 : Int32), (0 : Int32), (0 : Int32))).2.2.2.2)).2.2.2.2 &&& 1) = dv ∧ (own_go (5 - sx.toNatClampNeg) FY sx ((own_go sx.toNatClampNeg FX (0 : Int32) (p1, (0 : Int32), (0 : Int32), (0 : Int32), (0 : Int32))).1, (own_go sx.toNatClampNeg FX (0 : Int32) (p1, (0 : Int32), (0 : Int32), (0 : Int32), (0 : Int32))).2.1, (own_go sx.toNatClampNeg FX (0 : Int32) (p1, (0 : Int32), (0 : Int32), (0 : Int32), (0 : Int32))).2.2.1, (own_go sx.toNatClampNeg FX (0 : Int32) (p1, (0 : Int32), (0 : Int32), (0 : Int32), (0 : Int32))).2.2.2.1, (own_go sx.toNatClampNeg FX (0 : Int32) (p1, (0 : Int32), (0 : Int32), (0 : Int32), (0 : Int32))).2.2.2.2)).1 = (p1 + cv) ∧ ((own_go (5 - sx.toNatClampNeg) FY sx ((own_go sx.toNatClampNeg FX (0 : Int32) (p1, (0 : Int32), (0 : Int32), (0 : Int32), (0 : Int32))).1, (own_go sx.toNatClampNeg FX (0 : Int32) (p1, (0 : Int32), (0 : Int32), (0 : Int32), (0 : Int32))).2.1, (own_go sx.toNatClampNeg FX (0 : Int32) (p1, (0 : Int32), (0 : Int32), (0 : Int32), (0 : Int32))).2.2.1, (own_go sx.toNatClampNeg FX (0 : Int32) (p1, (0 : Int32), (0 : Int32), (0 : Int32), (0 : Int32))).2.2.2.1, (own_go sx.toNatClampNeg FX (0 : Int32) (p1, (0 : Int32), (0 : Int32), (0 : Int32), (0 : Int32))).2.2.2.2)).2.2.2.2 &&& 1) = dv ∧ (own_go (5 - sx.toNatClampNeg) FY sx ((own_go sx.toNatClampNeg FX (0 : Int32) (p1, (0 : Int32), (0 : Int32), (0 : Int32), (0 : Int32))).1, (own_go sx.toNatClampNeg FX (0 : Int32) (p1, (0 : Int32), (0 : Int32), (0 : Int32), (0 : Int32))).2.1, (own_go sx.toNatClampNeg FX (0 : Int32) (p1, (0 : Int32), (0 : Int32), (0 : Int32), (0 : Int32))).2.2.1, (own_go sx.toNatClampNeg FX (0 : Int32) (p1, (0 : Int32), (0 : Int32), (0 : Int32), (0 : Int32))).2.2.2.1, (own_go sx.toNatClampNeg FX (0 : Int32) (p1, (0 : Int32), (0 : Int32), (0 : Int32), (0 : Int32))).2.2.2.2)).1 = (p1 + cv) := by
  obtain ⟨n, hsn, hn⟩ : ∃ n : Nat, sx = Int32.ofNat n ∧ n ≤ 5 := by
    have e0 : (0 : Int32).toInt = 0 := rfl
    have h : sx.toInt = (sx.toNatClampNeg : Int) := nat_of (fun q => by have := Int32.lt_iff_toInt_lt.mp q; omega)
    refine ⟨sx.toNatClampNeg, Int32.toInt_inj.mp ?_, by omega⟩
    rw [Int32.toInt_ofNat_of_lt (by omega)]
    exact h
  have hk : sx.toNatClampNeg = n := by
    have e0 : (0 : Int32).toInt = 0 := rfl
    have h : sx.toInt = (sx.toNatClampNeg : Int) := nat_of (fun q => by have := Int32.lt_iff_toInt_lt.mp q; omega)
    have h2 : sx.toInt = (n : Int) := by rw [hsn, Int32.toInt_ofNat_of_lt (by omega)]
    omega
  have lt : ∀ m : Nat, m < 5 → (Int32.ofNat m < sx ↔ m < n) := fun m hm => by
    rw [Int32.lt_iff_toInt_lt, hsn, Int32.toInt_ofNat_of_lt (by omega), Int32.toInt_ofNat_of_lt (by omega)]
    omega
  have hx : ∀ m, m < n → FX (Int32.ofNat m) = FB (Int32.ofNat m) := fun m hm => by
    have h : m = 0 ∨ m = 1 ∨ m = 2 ∨ m = 3 ∨ m = 4 := by omega
    have l := (lt m (by omega)).mpr hm
    rcases h with rfl | rfl | rfl | rfl | rfl
    · exact own_keep1 y0 (hv_vv0.trans (if_pos l)) fx0
    · exact own_keep1 y1 (hv_vv1.trans (if_pos l)) fx1
    · exact own_keep1 y2 (hv_vv2.trans (if_pos l)) fx2
    · exact own_keep1 y3 (hv_vv3.trans (if_pos l)) fx3
    · exact own_keep1 y4 (hv_vv4.trans (if_pos l)) fx4
  have hy : ∀ m, n ≤ m → m < 5 → FY (Int32.ofNat m) = FB (Int32.ofNat m) := fun m hm h5 => by
    have h : m = 0 ∨ m = 1 ∨ m = 2 ∨ m = 3 ∨ m = 4 := by omega
    have l : ¬ Int32.ofNat m < sx := fun q => by have := (lt m h5).mp q; omega
    rcases h with rfl | rfl | rfl | rfl | rfl
    · exact own_keep1 y0 (hv_ww0.trans (if_neg l)) fy0
    · exact own_keep1 y1 (hv_ww1.trans (if_neg l)) fy1
    · exact own_keep1 y2 (hv_ww2.trans (if_neg l)) fy2
    · exact own_keep1 y3 (hv_ww3.trans (if_neg l)) fy3
    · exact own_keep1 y4 (hv_ww4.trans (if_neg l)) fy4
  obtain ⟨a, b, c, d, hf, k1, k2, k3, k4⟩ := own_fins FB FX FY o sx p1 n hn hsn hx hy
  obtain ⟨j1, j2, j3, j4⟩ := own_finS hf hv_gv2 hv_gv3 hv_gv4 hv_ev4 hv_ev3 hv_ev2 hv_ev1 hv_dv hv_dv1 hv_cv1 hv_cv
  rw [hk]
  refine ⟨k1.trans j1, k2.trans (by rw [j2]), k3.trans j3, k4.trans (by rw [j4]), k3.trans j3, k4.trans (by rw [j4])⟩

theorem own_ef0 (m : MethodId) (x0 : Int64) (x1 : Int32) (x2 : Int32) : entryFrame m #[(.long x0), (.int x1), (.int x2)] maxLocals = mkF m 0 #[.val (.long x0), .second, .val (.int x1), .val (.int x2), .unset, .unset, .unset, .unset, .unset, .unset, .unset, .unset, .unset, .unset, .unset, .unset, .unset, .unset, .unset, .unset, .unset, .unset, .unset, .unset, .unset] [] := by first | (simp [entryFrame, mkF, argsToLocals, Value.category, maxLocals]; done) | rfl
set_option maxRecDepth 65536 in
set_option maxHeartbeats 40000000 in
theorem rm0 (l : Launch) (Z : State) (a0 : Array Value) (hw : ∀ d ∈ tables_1, d.before a0 Z = true) (ws : List Jvm.Cond) (q0 : Int64) (p1 : Int32) (p2 : Int32) (h0 : Heap) (n0 : Nat) (Z0 : n0 ≤ h0.size) :
    MetFree l x (head1 (Jvm.Cond.code x code maxLocals ret :: ws) room_1) (fun a U => a = #[(.long q0), (.int p1), (.int p2)] ∧ Z.Warmed39 U.vm ∧ U.heap = h0) (fun _ _ _ _ _ => True) (fun _ U o U' => ∃ v L, o = .returned v ∧ (Say (fun v h L => v = some (.int 1) ∧ Fr n0 L)) v U'.heap L ∧ FrameEnd U o U' L room_1.cells room_1.slots) := by
  refine MetFree.of_bodySF (plainFor_of_name own_pn1) hisR ?_
  intro p e s m args below meth c s₁ Bd hml0 hP hK
  obtain ⟨rfl, hZ, hh⟩ := hP
  have hx := Bd.exec
  have hby := Bd.bytes
  have hml : c.maxLocals = 25 := hml0
  have hown : s.vm.findClass "com/example/vez/vez/gateway/http/HeadEndFindPinLaw" = some m.cls := findClass_of_methodNamed Bd.named
  have hnm := (name_of_methodNamed Bd.named Bd.method).1
  have X0 : Stand p l e room_1 s m #[(.long q0), (.int p1), (.int p2)] below meth c s₁ [] 0 0 := Stand.of_body Bd
  have e0 : s₁.heap = h0 := by rw [← hh, Bd.state]; rfl
  have N0 := Fr.nil n0
  suffices H : Run p.tables e below (FinR s room_1.cells room_1.slots (Say (fun v h L => v = some (.int 1) ∧ Fr n0 L))) s₁ (mkF m 0 #[.val (.long q0), .second, .val (.int p1), .val (.int p2), .unset, .unset, .unset, .unset, .unset, .unset, .unset, .unset, .unset, .unset, .unset, .unset, .unset, .unset, .unset, .unset, .unset, .unset, .unset, .unset, .unset] []) by
    obtain ⟨s₂, o, k1, k2, k3, k4⟩ := H
    exact ⟨s₂, o, castTop (own_ef0 m q0 p1 p2) k1, k2, k3, k4⟩
  refine Run.iconst (pc' := 1) (v := (5 : Int32)) X0 hx (hb hby at_0) rfl rfl ?_
  obtain ⟨T1, h1, b1, X1, e1, E1, g1, A1, st1⟩ := st_newarray X0 hx hZ (hw _ (List.mem_of_getElem? (i := 0) rfl)) e0 (hb hby at_1) (Ls := #[.val (.long q0), .second, .val (.int p1), .val (.int p2), .unset, .unset, .unset, .unset, .unset, .unset, .unset, .unset, .unset, .unset, .unset, .unset, .unset, .unset, .unset, .unset, .unset, .unset, .unset, .unset, .unset]) (rest := []) (n := (5 : Int32)) (by decide) (cap := 5) (by decide) (by decide) (by decide) (by decide) rfl
  replace A1 : Ints Z h1 b1 .byte (5 : Int32) (fun _ => 0) := A1
  have G1 : n0 ≤ b1 := Nat.le_trans Z0 (Nat.le_of_eq g1.symm)
  have Z1 : n0 ≤ h1.size := Nat.le_trans Z0 E1.1
  refine Run.back (g' := (mkF m 3 #[.val (.long q0), .second, .val (.int p1), .val (.int p2), .unset, .unset, .unset, .unset, .unset, .unset, .unset, .unset, .unset, .unset, .unset, .unset, .unset, .unset, .unset, .unset, .unset, .unset, .unset, .unset, .unset] [(.ref b1)])) st1 ?_
  refine Run.astore (pc' := 5) X1 hx (l' := #[.val (.long q0), .second, .val (.int p1), .val (.int p2), .val (.ref b1), .unset, .unset, .unset, .unset, .unset, .unset, .unset, .unset, .unset, .unset, .unset, .unset, .unset, .unset, .unset, .unset, .unset, .unset, .unset, .unset]) (hb hby at_3) rfl rfl ?_
  refine Run.aload (pc' := 7) X1 hx (hb hby at_5) rfl rfl ?_
  refine Run.iconst (pc' := 8) (v := (0 : Int32)) X1 hx (hb hby at_7) rfl rfl ?_
  refine Run.lloadN (pc' := 9) X1 hx (hb hby at_8) rfl rfl ?_
  obtain ⟨T2, L2, v2, X2, Q2, st2⟩ := callStatic X1 hx (y := (⟨"com/example/vez/vez/gateway/http/HeadEndFindPinLaw", "pick", "(J)B"⟩ : MethodName)) (Ls := #[.val (.long q0), .second, .val (.int p1), .val (.int p2), .val (.ref b1), .unset, .unset, .unset, .unset, .unset, .unset, .unset, .unset, .unset, .unset, .unset, .unset, .unset, .unset, .unset, .unset, .unset, .unset, .unset, .unset]) (rest := [(.int (0 : Int32)), (.ref b1)]) (W := 2) (argsL := [(.long q0)]) hZ hown (hw _ (List.mem_of_getElem? (i := 1) rfl)) (hw _ (List.mem_of_getElem? (i := 2) rfl)) (hw _ (List.mem_of_getElem? (i := 3) rfl)) (hw _ (List.mem_of_getElem? (i := 4) rfl)) (by decide) e1 (rm_p l Z a0 hw [] q0  h1 n0 Z1 ) (hb hby at_9) (lenOf own_pd2 rfl) (by decide) (by decide) (by rw [hml]; rfl) (Nat.le_of_eq rfl) (by decide) (by decide)
  obtain ⟨rfl, M2, e2⟩ := Q2
  have N2 := Fr.app N0 M2
  refine Run.back (g' := (mkF m 12 #[.val (.long q0), .second, .val (.int p1), .val (.int p2), .val (.ref b1), .unset, .unset, .unset, .unset, .unset, .unset, .unset, .unset, .unset, .unset, .unset, .unset, .unset, .unset, .unset, .unset, .unset, .unset, .unset, .unset] [(.int (own_Fp q0)), (.int (0 : Int32)), (.ref b1)])) st2 ?_
  obtain ⟨T3, h3, sl3, u3, X3, e3, W3, A3, st3⟩ := st_bastore X2 hx hZ e2 A1 (Ls := #[.val (.long q0), .second, .val (.int p1), .val (.int p2), .val (.ref b1), .unset, .unset, .unset, .unset, .unset, .unset, .unset, .unset, .unset, .unset, .unset, .unset, .unset, .unset, .unset, .unset, .unset, .unset, .unset, .unset]) (rest := []) (j := (0 : Int32)) (x := (own_Fp q0)) (by decide) (by decide) (hb hby at_12)
  have N3 := Fr.snoc X3 N2 G1
  obtain ⟨f4, qf4⟩ : ∃ g : Int32 → Int32, g = fun i => if i = (0 : Int32) then (own_Fp q0).toInt8.toInt32 else (fun _ => (0 : Int32)) i := ⟨_, rfl⟩
  replace A3 : Ints Z h3 b1 .byte (5 : Int32) f4 := by rw [qf4]; exact A3
  have Z3 : n0 ≤ h3.size := Nat.le_trans Z1 (Keep.of_wr W3).1
  refine Run.back (g' := (mkF m 13 #[.val (.long q0), .second, .val (.int p1), .val (.int p2), .val (.ref b1), .unset, .unset, .unset, .unset, .unset, .unset, .unset, .unset, .unset, .unset, .unset, .unset, .unset, .unset, .unset, .unset, .unset, .unset, .unset, .unset] [])) st3 ?_
  refine Run.aload (pc' := 15) X3 hx (hb hby at_13) rfl rfl ?_
  refine Run.iconst (pc' := 16) (v := (1 : Int32)) X3 hx (hb hby at_15) rfl rfl ?_
  refine Run.lloadN (pc' := 17) X3 hx (hb hby at_16) rfl rfl ?_
  refine Run.bipush (pc' := 19) (v := (10 : Int32)) X3 hx (hb hby at_17) rfl rfl ?_
  refine Run.lushr (pc' := 20) X3 hx (hb hby at_19) rfl ?_
  obtain ⟨T5, L5, v5, X5, Q5, st5⟩ := callStatic X3 hx (y := (⟨"com/example/vez/vez/gateway/http/HeadEndFindPinLaw", "pick", "(J)B"⟩ : MethodName)) (Ls := #[.val (.long q0), .second, .val (.int p1), .val (.int p2), .val (.ref b1), .unset, .unset, .unset, .unset, .unset, .unset, .unset, .unset, .unset, .unset, .unset, .unset, .unset, .unset, .unset, .unset, .unset, .unset, .unset, .unset]) (rest := [(.int (1 : Int32)), (.ref b1)]) (W := 2) (argsL := [(.long ((q0.toUInt64 >>> ((10 : Int32) &&& 0x3f).toInt64.toUInt64).toInt64))]) hZ hown (hw _ (List.mem_of_getElem? (i := 1) rfl)) (hw _ (List.mem_of_getElem? (i := 2) rfl)) (hw _ (List.mem_of_getElem? (i := 3) rfl)) (hw _ (List.mem_of_getElem? (i := 4) rfl)) (by decide) e3 (rm_p l Z a0 hw [] ((q0.toUInt64 >>> ((10 : Int32) &&& 0x3f).toInt64.toUInt64).toInt64)  h3 n0 Z3 ) (hb hby at_20) (lenOf own_pd2 rfl) (by decide) (by decide) (by rw [hml]; rfl) (Nat.le_of_eq rfl) (by decide) (by decide)
  obtain ⟨rfl, M5, e5⟩ := Q5
  have N5 := Fr.app N3 M5
  refine Run.back (g' := (mkF m 23 #[.val (.long q0), .second, .val (.int p1), .val (.int p2), .val (.ref b1), .unset, .unset, .unset, .unset, .unset, .unset, .unset, .unset, .unset, .unset, .unset, .unset, .unset, .unset, .unset, .unset, .unset, .unset, .unset, .unset] [(.int (own_Fp ((q0.toUInt64 >>> ((10 : Int32) &&& 0x3f).toInt64.toUInt64).toInt64))), (.int (1 : Int32)), (.ref b1)])) st5 ?_
  obtain ⟨T6, h6, sl6, u6, X6, e6, W6, A6, st6⟩ := st_bastore X5 hx hZ e5 A3 (Ls := #[.val (.long q0), .second, .val (.int p1), .val (.int p2), .val (.ref b1), .unset, .unset, .unset, .unset, .unset, .unset, .unset, .unset, .unset, .unset, .unset, .unset, .unset, .unset, .unset, .unset, .unset, .unset, .unset, .unset]) (rest := []) (j := (1 : Int32)) (x := (own_Fp ((q0.toUInt64 >>> ((10 : Int32) &&& 0x3f).toInt64.toUInt64).toInt64))) (by decide) (by decide) (hb hby at_23)
  have N6 := Fr.snoc X6 N5 G1
  obtain ⟨f7, qf7⟩ : ∃ g : Int32 → Int32, g = fun i => if i = (1 : Int32) then (own_Fp ((q0.toUInt64 >>> ((10 : Int32) &&& 0x3f).toInt64.toUInt64).toInt64)).toInt8.toInt32 else f4 i := ⟨_, rfl⟩
  replace A6 : Ints Z h6 b1 .byte (5 : Int32) f7 := by rw [qf7]; exact A6
  have Z6 : n0 ≤ h6.size := Nat.le_trans Z3 (Keep.of_wr W6).1
  refine Run.back (g' := (mkF m 24 #[.val (.long q0), .second, .val (.int p1), .val (.int p2), .val (.ref b1), .unset, .unset, .unset, .unset, .unset, .unset, .unset, .unset, .unset, .unset, .unset, .unset, .unset, .unset, .unset, .unset, .unset, .unset, .unset, .unset] [])) st6 ?_
  refine Run.aload (pc' := 26) X6 hx (hb hby at_24) rfl rfl ?_
  refine Run.iconst (pc' := 27) (v := (2 : Int32)) X6 hx (hb hby at_26) rfl rfl ?_
  refine Run.lloadN (pc' := 28) X6 hx (hb hby at_27) rfl rfl ?_
  refine Run.bipush (pc' := 30) (v := (20 : Int32)) X6 hx (hb hby at_28) rfl rfl ?_
  refine Run.lushr (pc' := 31) X6 hx (hb hby at_30) rfl ?_
  obtain ⟨T8, L8, v8, X8, Q8, st8⟩ := callStatic X6 hx (y := (⟨"com/example/vez/vez/gateway/http/HeadEndFindPinLaw", "pick", "(J)B"⟩ : MethodName)) (Ls := #[.val (.long q0), .second, .val (.int p1), .val (.int p2), .val (.ref b1), .unset, .unset, .unset, .unset, .unset, .unset, .unset, .unset, .unset, .unset, .unset, .unset, .unset, .unset, .unset, .unset, .unset, .unset, .unset, .unset]) (rest := [(.int (2 : Int32)), (.ref b1)]) (W := 2) (argsL := [(.long ((q0.toUInt64 >>> ((20 : Int32) &&& 0x3f).toInt64.toUInt64).toInt64))]) hZ hown (hw _ (List.mem_of_getElem? (i := 1) rfl)) (hw _ (List.mem_of_getElem? (i := 2) rfl)) (hw _ (List.mem_of_getElem? (i := 3) rfl)) (hw _ (List.mem_of_getElem? (i := 4) rfl)) (by decide) e6 (rm_p l Z a0 hw [] ((q0.toUInt64 >>> ((20 : Int32) &&& 0x3f).toInt64.toUInt64).toInt64)  h6 n0 Z6 ) (hb hby at_31) (lenOf own_pd2 rfl) (by decide) (by decide) (by rw [hml]; rfl) (Nat.le_of_eq rfl) (by decide) (by decide)
  obtain ⟨rfl, M8, e8⟩ := Q8
  have N8 := Fr.app N6 M8
  refine Run.back (g' := (mkF m 34 #[.val (.long q0), .second, .val (.int p1), .val (.int p2), .val (.ref b1), .unset, .unset, .unset, .unset, .unset, .unset, .unset, .unset, .unset, .unset, .unset, .unset, .unset, .unset, .unset, .unset, .unset, .unset, .unset, .unset] [(.int (own_Fp ((q0.toUInt64 >>> ((20 : Int32) &&& 0x3f).toInt64.toUInt64).toInt64))), (.int (2 : Int32)), (.ref b1)])) st8 ?_
  obtain ⟨T9, h9, sl9, u9, X9, e9, W9, A9, st9⟩ := st_bastore X8 hx hZ e8 A6 (Ls := #[.val (.long q0), .second, .val (.int p1), .val (.int p2), .val (.ref b1), .unset, .unset, .unset, .unset, .unset, .unset, .unset, .unset, .unset, .unset, .unset, .unset, .unset, .unset, .unset, .unset, .unset, .unset, .unset, .unset]) (rest := []) (j := (2 : Int32)) (x := (own_Fp ((q0.toUInt64 >>> ((20 : Int32) &&& 0x3f).toInt64.toUInt64).toInt64))) (by decide) (by decide) (hb hby at_34)
  have N9 := Fr.snoc X9 N8 G1
  obtain ⟨f10, qf10⟩ : ∃ g : Int32 → Int32, g = fun i => if i = (2 : Int32) then (own_Fp ((q0.toUInt64 >>> ((20 : Int32) &&& 0x3f).toInt64.toUInt64).toInt64)).toInt8.toInt32 else f7 i := ⟨_, rfl⟩
  replace A9 : Ints Z h9 b1 .byte (5 : Int32) f10 := by rw [qf10]; exact A9
  have Z9 : n0 ≤ h9.size := Nat.le_trans Z6 (Keep.of_wr W9).1
  refine Run.back (g' := (mkF m 35 #[.val (.long q0), .second, .val (.int p1), .val (.int p2), .val (.ref b1), .unset, .unset, .unset, .unset, .unset, .unset, .unset, .unset, .unset, .unset, .unset, .unset, .unset, .unset, .unset, .unset, .unset, .unset, .unset, .unset] [])) st9 ?_
  refine Run.aload (pc' := 37) X9 hx (hb hby at_35) rfl rfl ?_
  refine Run.iconst (pc' := 38) (v := (3 : Int32)) X9 hx (hb hby at_37) rfl rfl ?_
  refine Run.lloadN (pc' := 39) X9 hx (hb hby at_38) rfl rfl ?_
  refine Run.bipush (pc' := 41) (v := (30 : Int32)) X9 hx (hb hby at_39) rfl rfl ?_
  refine Run.lushr (pc' := 42) X9 hx (hb hby at_41) rfl ?_
  obtain ⟨T11, L11, v11, X11, Q11, st11⟩ := callStatic X9 hx (y := (⟨"com/example/vez/vez/gateway/http/HeadEndFindPinLaw", "pick", "(J)B"⟩ : MethodName)) (Ls := #[.val (.long q0), .second, .val (.int p1), .val (.int p2), .val (.ref b1), .unset, .unset, .unset, .unset, .unset, .unset, .unset, .unset, .unset, .unset, .unset, .unset, .unset, .unset, .unset, .unset, .unset, .unset, .unset, .unset]) (rest := [(.int (3 : Int32)), (.ref b1)]) (W := 2) (argsL := [(.long ((q0.toUInt64 >>> ((30 : Int32) &&& 0x3f).toInt64.toUInt64).toInt64))]) hZ hown (hw _ (List.mem_of_getElem? (i := 1) rfl)) (hw _ (List.mem_of_getElem? (i := 2) rfl)) (hw _ (List.mem_of_getElem? (i := 3) rfl)) (hw _ (List.mem_of_getElem? (i := 4) rfl)) (by decide) e9 (rm_p l Z a0 hw [] ((q0.toUInt64 >>> ((30 : Int32) &&& 0x3f).toInt64.toUInt64).toInt64)  h9 n0 Z9 ) (hb hby at_42) (lenOf own_pd2 rfl) (by decide) (by decide) (by rw [hml]; rfl) (Nat.le_of_eq rfl) (by decide) (by decide)
  obtain ⟨rfl, M11, e11⟩ := Q11
  have N11 := Fr.app N9 M11
  refine Run.back (g' := (mkF m 45 #[.val (.long q0), .second, .val (.int p1), .val (.int p2), .val (.ref b1), .unset, .unset, .unset, .unset, .unset, .unset, .unset, .unset, .unset, .unset, .unset, .unset, .unset, .unset, .unset, .unset, .unset, .unset, .unset, .unset] [(.int (own_Fp ((q0.toUInt64 >>> ((30 : Int32) &&& 0x3f).toInt64.toUInt64).toInt64))), (.int (3 : Int32)), (.ref b1)])) st11 ?_
  obtain ⟨T12, h12, sl12, u12, X12, e12, W12, A12, st12⟩ := st_bastore X11 hx hZ e11 A9 (Ls := #[.val (.long q0), .second, .val (.int p1), .val (.int p2), .val (.ref b1), .unset, .unset, .unset, .unset, .unset, .unset, .unset, .unset, .unset, .unset, .unset, .unset, .unset, .unset, .unset, .unset, .unset, .unset, .unset, .unset]) (rest := []) (j := (3 : Int32)) (x := (own_Fp ((q0.toUInt64 >>> ((30 : Int32) &&& 0x3f).toInt64.toUInt64).toInt64))) (by decide) (by decide) (hb hby at_45)
  have N12 := Fr.snoc X12 N11 G1
  obtain ⟨f13, qf13⟩ : ∃ g : Int32 → Int32, g = fun i => if i = (3 : Int32) then (own_Fp ((q0.toUInt64 >>> ((30 : Int32) &&& 0x3f).toInt64.toUInt64).toInt64)).toInt8.toInt32 else f10 i := ⟨_, rfl⟩
  replace A12 : Ints Z h12 b1 .byte (5 : Int32) f13 := by rw [qf13]; exact A12
  have Z12 : n0 ≤ h12.size := Nat.le_trans Z9 (Keep.of_wr W12).1
  refine Run.back (g' := (mkF m 46 #[.val (.long q0), .second, .val (.int p1), .val (.int p2), .val (.ref b1), .unset, .unset, .unset, .unset, .unset, .unset, .unset, .unset, .unset, .unset, .unset, .unset, .unset, .unset, .unset, .unset, .unset, .unset, .unset, .unset] [])) st12 ?_
  refine Run.aload (pc' := 48) X12 hx (hb hby at_46) rfl rfl ?_
  refine Run.iconst (pc' := 49) (v := (4 : Int32)) X12 hx (hb hby at_48) rfl rfl ?_
  refine Run.lloadN (pc' := 50) X12 hx (hb hby at_49) rfl rfl ?_
  refine Run.bipush (pc' := 52) (v := (40 : Int32)) X12 hx (hb hby at_50) rfl rfl ?_
  refine Run.lushr (pc' := 53) X12 hx (hb hby at_52) rfl ?_
  obtain ⟨T14, L14, v14, X14, Q14, st14⟩ := callStatic X12 hx (y := (⟨"com/example/vez/vez/gateway/http/HeadEndFindPinLaw", "pick", "(J)B"⟩ : MethodName)) (Ls := #[.val (.long q0), .second, .val (.int p1), .val (.int p2), .val (.ref b1), .unset, .unset, .unset, .unset, .unset, .unset, .unset, .unset, .unset, .unset, .unset, .unset, .unset, .unset, .unset, .unset, .unset, .unset, .unset, .unset]) (rest := [(.int (4 : Int32)), (.ref b1)]) (W := 2) (argsL := [(.long ((q0.toUInt64 >>> ((40 : Int32) &&& 0x3f).toInt64.toUInt64).toInt64))]) hZ hown (hw _ (List.mem_of_getElem? (i := 1) rfl)) (hw _ (List.mem_of_getElem? (i := 2) rfl)) (hw _ (List.mem_of_getElem? (i := 3) rfl)) (hw _ (List.mem_of_getElem? (i := 4) rfl)) (by decide) e12 (rm_p l Z a0 hw [] ((q0.toUInt64 >>> ((40 : Int32) &&& 0x3f).toInt64.toUInt64).toInt64)  h12 n0 Z12 ) (hb hby at_53) (lenOf own_pd2 rfl) (by decide) (by decide) (by rw [hml]; rfl) (Nat.le_of_eq rfl) (by decide) (by decide)
  obtain ⟨rfl, M14, e14⟩ := Q14
  have N14 := Fr.app N12 M14
  refine Run.back (g' := (mkF m 56 #[.val (.long q0), .second, .val (.int p1), .val (.int p2), .val (.ref b1), .unset, .unset, .unset, .unset, .unset, .unset, .unset, .unset, .unset, .unset, .unset, .unset, .unset, .unset, .unset, .unset, .unset, .unset, .unset, .unset] [(.int (own_Fp ((q0.toUInt64 >>> ((40 : Int32) &&& 0x3f).toInt64.toUInt64).toInt64))), (.int (4 : Int32)), (.ref b1)])) st14 ?_
  obtain ⟨T15, h15, sl15, u15, X15, e15, W15, A15, st15⟩ := st_bastore X14 hx hZ e14 A12 (Ls := #[.val (.long q0), .second, .val (.int p1), .val (.int p2), .val (.ref b1), .unset, .unset, .unset, .unset, .unset, .unset, .unset, .unset, .unset, .unset, .unset, .unset, .unset, .unset, .unset, .unset, .unset, .unset, .unset, .unset]) (rest := []) (j := (4 : Int32)) (x := (own_Fp ((q0.toUInt64 >>> ((40 : Int32) &&& 0x3f).toInt64.toUInt64).toInt64))) (by decide) (by decide) (hb hby at_56)
  have N15 := Fr.snoc X15 N14 G1
  obtain ⟨f16, qf16⟩ : ∃ g : Int32 → Int32, g = fun i => if i = (4 : Int32) then (own_Fp ((q0.toUInt64 >>> ((40 : Int32) &&& 0x3f).toInt64.toUInt64).toInt64)).toInt8.toInt32 else f13 i := ⟨_, rfl⟩
  replace A15 : Ints Z h15 b1 .byte (5 : Int32) f16 := by rw [qf16]; exact A15
  have Z15 : n0 ≤ h15.size := Nat.le_trans Z12 (Keep.of_wr W15).1
  refine Run.back (g' := (mkF m 57 #[.val (.long q0), .second, .val (.int p1), .val (.int p2), .val (.ref b1), .unset, .unset, .unset, .unset, .unset, .unset, .unset, .unset, .unset, .unset, .unset, .unset, .unset, .unset, .unset, .unset, .unset, .unset, .unset, .unset] [])) st15 ?_
  obtain ⟨FB, FB_eq⟩ : ∃ g, g = f16 := ⟨_, rfl⟩
  have fq17 : Ints Z h15 b1 .byte (5 : Int32) FB := by rw [FB_eq]; exact A15
  have y0 : (FB (0 : Int32)).toInt8.toInt32 = FB (0 : Int32) := by rw [FB_eq, qf16, qf13, qf10, qf7, qf4]; exact own_bb _
  have y1 : (FB (1 : Int32)).toInt8.toInt32 = FB (1 : Int32) := by rw [FB_eq, qf16, qf13, qf10, qf7, qf4]; exact own_bb _
  have y2 : (FB (2 : Int32)).toInt8.toInt32 = FB (2 : Int32) := by rw [FB_eq, qf16, qf13, qf10, qf7, qf4]; exact own_bb _
  have y3 : (FB (3 : Int32)).toInt8.toInt32 = FB (3 : Int32) := by rw [FB_eq, qf16, qf13, qf10, qf7, qf4]; exact own_bb _
  have y4 : (FB (4 : Int32)).toInt8.toInt32 = FB (4 : Int32) := by rw [FB_eq, qf16, qf13, qf10, qf7, qf4]; exact own_bb _
  refine Run.lloadN (pc' := 58) X15 hx (hb hby at_57) rfl rfl ?_
  refine Run.bipush (pc' := 60) (v := (50 : Int32)) X15 hx (hb hby at_58) rfl rfl ?_
  refine Run.lushr (pc' := 61) X15 hx (hb hby at_60) rfl ?_
  refine Run.ldc2Long (pc' := 64) (v := (7 : Int64)) X15 hx hown (mvT hZ (hw _ (List.mem_of_getElem? (i := 6) rfl))) (hb hby at_61) rfl ?_
  refine Run.land (pc' := 65) X15 hx (hb hby at_64) rfl ?_
  refine Run.l2i (pc' := 66) X15 hx (hb hby at_65) rfl ?_
  refine Run.bipush (pc' := 68) (v := (6 : Int32)) X15 hx (hb hby at_66) rfl rfl ?_
  refine Run.irem (pc' := 69) X15 hx (hb hby at_68) (by decide) rfl ?_
  refine Run.istore (pc' := 71) X15 hx (l' := #[.val (.long q0), .second, .val (.int p1), .val (.int p2), .val (.ref b1), .val (.int (((((q0.toUInt64 >>> ((50 : Int32) &&& 0x3f).toInt64.toUInt64).toInt64) &&& (7 : Int64)).toInt32) % (6 : Int32))), .unset, .unset, .unset, .unset, .unset, .unset, .unset, .unset, .unset, .unset, .unset, .unset, .unset, .unset, .unset, .unset, .unset, .unset, .unset]) (hb hby at_69) rfl rfl ?_
  have hs0 := own_s6 q0
  obtain ⟨sx, sx_eq⟩ : ∃ z, z = (((((q0.toUInt64 >>> ((50 : Int32) &&& 0x3f).toInt64.toUInt64).toInt64) &&& (7 : Int64)).toInt32) % (6 : Int32)) := ⟨_, rfl⟩
  rw [← sx_eq] at hs0 ⊢
  have hs := hs0
  refine Run.iconst (pc' := 72) (v := (3 : Int32)) X15 hx (hb hby at_71) rfl rfl ?_
  obtain ⟨T18, h18, b18, X18, e18, E18, g18, A18, st18⟩ := st_newarray X15 hx hZ (hw _ (List.mem_of_getElem? (i := 0) rfl)) e15 (hb hby at_72) (Ls := #[.val (.long q0), .second, .val (.int p1), .val (.int p2), .val (.ref b1), .val (.int sx), .unset, .unset, .unset, .unset, .unset, .unset, .unset, .unset, .unset, .unset, .unset, .unset, .unset, .unset, .unset, .unset, .unset, .unset, .unset]) (rest := []) (n := (3 : Int32)) (by decide) (cap := 3) (by decide) (by decide) (by decide) (by decide) rfl
  replace A18 : Ints Z h18 b18 .byte (3 : Int32) (fun _ => 0) := A18
  have ne_b1_b18 : b1 ≠ b18 := Nat.ne_of_lt (Nat.lt_of_lt_of_le (fq17).lt (Nat.le_of_eq g18.symm))
  have G18 : n0 ≤ b18 := Nat.le_trans Z15 (Nat.le_of_eq g18.symm)
  have Z18 : n0 ≤ h18.size := Nat.le_trans Z15 E18.1
  have fq19 := Ints.ext E18 fq17
  refine Run.back (g' := (mkF m 74 #[.val (.long q0), .second, .val (.int p1), .val (.int p2), .val (.ref b1), .val (.int sx), .unset, .unset, .unset, .unset, .unset, .unset, .unset, .unset, .unset, .unset, .unset, .unset, .unset, .unset, .unset, .unset, .unset, .unset, .unset] [(.ref b18)])) st18 ?_
  refine Run.astore (pc' := 76) X18 hx (l' := #[.val (.long q0), .second, .val (.int p1), .val (.int p2), .val (.ref b1), .val (.int sx), .val (.ref b18), .unset, .unset, .unset, .unset, .unset, .unset, .unset, .unset, .unset, .unset, .unset, .unset, .unset, .unset, .unset, .unset, .unset, .unset]) (hb hby at_74) rfl rfl ?_
  refine Run.aload (pc' := 78) X18 hx (hb hby at_76) rfl rfl ?_
  refine Run.iconst (pc' := 79) (v := (0 : Int32)) X18 hx (hb hby at_78) rfl rfl ?_
  refine Run.iloadN (pc' := 80) X18 hx (hb hby at_79) rfl rfl ?_
  refine Run.i2l (pc' := 81) X18 hx (hb hby at_80) rfl ?_
  obtain ⟨T20, L20, v20, X20, Q20, st20⟩ := callStatic X18 hx (y := (⟨"com/example/vez/vez/gateway/http/HeadEndFindPinLaw", "pick", "(J)B"⟩ : MethodName)) (Ls := #[.val (.long q0), .second, .val (.int p1), .val (.int p2), .val (.ref b1), .val (.int sx), .val (.ref b18), .unset, .unset, .unset, .unset, .unset, .unset, .unset, .unset, .unset, .unset, .unset, .unset, .unset, .unset, .unset, .unset, .unset, .unset]) (rest := [(.int (0 : Int32)), (.ref b18)]) (W := 2) (argsL := [(.long (p2.toInt64))]) hZ hown (hw _ (List.mem_of_getElem? (i := 1) rfl)) (hw _ (List.mem_of_getElem? (i := 2) rfl)) (hw _ (List.mem_of_getElem? (i := 3) rfl)) (hw _ (List.mem_of_getElem? (i := 4) rfl)) (by decide) e18 (rm_p l Z a0 hw [] (p2.toInt64)  h18 n0 Z18 ) (hb hby at_81) (lenOf own_pd2 rfl) (by decide) (by decide) (by rw [hml]; rfl) (Nat.le_of_eq rfl) (by decide) (by decide)
  obtain ⟨rfl, M20, e20⟩ := Q20
  have N20 := Fr.app N15 M20
  refine Run.back (g' := (mkF m 84 #[.val (.long q0), .second, .val (.int p1), .val (.int p2), .val (.ref b1), .val (.int sx), .val (.ref b18), .unset, .unset, .unset, .unset, .unset, .unset, .unset, .unset, .unset, .unset, .unset, .unset, .unset, .unset, .unset, .unset, .unset, .unset] [(.int (own_Fp (p2.toInt64))), (.int (0 : Int32)), (.ref b18)])) st20 ?_
  obtain ⟨T21, h21, sl21, u21, X21, e21, W21, A21, st21⟩ := st_bastore X20 hx hZ e20 A18 (Ls := #[.val (.long q0), .second, .val (.int p1), .val (.int p2), .val (.ref b1), .val (.int sx), .val (.ref b18), .unset, .unset, .unset, .unset, .unset, .unset, .unset, .unset, .unset, .unset, .unset, .unset, .unset, .unset, .unset, .unset, .unset, .unset]) (rest := []) (j := (0 : Int32)) (x := (own_Fp (p2.toInt64))) (by decide) (by decide) (hb hby at_84)
  have N21 := Fr.snoc X21 N20 G18
  obtain ⟨f22, qf22⟩ : ∃ g : Int32 → Int32, g = fun i => if i = (0 : Int32) then (own_Fp (p2.toInt64)).toInt8.toInt32 else (fun _ => (0 : Int32)) i := ⟨_, rfl⟩
  replace A21 : Ints Z h21 b18 .byte (3 : Int32) f22 := by rw [qf22]; exact A21
  have fq23 := Ints.other W21 fq19 ne_b1_b18
  have Z21 : n0 ≤ h21.size := Nat.le_trans Z18 (Keep.of_wr W21).1
  refine Run.back (g' := (mkF m 85 #[.val (.long q0), .second, .val (.int p1), .val (.int p2), .val (.ref b1), .val (.int sx), .val (.ref b18), .unset, .unset, .unset, .unset, .unset, .unset, .unset, .unset, .unset, .unset, .unset, .unset, .unset, .unset, .unset, .unset, .unset, .unset] [])) st21 ?_
  refine Run.aload (pc' := 87) X21 hx (hb hby at_85) rfl rfl ?_
  refine Run.iconst (pc' := 88) (v := (1 : Int32)) X21 hx (hb hby at_87) rfl rfl ?_
  refine Run.iloadN (pc' := 89) X21 hx (hb hby at_88) rfl rfl ?_
  refine Run.bipush (pc' := 91) (v := (10 : Int32)) X21 hx (hb hby at_89) rfl rfl ?_
  refine Run.iushr (pc' := 92) X21 hx (hb hby at_91) rfl ?_
  refine Run.i2l (pc' := 93) X21 hx (hb hby at_92) rfl ?_
  obtain ⟨T24, L24, v24, X24, Q24, st24⟩ := callStatic X21 hx (y := (⟨"com/example/vez/vez/gateway/http/HeadEndFindPinLaw", "pick", "(J)B"⟩ : MethodName)) (Ls := #[.val (.long q0), .second, .val (.int p1), .val (.int p2), .val (.ref b1), .val (.int sx), .val (.ref b18), .unset, .unset, .unset, .unset, .unset, .unset, .unset, .unset, .unset, .unset, .unset, .unset, .unset, .unset, .unset, .unset, .unset, .unset]) (rest := [(.int (1 : Int32)), (.ref b18)]) (W := 2) (argsL := [(.long (((p2.toUInt32 >>> ((10 : Int32) &&& 31).toUInt32).toInt32).toInt64))]) hZ hown (hw _ (List.mem_of_getElem? (i := 1) rfl)) (hw _ (List.mem_of_getElem? (i := 2) rfl)) (hw _ (List.mem_of_getElem? (i := 3) rfl)) (hw _ (List.mem_of_getElem? (i := 4) rfl)) (by decide) e21 (rm_p l Z a0 hw [] (((p2.toUInt32 >>> ((10 : Int32) &&& 31).toUInt32).toInt32).toInt64)  h21 n0 Z21 ) (hb hby at_93) (lenOf own_pd2 rfl) (by decide) (by decide) (by rw [hml]; rfl) (Nat.le_of_eq rfl) (by decide) (by decide)
  obtain ⟨rfl, M24, e24⟩ := Q24
  have N24 := Fr.app N21 M24
  refine Run.back (g' := (mkF m 96 #[.val (.long q0), .second, .val (.int p1), .val (.int p2), .val (.ref b1), .val (.int sx), .val (.ref b18), .unset, .unset, .unset, .unset, .unset, .unset, .unset, .unset, .unset, .unset, .unset, .unset, .unset, .unset, .unset, .unset, .unset, .unset] [(.int (own_Fp (((p2.toUInt32 >>> ((10 : Int32) &&& 31).toUInt32).toInt32).toInt64))), (.int (1 : Int32)), (.ref b18)])) st24 ?_
  obtain ⟨T25, h25, sl25, u25, X25, e25, W25, A25, st25⟩ := st_bastore X24 hx hZ e24 A21 (Ls := #[.val (.long q0), .second, .val (.int p1), .val (.int p2), .val (.ref b1), .val (.int sx), .val (.ref b18), .unset, .unset, .unset, .unset, .unset, .unset, .unset, .unset, .unset, .unset, .unset, .unset, .unset, .unset, .unset, .unset, .unset, .unset]) (rest := []) (j := (1 : Int32)) (x := (own_Fp (((p2.toUInt32 >>> ((10 : Int32) &&& 31).toUInt32).toInt32).toInt64))) (by decide) (by decide) (hb hby at_96)
  have N25 := Fr.snoc X25 N24 G18
  obtain ⟨f26, qf26⟩ : ∃ g : Int32 → Int32, g = fun i => if i = (1 : Int32) then (own_Fp (((p2.toUInt32 >>> ((10 : Int32) &&& 31).toUInt32).toInt32).toInt64)).toInt8.toInt32 else f22 i := ⟨_, rfl⟩
  replace A25 : Ints Z h25 b18 .byte (3 : Int32) f26 := by rw [qf26]; exact A25
  have fq27 := Ints.other W25 fq23 ne_b1_b18
  have Z25 : n0 ≤ h25.size := Nat.le_trans Z21 (Keep.of_wr W25).1
  refine Run.back (g' := (mkF m 97 #[.val (.long q0), .second, .val (.int p1), .val (.int p2), .val (.ref b1), .val (.int sx), .val (.ref b18), .unset, .unset, .unset, .unset, .unset, .unset, .unset, .unset, .unset, .unset, .unset, .unset, .unset, .unset, .unset, .unset, .unset, .unset] [])) st25 ?_
  refine Run.aload (pc' := 99) X25 hx (hb hby at_97) rfl rfl ?_
  refine Run.iconst (pc' := 100) (v := (2 : Int32)) X25 hx (hb hby at_99) rfl rfl ?_
  refine Run.iloadN (pc' := 101) X25 hx (hb hby at_100) rfl rfl ?_
  refine Run.bipush (pc' := 103) (v := (20 : Int32)) X25 hx (hb hby at_101) rfl rfl ?_
  refine Run.iushr (pc' := 104) X25 hx (hb hby at_103) rfl ?_
  refine Run.i2l (pc' := 105) X25 hx (hb hby at_104) rfl ?_
  obtain ⟨T28, L28, v28, X28, Q28, st28⟩ := callStatic X25 hx (y := (⟨"com/example/vez/vez/gateway/http/HeadEndFindPinLaw", "pick", "(J)B"⟩ : MethodName)) (Ls := #[.val (.long q0), .second, .val (.int p1), .val (.int p2), .val (.ref b1), .val (.int sx), .val (.ref b18), .unset, .unset, .unset, .unset, .unset, .unset, .unset, .unset, .unset, .unset, .unset, .unset, .unset, .unset, .unset, .unset, .unset, .unset]) (rest := [(.int (2 : Int32)), (.ref b18)]) (W := 2) (argsL := [(.long (((p2.toUInt32 >>> ((20 : Int32) &&& 31).toUInt32).toInt32).toInt64))]) hZ hown (hw _ (List.mem_of_getElem? (i := 1) rfl)) (hw _ (List.mem_of_getElem? (i := 2) rfl)) (hw _ (List.mem_of_getElem? (i := 3) rfl)) (hw _ (List.mem_of_getElem? (i := 4) rfl)) (by decide) e25 (rm_p l Z a0 hw [] (((p2.toUInt32 >>> ((20 : Int32) &&& 31).toUInt32).toInt32).toInt64)  h25 n0 Z25 ) (hb hby at_105) (lenOf own_pd2 rfl) (by decide) (by decide) (by rw [hml]; rfl) (Nat.le_of_eq rfl) (by decide) (by decide)
  obtain ⟨rfl, M28, e28⟩ := Q28
  have N28 := Fr.app N25 M28
  refine Run.back (g' := (mkF m 108 #[.val (.long q0), .second, .val (.int p1), .val (.int p2), .val (.ref b1), .val (.int sx), .val (.ref b18), .unset, .unset, .unset, .unset, .unset, .unset, .unset, .unset, .unset, .unset, .unset, .unset, .unset, .unset, .unset, .unset, .unset, .unset] [(.int (own_Fp (((p2.toUInt32 >>> ((20 : Int32) &&& 31).toUInt32).toInt32).toInt64))), (.int (2 : Int32)), (.ref b18)])) st28 ?_
  obtain ⟨T29, h29, sl29, u29, X29, e29, W29, A29, st29⟩ := st_bastore X28 hx hZ e28 A25 (Ls := #[.val (.long q0), .second, .val (.int p1), .val (.int p2), .val (.ref b1), .val (.int sx), .val (.ref b18), .unset, .unset, .unset, .unset, .unset, .unset, .unset, .unset, .unset, .unset, .unset, .unset, .unset, .unset, .unset, .unset, .unset, .unset]) (rest := []) (j := (2 : Int32)) (x := (own_Fp (((p2.toUInt32 >>> ((20 : Int32) &&& 31).toUInt32).toInt32).toInt64))) (by decide) (by decide) (hb hby at_108)
  have N29 := Fr.snoc X29 N28 G18
  obtain ⟨f30, qf30⟩ : ∃ g : Int32 → Int32, g = fun i => if i = (2 : Int32) then (own_Fp (((p2.toUInt32 >>> ((20 : Int32) &&& 31).toUInt32).toInt32).toInt64)).toInt8.toInt32 else f26 i := ⟨_, rfl⟩
  replace A29 : Ints Z h29 b18 .byte (3 : Int32) f30 := by rw [qf30]; exact A29
  have fq31 := Ints.other W29 fq27 ne_b1_b18
  have Z29 : n0 ≤ h29.size := Nat.le_trans Z25 (Keep.of_wr W29).1
  refine Run.back (g' := (mkF m 109 #[.val (.long q0), .second, .val (.int p1), .val (.int p2), .val (.ref b1), .val (.int sx), .val (.ref b18), .unset, .unset, .unset, .unset, .unset, .unset, .unset, .unset, .unset, .unset, .unset, .unset, .unset, .unset, .unset, .unset, .unset, .unset] [])) st29 ?_
  refine Run.iconst (pc' := 110) (v := (5 : Int32)) X29 hx (hb hby at_109) rfl rfl ?_
  obtain ⟨T32, h32, b32, X32, e32, E32, g32, A32, st32⟩ := st_newarray X29 hx hZ (hw _ (List.mem_of_getElem? (i := 0) rfl)) e29 (hb hby at_110) (Ls := #[.val (.long q0), .second, .val (.int p1), .val (.int p2), .val (.ref b1), .val (.int sx), .val (.ref b18), .unset, .unset, .unset, .unset, .unset, .unset, .unset, .unset, .unset, .unset, .unset, .unset, .unset, .unset, .unset, .unset, .unset, .unset]) (rest := []) (n := (5 : Int32)) (by decide) (cap := 5) (by decide) (by decide) (by decide) (by decide) rfl
  replace A32 : Ints Z h32 b32 .byte (5 : Int32) (fun _ => 0) := A32
  have ne_b1_b32 : b1 ≠ b32 := Nat.ne_of_lt (Nat.lt_of_lt_of_le (fq31).lt (Nat.le_of_eq g32.symm))
  have ne_b18_b32 : b18 ≠ b32 := Nat.ne_of_lt (Nat.lt_of_lt_of_le (A29).lt (Nat.le_of_eq g32.symm))
  have G32 : n0 ≤ b32 := Nat.le_trans Z29 (Nat.le_of_eq g32.symm)
  have Z32 : n0 ≤ h32.size := Nat.le_trans Z29 E32.1
  have fq33 := Ints.ext E32 fq31
  have fq34 := Ints.ext E32 A29
  refine Run.back (g' := (mkF m 112 #[.val (.long q0), .second, .val (.int p1), .val (.int p2), .val (.ref b1), .val (.int sx), .val (.ref b18), .unset, .unset, .unset, .unset, .unset, .unset, .unset, .unset, .unset, .unset, .unset, .unset, .unset, .unset, .unset, .unset, .unset, .unset] [(.ref b32)])) st32 ?_
  refine Run.astore (pc' := 114) X32 hx (l' := #[.val (.long q0), .second, .val (.int p1), .val (.int p2), .val (.ref b1), .val (.int sx), .val (.ref b18), .val (.ref b32), .unset, .unset, .unset, .unset, .unset, .unset, .unset, .unset, .unset, .unset, .unset, .unset, .unset, .unset, .unset, .unset, .unset]) (hb hby at_112) rfl rfl ?_
  refine Run.aload (pc' := 116) X32 hx (hb hby at_114) rfl rfl ?_
  refine Run.iconst (pc' := 117) (v := (0 : Int32)) X32 hx (hb hby at_116) rfl rfl ?_
  refine Run.aload (pc' := 119) X32 hx (hb hby at_117) rfl rfl ?_
  refine Run.iconst (pc' := 120) (v := (0 : Int32)) X32 hx (hb hby at_119) rfl rfl ?_
  refine Run.baload (pc' := 121) X32 hx hZ e32 fq33 (by decide) (by decide) (hb hby at_120) rfl ?_
  refine Run.iconst (pc' := 122) (v := (0 : Int32)) X32 hx (hb hby at_121) rfl rfl ?_
  refine Run.iload (pc' := 124) X32 hx (hb hby at_122) rfl rfl ?_
  have J132 : ∀ (vv0 : Int32), vv0 = (if (0 : Int32) < sx then (1 : Int32) else (0 : Int32)) → ∀ (T_132 : State) (locs : List Loc), Stand p l e room_1 s m #[(.long q0), (.int p1), (.int p2)] below meth c T_132 locs 3 13 → T_132.heap = h32 → Fr n0 locs → Run p.tables e below (FinR s room_1.cells room_1.slots (Say (fun v h L => v = some (.int 1) ∧ Fr n0 L))) T_132 (mkF m 132 #[.val (.long q0), .second, .val (.int p1), .val (.int p2), .val (.ref b1), .val (.int sx), .val (.ref b18), .val (.ref b32), .unset, .unset, .unset, .unset, .unset, .unset, .unset, .unset, .unset, .unset, .unset, .unset, .unset, .unset, .unset, .unset, .unset] [(.int vv0), (.int (FB (0 : Int32))), (.int (0 : Int32)), (.ref b32)]) := by
    intro vv0 hv_vv0 T_132 locs X_132 e_132 N_132
    obtain ⟨T35, L35, v35, X35, Q35, st35⟩ := callStatic X_132 hx (y := (⟨"com/example/vez/vez/gateway/http/HeadEndFindPinLaw", "keep", "(BZ)B"⟩ : MethodName)) (Ls := #[.val (.long q0), .second, .val (.int p1), .val (.int p2), .val (.ref b1), .val (.int sx), .val (.ref b18), .val (.ref b32), .unset, .unset, .unset, .unset, .unset, .unset, .unset, .unset, .unset, .unset, .unset, .unset, .unset, .unset, .unset, .unset, .unset]) (rest := [(.int (0 : Int32)), (.ref b32)]) (W := 2) (argsL := [(.int (FB (0 : Int32))), (.int vv0)]) hZ hown (hw _ (List.mem_of_getElem? (i := 7) rfl)) (hw _ (List.mem_of_getElem? (i := 8) rfl)) (hw _ (List.mem_of_getElem? (i := 3) rfl)) (hw _ (List.mem_of_getElem? (i := 9) rfl)) (by decide) e_132 (rm_k l Z a0 hw [] (FB (0 : Int32)) vv0  h32 n0 Z32 ) (hb hby at_132) (lenOf own_pd3 rfl) (by decide) (by decide) (by rw [hml]; rfl) (Nat.le_of_eq rfl) (by decide) (by decide)
    obtain ⟨rfl, M35, e35⟩ := Q35
    have N35 := Fr.app N_132 M35
    refine Run.back (g' := (mkF m 135 #[.val (.long q0), .second, .val (.int p1), .val (.int p2), .val (.ref b1), .val (.int sx), .val (.ref b18), .val (.ref b32), .unset, .unset, .unset, .unset, .unset, .unset, .unset, .unset, .unset, .unset, .unset, .unset, .unset, .unset, .unset, .unset, .unset] [(.int (own_Fk (FB (0 : Int32)) vv0)), (.int (0 : Int32)), (.ref b32)])) st35 ?_
    obtain ⟨T36, h36, sl36, u36, X36, e36, W36, A36, st36⟩ := st_bastore X35 hx hZ e35 A32 (Ls := #[.val (.long q0), .second, .val (.int p1), .val (.int p2), .val (.ref b1), .val (.int sx), .val (.ref b18), .val (.ref b32), .unset, .unset, .unset, .unset, .unset, .unset, .unset, .unset, .unset, .unset, .unset, .unset, .unset, .unset, .unset, .unset, .unset]) (rest := []) (j := (0 : Int32)) (x := (own_Fk (FB (0 : Int32)) vv0)) (by decide) (by decide) (hb hby at_135)
    have N36 := Fr.snoc X36 N35 G32
    obtain ⟨f37, qf37⟩ : ∃ g : Int32 → Int32, g = fun i => if i = (0 : Int32) then (own_Fk (FB (0 : Int32)) vv0).toInt8.toInt32 else (fun _ => (0 : Int32)) i := ⟨_, rfl⟩
    replace A36 : Ints Z h36 b32 .byte (5 : Int32) f37 := by rw [qf37]; exact A36
    have fq38 := Ints.other W36 fq33 ne_b1_b32
    have fq39 := Ints.other W36 fq34 ne_b18_b32
    have Z36 : n0 ≤ h36.size := Nat.le_trans Z32 (Keep.of_wr W36).1
    refine Run.back (g' := (mkF m 136 #[.val (.long q0), .second, .val (.int p1), .val (.int p2), .val (.ref b1), .val (.int sx), .val (.ref b18), .val (.ref b32), .unset, .unset, .unset, .unset, .unset, .unset, .unset, .unset, .unset, .unset, .unset, .unset, .unset, .unset, .unset, .unset, .unset] [])) st36 ?_
    refine Run.aload (pc' := 138) X36 hx (hb hby at_136) rfl rfl ?_
    refine Run.iconst (pc' := 139) (v := (1 : Int32)) X36 hx (hb hby at_138) rfl rfl ?_
    refine Run.aload (pc' := 141) X36 hx (hb hby at_139) rfl rfl ?_
    refine Run.iconst (pc' := 142) (v := (1 : Int32)) X36 hx (hb hby at_141) rfl rfl ?_
    refine Run.baload (pc' := 143) X36 hx hZ e36 fq38 (by decide) (by decide) (hb hby at_142) rfl ?_
    refine Run.iconst (pc' := 144) (v := (1 : Int32)) X36 hx (hb hby at_143) rfl rfl ?_
    refine Run.iload (pc' := 146) X36 hx (hb hby at_144) rfl rfl ?_
    have J154 : ∀ (vv1 : Int32), vv1 = (if (1 : Int32) < sx then (1 : Int32) else (0 : Int32)) → ∀ (T_154 : State) (locs : List Loc), Stand p l e room_1 s m #[(.long q0), (.int p1), (.int p2)] below meth c T_154 locs 3 13 → T_154.heap = h36 → Fr n0 locs → Run p.tables e below (FinR s room_1.cells room_1.slots (Say (fun v h L => v = some (.int 1) ∧ Fr n0 L))) T_154 (mkF m 154 #[.val (.long q0), .second, .val (.int p1), .val (.int p2), .val (.ref b1), .val (.int sx), .val (.ref b18), .val (.ref b32), .unset, .unset, .unset, .unset, .unset, .unset, .unset, .unset, .unset, .unset, .unset, .unset, .unset, .unset, .unset, .unset, .unset] [(.int vv1), (.int (FB (1 : Int32))), (.int (1 : Int32)), (.ref b32)]) := by
      intro vv1 hv_vv1 T_154 locs X_154 e_154 N_154
      obtain ⟨T40, L40, v40, X40, Q40, st40⟩ := callStatic X_154 hx (y := (⟨"com/example/vez/vez/gateway/http/HeadEndFindPinLaw", "keep", "(BZ)B"⟩ : MethodName)) (Ls := #[.val (.long q0), .second, .val (.int p1), .val (.int p2), .val (.ref b1), .val (.int sx), .val (.ref b18), .val (.ref b32), .unset, .unset, .unset, .unset, .unset, .unset, .unset, .unset, .unset, .unset, .unset, .unset, .unset, .unset, .unset, .unset, .unset]) (rest := [(.int (1 : Int32)), (.ref b32)]) (W := 2) (argsL := [(.int (FB (1 : Int32))), (.int vv1)]) hZ hown (hw _ (List.mem_of_getElem? (i := 7) rfl)) (hw _ (List.mem_of_getElem? (i := 8) rfl)) (hw _ (List.mem_of_getElem? (i := 3) rfl)) (hw _ (List.mem_of_getElem? (i := 9) rfl)) (by decide) e_154 (rm_k l Z a0 hw [] (FB (1 : Int32)) vv1  h36 n0 Z36 ) (hb hby at_154) (lenOf own_pd3 rfl) (by decide) (by decide) (by rw [hml]; rfl) (Nat.le_of_eq rfl) (by decide) (by decide)
      obtain ⟨rfl, M40, e40⟩ := Q40
      have N40 := Fr.app N_154 M40
      refine Run.back (g' := (mkF m 157 #[.val (.long q0), .second, .val (.int p1), .val (.int p2), .val (.ref b1), .val (.int sx), .val (.ref b18), .val (.ref b32), .unset, .unset, .unset, .unset, .unset, .unset, .unset, .unset, .unset, .unset, .unset, .unset, .unset, .unset, .unset, .unset, .unset] [(.int (own_Fk (FB (1 : Int32)) vv1)), (.int (1 : Int32)), (.ref b32)])) st40 ?_
      obtain ⟨T41, h41, sl41, u41, X41, e41, W41, A41, st41⟩ := st_bastore X40 hx hZ e40 A36 (Ls := #[.val (.long q0), .second, .val (.int p1), .val (.int p2), .val (.ref b1), .val (.int sx), .val (.ref b18), .val (.ref b32), .unset, .unset, .unset, .unset, .unset, .unset, .unset, .unset, .unset, .unset, .unset, .unset, .unset, .unset, .unset, .unset, .unset]) (rest := []) (j := (1 : Int32)) (x := (own_Fk (FB (1 : Int32)) vv1)) (by decide) (by decide) (hb hby at_157)
      have N41 := Fr.snoc X41 N40 G32
      obtain ⟨f42, qf42⟩ : ∃ g : Int32 → Int32, g = fun i => if i = (1 : Int32) then (own_Fk (FB (1 : Int32)) vv1).toInt8.toInt32 else f37 i := ⟨_, rfl⟩
      replace A41 : Ints Z h41 b32 .byte (5 : Int32) f42 := by rw [qf42]; exact A41
      have fq43 := Ints.other W41 fq38 ne_b1_b32
      have fq44 := Ints.other W41 fq39 ne_b18_b32
      have Z41 : n0 ≤ h41.size := Nat.le_trans Z36 (Keep.of_wr W41).1
      refine Run.back (g' := (mkF m 158 #[.val (.long q0), .second, .val (.int p1), .val (.int p2), .val (.ref b1), .val (.int sx), .val (.ref b18), .val (.ref b32), .unset, .unset, .unset, .unset, .unset, .unset, .unset, .unset, .unset, .unset, .unset, .unset, .unset, .unset, .unset, .unset, .unset] [])) st41 ?_
      refine Run.aload (pc' := 160) X41 hx (hb hby at_158) rfl rfl ?_
      refine Run.iconst (pc' := 161) (v := (2 : Int32)) X41 hx (hb hby at_160) rfl rfl ?_
      refine Run.aload (pc' := 163) X41 hx (hb hby at_161) rfl rfl ?_
      refine Run.iconst (pc' := 164) (v := (2 : Int32)) X41 hx (hb hby at_163) rfl rfl ?_
      refine Run.baload (pc' := 165) X41 hx hZ e41 fq43 (by decide) (by decide) (hb hby at_164) rfl ?_
      refine Run.iconst (pc' := 166) (v := (2 : Int32)) X41 hx (hb hby at_165) rfl rfl ?_
      refine Run.iload (pc' := 168) X41 hx (hb hby at_166) rfl rfl ?_
      have J176 : ∀ (vv2 : Int32), vv2 = (if (2 : Int32) < sx then (1 : Int32) else (0 : Int32)) → ∀ (T_176 : State) (locs : List Loc), Stand p l e room_1 s m #[(.long q0), (.int p1), (.int p2)] below meth c T_176 locs 3 13 → T_176.heap = h41 → Fr n0 locs → Run p.tables e below (FinR s room_1.cells room_1.slots (Say (fun v h L => v = some (.int 1) ∧ Fr n0 L))) T_176 (mkF m 176 #[.val (.long q0), .second, .val (.int p1), .val (.int p2), .val (.ref b1), .val (.int sx), .val (.ref b18), .val (.ref b32), .unset, .unset, .unset, .unset, .unset, .unset, .unset, .unset, .unset, .unset, .unset, .unset, .unset, .unset, .unset, .unset, .unset] [(.int vv2), (.int (FB (2 : Int32))), (.int (2 : Int32)), (.ref b32)]) := by
        intro vv2 hv_vv2 T_176 locs X_176 e_176 N_176
        obtain ⟨T45, L45, v45, X45, Q45, st45⟩ := callStatic X_176 hx (y := (⟨"com/example/vez/vez/gateway/http/HeadEndFindPinLaw", "keep", "(BZ)B"⟩ : MethodName)) (Ls := #[.val (.long q0), .second, .val (.int p1), .val (.int p2), .val (.ref b1), .val (.int sx), .val (.ref b18), .val (.ref b32), .unset, .unset, .unset, .unset, .unset, .unset, .unset, .unset, .unset, .unset, .unset, .unset, .unset, .unset, .unset, .unset, .unset]) (rest := [(.int (2 : Int32)), (.ref b32)]) (W := 2) (argsL := [(.int (FB (2 : Int32))), (.int vv2)]) hZ hown (hw _ (List.mem_of_getElem? (i := 7) rfl)) (hw _ (List.mem_of_getElem? (i := 8) rfl)) (hw _ (List.mem_of_getElem? (i := 3) rfl)) (hw _ (List.mem_of_getElem? (i := 9) rfl)) (by decide) e_176 (rm_k l Z a0 hw [] (FB (2 : Int32)) vv2  h41 n0 Z41 ) (hb hby at_176) (lenOf own_pd3 rfl) (by decide) (by decide) (by rw [hml]; rfl) (Nat.le_of_eq rfl) (by decide) (by decide)
        obtain ⟨rfl, M45, e45⟩ := Q45
        have N45 := Fr.app N_176 M45
        refine Run.back (g' := (mkF m 179 #[.val (.long q0), .second, .val (.int p1), .val (.int p2), .val (.ref b1), .val (.int sx), .val (.ref b18), .val (.ref b32), .unset, .unset, .unset, .unset, .unset, .unset, .unset, .unset, .unset, .unset, .unset, .unset, .unset, .unset, .unset, .unset, .unset] [(.int (own_Fk (FB (2 : Int32)) vv2)), (.int (2 : Int32)), (.ref b32)])) st45 ?_
        obtain ⟨T46, h46, sl46, u46, X46, e46, W46, A46, st46⟩ := st_bastore X45 hx hZ e45 A41 (Ls := #[.val (.long q0), .second, .val (.int p1), .val (.int p2), .val (.ref b1), .val (.int sx), .val (.ref b18), .val (.ref b32), .unset, .unset, .unset, .unset, .unset, .unset, .unset, .unset, .unset, .unset, .unset, .unset, .unset, .unset, .unset, .unset, .unset]) (rest := []) (j := (2 : Int32)) (x := (own_Fk (FB (2 : Int32)) vv2)) (by decide) (by decide) (hb hby at_179)
        have N46 := Fr.snoc X46 N45 G32
        obtain ⟨f47, qf47⟩ : ∃ g : Int32 → Int32, g = fun i => if i = (2 : Int32) then (own_Fk (FB (2 : Int32)) vv2).toInt8.toInt32 else f42 i := ⟨_, rfl⟩
        replace A46 : Ints Z h46 b32 .byte (5 : Int32) f47 := by rw [qf47]; exact A46
        have fq48 := Ints.other W46 fq43 ne_b1_b32
        have fq49 := Ints.other W46 fq44 ne_b18_b32
        have Z46 : n0 ≤ h46.size := Nat.le_trans Z41 (Keep.of_wr W46).1
        refine Run.back (g' := (mkF m 180 #[.val (.long q0), .second, .val (.int p1), .val (.int p2), .val (.ref b1), .val (.int sx), .val (.ref b18), .val (.ref b32), .unset, .unset, .unset, .unset, .unset, .unset, .unset, .unset, .unset, .unset, .unset, .unset, .unset, .unset, .unset, .unset, .unset] [])) st46 ?_
        refine Run.aload (pc' := 182) X46 hx (hb hby at_180) rfl rfl ?_
        refine Run.iconst (pc' := 183) (v := (3 : Int32)) X46 hx (hb hby at_182) rfl rfl ?_
        refine Run.aload (pc' := 185) X46 hx (hb hby at_183) rfl rfl ?_
        refine Run.iconst (pc' := 186) (v := (3 : Int32)) X46 hx (hb hby at_185) rfl rfl ?_
        refine Run.baload (pc' := 187) X46 hx hZ e46 fq48 (by decide) (by decide) (hb hby at_186) rfl ?_
        refine Run.iconst (pc' := 188) (v := (3 : Int32)) X46 hx (hb hby at_187) rfl rfl ?_
        refine Run.iload (pc' := 190) X46 hx (hb hby at_188) rfl rfl ?_
        have J198 : ∀ (vv3 : Int32), vv3 = (if (3 : Int32) < sx then (1 : Int32) else (0 : Int32)) → ∀ (T_198 : State) (locs : List Loc), Stand p l e room_1 s m #[(.long q0), (.int p1), (.int p2)] below meth c T_198 locs 3 13 → T_198.heap = h46 → Fr n0 locs → Run p.tables e below (FinR s room_1.cells room_1.slots (Say (fun v h L => v = some (.int 1) ∧ Fr n0 L))) T_198 (mkF m 198 #[.val (.long q0), .second, .val (.int p1), .val (.int p2), .val (.ref b1), .val (.int sx), .val (.ref b18), .val (.ref b32), .unset, .unset, .unset, .unset, .unset, .unset, .unset, .unset, .unset, .unset, .unset, .unset, .unset, .unset, .unset, .unset, .unset] [(.int vv3), (.int (FB (3 : Int32))), (.int (3 : Int32)), (.ref b32)]) := by
          intro vv3 hv_vv3 T_198 locs X_198 e_198 N_198
          obtain ⟨T50, L50, v50, X50, Q50, st50⟩ := callStatic X_198 hx (y := (⟨"com/example/vez/vez/gateway/http/HeadEndFindPinLaw", "keep", "(BZ)B"⟩ : MethodName)) (Ls := #[.val (.long q0), .second, .val (.int p1), .val (.int p2), .val (.ref b1), .val (.int sx), .val (.ref b18), .val (.ref b32), .unset, .unset, .unset, .unset, .unset, .unset, .unset, .unset, .unset, .unset, .unset, .unset, .unset, .unset, .unset, .unset, .unset]) (rest := [(.int (3 : Int32)), (.ref b32)]) (W := 2) (argsL := [(.int (FB (3 : Int32))), (.int vv3)]) hZ hown (hw _ (List.mem_of_getElem? (i := 7) rfl)) (hw _ (List.mem_of_getElem? (i := 8) rfl)) (hw _ (List.mem_of_getElem? (i := 3) rfl)) (hw _ (List.mem_of_getElem? (i := 9) rfl)) (by decide) e_198 (rm_k l Z a0 hw [] (FB (3 : Int32)) vv3  h46 n0 Z46 ) (hb hby at_198) (lenOf own_pd3 rfl) (by decide) (by decide) (by rw [hml]; rfl) (Nat.le_of_eq rfl) (by decide) (by decide)
          obtain ⟨rfl, M50, e50⟩ := Q50
          have N50 := Fr.app N_198 M50
          refine Run.back (g' := (mkF m 201 #[.val (.long q0), .second, .val (.int p1), .val (.int p2), .val (.ref b1), .val (.int sx), .val (.ref b18), .val (.ref b32), .unset, .unset, .unset, .unset, .unset, .unset, .unset, .unset, .unset, .unset, .unset, .unset, .unset, .unset, .unset, .unset, .unset] [(.int (own_Fk (FB (3 : Int32)) vv3)), (.int (3 : Int32)), (.ref b32)])) st50 ?_
          obtain ⟨T51, h51, sl51, u51, X51, e51, W51, A51, st51⟩ := st_bastore X50 hx hZ e50 A46 (Ls := #[.val (.long q0), .second, .val (.int p1), .val (.int p2), .val (.ref b1), .val (.int sx), .val (.ref b18), .val (.ref b32), .unset, .unset, .unset, .unset, .unset, .unset, .unset, .unset, .unset, .unset, .unset, .unset, .unset, .unset, .unset, .unset, .unset]) (rest := []) (j := (3 : Int32)) (x := (own_Fk (FB (3 : Int32)) vv3)) (by decide) (by decide) (hb hby at_201)
          have N51 := Fr.snoc X51 N50 G32
          obtain ⟨f52, qf52⟩ : ∃ g : Int32 → Int32, g = fun i => if i = (3 : Int32) then (own_Fk (FB (3 : Int32)) vv3).toInt8.toInt32 else f47 i := ⟨_, rfl⟩
          replace A51 : Ints Z h51 b32 .byte (5 : Int32) f52 := by rw [qf52]; exact A51
          have fq53 := Ints.other W51 fq48 ne_b1_b32
          have fq54 := Ints.other W51 fq49 ne_b18_b32
          have Z51 : n0 ≤ h51.size := Nat.le_trans Z46 (Keep.of_wr W51).1
          refine Run.back (g' := (mkF m 202 #[.val (.long q0), .second, .val (.int p1), .val (.int p2), .val (.ref b1), .val (.int sx), .val (.ref b18), .val (.ref b32), .unset, .unset, .unset, .unset, .unset, .unset, .unset, .unset, .unset, .unset, .unset, .unset, .unset, .unset, .unset, .unset, .unset] [])) st51 ?_
          refine Run.aload (pc' := 204) X51 hx (hb hby at_202) rfl rfl ?_
          refine Run.iconst (pc' := 205) (v := (4 : Int32)) X51 hx (hb hby at_204) rfl rfl ?_
          refine Run.aload (pc' := 207) X51 hx (hb hby at_205) rfl rfl ?_
          refine Run.iconst (pc' := 208) (v := (4 : Int32)) X51 hx (hb hby at_207) rfl rfl ?_
          refine Run.baload (pc' := 209) X51 hx hZ e51 fq53 (by decide) (by decide) (hb hby at_208) rfl ?_
          refine Run.iconst (pc' := 210) (v := (4 : Int32)) X51 hx (hb hby at_209) rfl rfl ?_
          refine Run.iload (pc' := 212) X51 hx (hb hby at_210) rfl rfl ?_
          have J220 : ∀ (vv4 : Int32), vv4 = (if (4 : Int32) < sx then (1 : Int32) else (0 : Int32)) → ∀ (T_220 : State) (locs : List Loc), Stand p l e room_1 s m #[(.long q0), (.int p1), (.int p2)] below meth c T_220 locs 3 13 → T_220.heap = h51 → Fr n0 locs → Run p.tables e below (FinR s room_1.cells room_1.slots (Say (fun v h L => v = some (.int 1) ∧ Fr n0 L))) T_220 (mkF m 220 #[.val (.long q0), .second, .val (.int p1), .val (.int p2), .val (.ref b1), .val (.int sx), .val (.ref b18), .val (.ref b32), .unset, .unset, .unset, .unset, .unset, .unset, .unset, .unset, .unset, .unset, .unset, .unset, .unset, .unset, .unset, .unset, .unset] [(.int vv4), (.int (FB (4 : Int32))), (.int (4 : Int32)), (.ref b32)]) := by
            intro vv4 hv_vv4 T_220 locs X_220 e_220 N_220
            obtain ⟨T55, L55, v55, X55, Q55, st55⟩ := callStatic X_220 hx (y := (⟨"com/example/vez/vez/gateway/http/HeadEndFindPinLaw", "keep", "(BZ)B"⟩ : MethodName)) (Ls := #[.val (.long q0), .second, .val (.int p1), .val (.int p2), .val (.ref b1), .val (.int sx), .val (.ref b18), .val (.ref b32), .unset, .unset, .unset, .unset, .unset, .unset, .unset, .unset, .unset, .unset, .unset, .unset, .unset, .unset, .unset, .unset, .unset]) (rest := [(.int (4 : Int32)), (.ref b32)]) (W := 2) (argsL := [(.int (FB (4 : Int32))), (.int vv4)]) hZ hown (hw _ (List.mem_of_getElem? (i := 7) rfl)) (hw _ (List.mem_of_getElem? (i := 8) rfl)) (hw _ (List.mem_of_getElem? (i := 3) rfl)) (hw _ (List.mem_of_getElem? (i := 9) rfl)) (by decide) e_220 (rm_k l Z a0 hw [] (FB (4 : Int32)) vv4  h51 n0 Z51 ) (hb hby at_220) (lenOf own_pd3 rfl) (by decide) (by decide) (by rw [hml]; rfl) (Nat.le_of_eq rfl) (by decide) (by decide)
            obtain ⟨rfl, M55, e55⟩ := Q55
            have N55 := Fr.app N_220 M55
            refine Run.back (g' := (mkF m 223 #[.val (.long q0), .second, .val (.int p1), .val (.int p2), .val (.ref b1), .val (.int sx), .val (.ref b18), .val (.ref b32), .unset, .unset, .unset, .unset, .unset, .unset, .unset, .unset, .unset, .unset, .unset, .unset, .unset, .unset, .unset, .unset, .unset] [(.int (own_Fk (FB (4 : Int32)) vv4)), (.int (4 : Int32)), (.ref b32)])) st55 ?_
            obtain ⟨T56, h56, sl56, u56, X56, e56, W56, A56, st56⟩ := st_bastore X55 hx hZ e55 A51 (Ls := #[.val (.long q0), .second, .val (.int p1), .val (.int p2), .val (.ref b1), .val (.int sx), .val (.ref b18), .val (.ref b32), .unset, .unset, .unset, .unset, .unset, .unset, .unset, .unset, .unset, .unset, .unset, .unset, .unset, .unset, .unset, .unset, .unset]) (rest := []) (j := (4 : Int32)) (x := (own_Fk (FB (4 : Int32)) vv4)) (by decide) (by decide) (hb hby at_223)
            have N56 := Fr.snoc X56 N55 G32
            obtain ⟨f57, qf57⟩ : ∃ g : Int32 → Int32, g = fun i => if i = (4 : Int32) then (own_Fk (FB (4 : Int32)) vv4).toInt8.toInt32 else f52 i := ⟨_, rfl⟩
            replace A56 : Ints Z h56 b32 .byte (5 : Int32) f57 := by rw [qf57]; exact A56
            have fq58 := Ints.other W56 fq53 ne_b1_b32
            have fq59 := Ints.other W56 fq54 ne_b18_b32
            have Z56 : n0 ≤ h56.size := Nat.le_trans Z51 (Keep.of_wr W56).1
            refine Run.back (g' := (mkF m 224 #[.val (.long q0), .second, .val (.int p1), .val (.int p2), .val (.ref b1), .val (.int sx), .val (.ref b18), .val (.ref b32), .unset, .unset, .unset, .unset, .unset, .unset, .unset, .unset, .unset, .unset, .unset, .unset, .unset, .unset, .unset, .unset, .unset] [])) st56 ?_
            obtain ⟨FX, FX_eq⟩ : ∃ g, g = f57 := ⟨_, rfl⟩
            have fq60 : Ints Z h56 b32 .byte (5 : Int32) FX := by rw [FX_eq]; exact A56
            have fx0 : FX (0 : Int32) = (own_Fk (FB (0 : Int32)) vv0).toInt8.toInt32 := by rw [FX_eq, qf57, qf52, qf47, qf42, qf37]; rfl
            have fx1 : FX (1 : Int32) = (own_Fk (FB (1 : Int32)) vv1).toInt8.toInt32 := by rw [FX_eq, qf57, qf52, qf47, qf42, qf37]; rfl
            have fx2 : FX (2 : Int32) = (own_Fk (FB (2 : Int32)) vv2).toInt8.toInt32 := by rw [FX_eq, qf57, qf52, qf47, qf42, qf37]; rfl
            have fx3 : FX (3 : Int32) = (own_Fk (FB (3 : Int32)) vv3).toInt8.toInt32 := by rw [FX_eq, qf57, qf52, qf47, qf42, qf37]; rfl
            have fx4 : FX (4 : Int32) = (own_Fk (FB (4 : Int32)) vv4).toInt8.toInt32 := by rw [FX_eq, qf57, qf52, qf47, qf42, qf37]; rfl
            refine Run.iconst (pc' := 225) (v := (5 : Int32)) X56 hx (hb hby at_224) rfl rfl ?_
            obtain ⟨T61, h61, b61, X61, e61, E61, g61, A61, st61⟩ := st_newarray X56 hx hZ (hw _ (List.mem_of_getElem? (i := 0) rfl)) e56 (hb hby at_225) (Ls := #[.val (.long q0), .second, .val (.int p1), .val (.int p2), .val (.ref b1), .val (.int sx), .val (.ref b18), .val (.ref b32), .unset, .unset, .unset, .unset, .unset, .unset, .unset, .unset, .unset, .unset, .unset, .unset, .unset, .unset, .unset, .unset, .unset]) (rest := []) (n := (5 : Int32)) (by decide) (cap := 5) (by decide) (by decide) (by decide) (by decide) rfl
            replace A61 : Ints Z h61 b61 .byte (5 : Int32) (fun _ => 0) := A61
            have ne_b1_b61 : b1 ≠ b61 := Nat.ne_of_lt (Nat.lt_of_lt_of_le (fq58).lt (Nat.le_of_eq g61.symm))
            have ne_b18_b61 : b18 ≠ b61 := Nat.ne_of_lt (Nat.lt_of_lt_of_le (fq59).lt (Nat.le_of_eq g61.symm))
            have ne_b32_b61 : b32 ≠ b61 := Nat.ne_of_lt (Nat.lt_of_lt_of_le (fq60).lt (Nat.le_of_eq g61.symm))
            have G61 : n0 ≤ b61 := Nat.le_trans Z56 (Nat.le_of_eq g61.symm)
            have Z61 : n0 ≤ h61.size := Nat.le_trans Z56 E61.1
            have fq62 := Ints.ext E61 fq58
            have fq63 := Ints.ext E61 fq59
            have fq64 := Ints.ext E61 fq60
            refine Run.back (g' := (mkF m 227 #[.val (.long q0), .second, .val (.int p1), .val (.int p2), .val (.ref b1), .val (.int sx), .val (.ref b18), .val (.ref b32), .unset, .unset, .unset, .unset, .unset, .unset, .unset, .unset, .unset, .unset, .unset, .unset, .unset, .unset, .unset, .unset, .unset] [(.ref b61)])) st61 ?_
            refine Run.astore (pc' := 229) X61 hx (l' := #[.val (.long q0), .second, .val (.int p1), .val (.int p2), .val (.ref b1), .val (.int sx), .val (.ref b18), .val (.ref b32), .val (.ref b61), .unset, .unset, .unset, .unset, .unset, .unset, .unset, .unset, .unset, .unset, .unset, .unset, .unset, .unset, .unset, .unset]) (hb hby at_227) rfl rfl ?_
            refine Run.aload (pc' := 231) X61 hx (hb hby at_229) rfl rfl ?_
            refine Run.iconst (pc' := 232) (v := (0 : Int32)) X61 hx (hb hby at_231) rfl rfl ?_
            refine Run.aload (pc' := 234) X61 hx (hb hby at_232) rfl rfl ?_
            refine Run.iconst (pc' := 235) (v := (0 : Int32)) X61 hx (hb hby at_234) rfl rfl ?_
            refine Run.baload (pc' := 236) X61 hx hZ e61 fq62 (by decide) (by decide) (hb hby at_235) rfl ?_
            refine Run.iconst (pc' := 237) (v := (0 : Int32)) X61 hx (hb hby at_236) rfl rfl ?_
            refine Run.iload (pc' := 239) X61 hx (hb hby at_237) rfl rfl ?_
            have J247 : ∀ (ww0 : Int32), ww0 = (if (0 : Int32) < sx then (0 : Int32) else (1 : Int32)) → ∀ (T_247 : State) (locs : List Loc), Stand p l e room_1 s m #[(.long q0), (.int p1), (.int p2)] below meth c T_247 locs 4 18 → T_247.heap = h61 → Fr n0 locs → Run p.tables e below (FinR s room_1.cells room_1.slots (Say (fun v h L => v = some (.int 1) ∧ Fr n0 L))) T_247 (mkF m 247 #[.val (.long q0), .second, .val (.int p1), .val (.int p2), .val (.ref b1), .val (.int sx), .val (.ref b18), .val (.ref b32), .val (.ref b61), .unset, .unset, .unset, .unset, .unset, .unset, .unset, .unset, .unset, .unset, .unset, .unset, .unset, .unset, .unset, .unset] [(.int ww0), (.int (FB (0 : Int32))), (.int (0 : Int32)), (.ref b61)]) := by
              intro ww0 hv_ww0 T_247 locs X_247 e_247 N_247
              obtain ⟨T65, L65, v65, X65, Q65, st65⟩ := callStatic X_247 hx (y := (⟨"com/example/vez/vez/gateway/http/HeadEndFindPinLaw", "keep", "(BZ)B"⟩ : MethodName)) (Ls := #[.val (.long q0), .second, .val (.int p1), .val (.int p2), .val (.ref b1), .val (.int sx), .val (.ref b18), .val (.ref b32), .val (.ref b61), .unset, .unset, .unset, .unset, .unset, .unset, .unset, .unset, .unset, .unset, .unset, .unset, .unset, .unset, .unset, .unset]) (rest := [(.int (0 : Int32)), (.ref b61)]) (W := 2) (argsL := [(.int (FB (0 : Int32))), (.int ww0)]) hZ hown (hw _ (List.mem_of_getElem? (i := 7) rfl)) (hw _ (List.mem_of_getElem? (i := 8) rfl)) (hw _ (List.mem_of_getElem? (i := 3) rfl)) (hw _ (List.mem_of_getElem? (i := 9) rfl)) (by decide) e_247 (rm_k l Z a0 hw [] (FB (0 : Int32)) ww0  h61 n0 Z61 ) (hb hby at_247) (lenOf own_pd3 rfl) (by decide) (by decide) (by rw [hml]; rfl) (Nat.le_of_eq rfl) (by decide) (by decide)
              obtain ⟨rfl, M65, e65⟩ := Q65
              have N65 := Fr.app N_247 M65
              refine Run.back (g' := (mkF m 250 #[.val (.long q0), .second, .val (.int p1), .val (.int p2), .val (.ref b1), .val (.int sx), .val (.ref b18), .val (.ref b32), .val (.ref b61), .unset, .unset, .unset, .unset, .unset, .unset, .unset, .unset, .unset, .unset, .unset, .unset, .unset, .unset, .unset, .unset] [(.int (own_Fk (FB (0 : Int32)) ww0)), (.int (0 : Int32)), (.ref b61)])) st65 ?_
              obtain ⟨T66, h66, sl66, u66, X66, e66, W66, A66, st66⟩ := st_bastore X65 hx hZ e65 A61 (Ls := #[.val (.long q0), .second, .val (.int p1), .val (.int p2), .val (.ref b1), .val (.int sx), .val (.ref b18), .val (.ref b32), .val (.ref b61), .unset, .unset, .unset, .unset, .unset, .unset, .unset, .unset, .unset, .unset, .unset, .unset, .unset, .unset, .unset, .unset]) (rest := []) (j := (0 : Int32)) (x := (own_Fk (FB (0 : Int32)) ww0)) (by decide) (by decide) (hb hby at_250)
              have N66 := Fr.snoc X66 N65 G61
              obtain ⟨f67, qf67⟩ : ∃ g : Int32 → Int32, g = fun i => if i = (0 : Int32) then (own_Fk (FB (0 : Int32)) ww0).toInt8.toInt32 else (fun _ => (0 : Int32)) i := ⟨_, rfl⟩
              replace A66 : Ints Z h66 b61 .byte (5 : Int32) f67 := by rw [qf67]; exact A66
              have fq68 := Ints.other W66 fq62 ne_b1_b61
              have fq69 := Ints.other W66 fq63 ne_b18_b61
              have fq70 := Ints.other W66 fq64 ne_b32_b61
              have Z66 : n0 ≤ h66.size := Nat.le_trans Z61 (Keep.of_wr W66).1
              refine Run.back (g' := (mkF m 251 #[.val (.long q0), .second, .val (.int p1), .val (.int p2), .val (.ref b1), .val (.int sx), .val (.ref b18), .val (.ref b32), .val (.ref b61), .unset, .unset, .unset, .unset, .unset, .unset, .unset, .unset, .unset, .unset, .unset, .unset, .unset, .unset, .unset, .unset] [])) st66 ?_
              refine Run.aload (pc' := 253) X66 hx (hb hby at_251) rfl rfl ?_
              refine Run.iconst (pc' := 254) (v := (1 : Int32)) X66 hx (hb hby at_253) rfl rfl ?_
              refine Run.aload (pc' := 256) X66 hx (hb hby at_254) rfl rfl ?_
              refine Run.iconst (pc' := 257) (v := (1 : Int32)) X66 hx (hb hby at_256) rfl rfl ?_
              refine Run.baload (pc' := 258) X66 hx hZ e66 fq68 (by decide) (by decide) (hb hby at_257) rfl ?_
              refine Run.iconst (pc' := 259) (v := (1 : Int32)) X66 hx (hb hby at_258) rfl rfl ?_
              refine Run.iload (pc' := 261) X66 hx (hb hby at_259) rfl rfl ?_
              have J269 : ∀ (ww1 : Int32), ww1 = (if (1 : Int32) < sx then (0 : Int32) else (1 : Int32)) → ∀ (T_269 : State) (locs : List Loc), Stand p l e room_1 s m #[(.long q0), (.int p1), (.int p2)] below meth c T_269 locs 4 18 → T_269.heap = h66 → Fr n0 locs → Run p.tables e below (FinR s room_1.cells room_1.slots (Say (fun v h L => v = some (.int 1) ∧ Fr n0 L))) T_269 (mkF m 269 #[.val (.long q0), .second, .val (.int p1), .val (.int p2), .val (.ref b1), .val (.int sx), .val (.ref b18), .val (.ref b32), .val (.ref b61), .unset, .unset, .unset, .unset, .unset, .unset, .unset, .unset, .unset, .unset, .unset, .unset, .unset, .unset, .unset, .unset] [(.int ww1), (.int (FB (1 : Int32))), (.int (1 : Int32)), (.ref b61)]) := by
                intro ww1 hv_ww1 T_269 locs X_269 e_269 N_269
                obtain ⟨T71, L71, v71, X71, Q71, st71⟩ := callStatic X_269 hx (y := (⟨"com/example/vez/vez/gateway/http/HeadEndFindPinLaw", "keep", "(BZ)B"⟩ : MethodName)) (Ls := #[.val (.long q0), .second, .val (.int p1), .val (.int p2), .val (.ref b1), .val (.int sx), .val (.ref b18), .val (.ref b32), .val (.ref b61), .unset, .unset, .unset, .unset, .unset, .unset, .unset, .unset, .unset, .unset, .unset, .unset, .unset, .unset, .unset, .unset]) (rest := [(.int (1 : Int32)), (.ref b61)]) (W := 2) (argsL := [(.int (FB (1 : Int32))), (.int ww1)]) hZ hown (hw _ (List.mem_of_getElem? (i := 7) rfl)) (hw _ (List.mem_of_getElem? (i := 8) rfl)) (hw _ (List.mem_of_getElem? (i := 3) rfl)) (hw _ (List.mem_of_getElem? (i := 9) rfl)) (by decide) e_269 (rm_k l Z a0 hw [] (FB (1 : Int32)) ww1  h66 n0 Z66 ) (hb hby at_269) (lenOf own_pd3 rfl) (by decide) (by decide) (by rw [hml]; rfl) (Nat.le_of_eq rfl) (by decide) (by decide)
                obtain ⟨rfl, M71, e71⟩ := Q71
                have N71 := Fr.app N_269 M71
                refine Run.back (g' := (mkF m 272 #[.val (.long q0), .second, .val (.int p1), .val (.int p2), .val (.ref b1), .val (.int sx), .val (.ref b18), .val (.ref b32), .val (.ref b61), .unset, .unset, .unset, .unset, .unset, .unset, .unset, .unset, .unset, .unset, .unset, .unset, .unset, .unset, .unset, .unset] [(.int (own_Fk (FB (1 : Int32)) ww1)), (.int (1 : Int32)), (.ref b61)])) st71 ?_
                obtain ⟨T72, h72, sl72, u72, X72, e72, W72, A72, st72⟩ := st_bastore X71 hx hZ e71 A66 (Ls := #[.val (.long q0), .second, .val (.int p1), .val (.int p2), .val (.ref b1), .val (.int sx), .val (.ref b18), .val (.ref b32), .val (.ref b61), .unset, .unset, .unset, .unset, .unset, .unset, .unset, .unset, .unset, .unset, .unset, .unset, .unset, .unset, .unset, .unset]) (rest := []) (j := (1 : Int32)) (x := (own_Fk (FB (1 : Int32)) ww1)) (by decide) (by decide) (hb hby at_272)
                have N72 := Fr.snoc X72 N71 G61
                obtain ⟨f73, qf73⟩ : ∃ g : Int32 → Int32, g = fun i => if i = (1 : Int32) then (own_Fk (FB (1 : Int32)) ww1).toInt8.toInt32 else f67 i := ⟨_, rfl⟩
                replace A72 : Ints Z h72 b61 .byte (5 : Int32) f73 := by rw [qf73]; exact A72
                have fq74 := Ints.other W72 fq68 ne_b1_b61
                have fq75 := Ints.other W72 fq69 ne_b18_b61
                have fq76 := Ints.other W72 fq70 ne_b32_b61
                have Z72 : n0 ≤ h72.size := Nat.le_trans Z66 (Keep.of_wr W72).1
                refine Run.back (g' := (mkF m 273 #[.val (.long q0), .second, .val (.int p1), .val (.int p2), .val (.ref b1), .val (.int sx), .val (.ref b18), .val (.ref b32), .val (.ref b61), .unset, .unset, .unset, .unset, .unset, .unset, .unset, .unset, .unset, .unset, .unset, .unset, .unset, .unset, .unset, .unset] [])) st72 ?_
                refine Run.aload (pc' := 275) X72 hx (hb hby at_273) rfl rfl ?_
                refine Run.iconst (pc' := 276) (v := (2 : Int32)) X72 hx (hb hby at_275) rfl rfl ?_
                refine Run.aload (pc' := 278) X72 hx (hb hby at_276) rfl rfl ?_
                refine Run.iconst (pc' := 279) (v := (2 : Int32)) X72 hx (hb hby at_278) rfl rfl ?_
                refine Run.baload (pc' := 280) X72 hx hZ e72 fq74 (by decide) (by decide) (hb hby at_279) rfl ?_
                refine Run.iconst (pc' := 281) (v := (2 : Int32)) X72 hx (hb hby at_280) rfl rfl ?_
                refine Run.iload (pc' := 283) X72 hx (hb hby at_281) rfl rfl ?_
                have J291 : ∀ (ww2 : Int32), ww2 = (if (2 : Int32) < sx then (0 : Int32) else (1 : Int32)) → ∀ (T_291 : State) (locs : List Loc), Stand p l e room_1 s m #[(.long q0), (.int p1), (.int p2)] below meth c T_291 locs 4 18 → T_291.heap = h72 → Fr n0 locs → Run p.tables e below (FinR s room_1.cells room_1.slots (Say (fun v h L => v = some (.int 1) ∧ Fr n0 L))) T_291 (mkF m 291 #[.val (.long q0), .second, .val (.int p1), .val (.int p2), .val (.ref b1), .val (.int sx), .val (.ref b18), .val (.ref b32), .val (.ref b61), .unset, .unset, .unset, .unset, .unset, .unset, .unset, .unset, .unset, .unset, .unset, .unset, .unset, .unset, .unset, .unset] [(.int ww2), (.int (FB (2 : Int32))), (.int (2 : Int32)), (.ref b61)]) := by
                  intro ww2 hv_ww2 T_291 locs X_291 e_291 N_291
                  obtain ⟨T77, L77, v77, X77, Q77, st77⟩ := callStatic X_291 hx (y := (⟨"com/example/vez/vez/gateway/http/HeadEndFindPinLaw", "keep", "(BZ)B"⟩ : MethodName)) (Ls := #[.val (.long q0), .second, .val (.int p1), .val (.int p2), .val (.ref b1), .val (.int sx), .val (.ref b18), .val (.ref b32), .val (.ref b61), .unset, .unset, .unset, .unset, .unset, .unset, .unset, .unset, .unset, .unset, .unset, .unset, .unset, .unset, .unset, .unset]) (rest := [(.int (2 : Int32)), (.ref b61)]) (W := 2) (argsL := [(.int (FB (2 : Int32))), (.int ww2)]) hZ hown (hw _ (List.mem_of_getElem? (i := 7) rfl)) (hw _ (List.mem_of_getElem? (i := 8) rfl)) (hw _ (List.mem_of_getElem? (i := 3) rfl)) (hw _ (List.mem_of_getElem? (i := 9) rfl)) (by decide) e_291 (rm_k l Z a0 hw [] (FB (2 : Int32)) ww2  h72 n0 Z72 ) (hb hby at_291) (lenOf own_pd3 rfl) (by decide) (by decide) (by rw [hml]; rfl) (Nat.le_of_eq rfl) (by decide) (by decide)
                  obtain ⟨rfl, M77, e77⟩ := Q77
                  have N77 := Fr.app N_291 M77
                  refine Run.back (g' := (mkF m 294 #[.val (.long q0), .second, .val (.int p1), .val (.int p2), .val (.ref b1), .val (.int sx), .val (.ref b18), .val (.ref b32), .val (.ref b61), .unset, .unset, .unset, .unset, .unset, .unset, .unset, .unset, .unset, .unset, .unset, .unset, .unset, .unset, .unset, .unset] [(.int (own_Fk (FB (2 : Int32)) ww2)), (.int (2 : Int32)), (.ref b61)])) st77 ?_
                  obtain ⟨T78, h78, sl78, u78, X78, e78, W78, A78, st78⟩ := st_bastore X77 hx hZ e77 A72 (Ls := #[.val (.long q0), .second, .val (.int p1), .val (.int p2), .val (.ref b1), .val (.int sx), .val (.ref b18), .val (.ref b32), .val (.ref b61), .unset, .unset, .unset, .unset, .unset, .unset, .unset, .unset, .unset, .unset, .unset, .unset, .unset, .unset, .unset, .unset]) (rest := []) (j := (2 : Int32)) (x := (own_Fk (FB (2 : Int32)) ww2)) (by decide) (by decide) (hb hby at_294)
                  have N78 := Fr.snoc X78 N77 G61
                  obtain ⟨f79, qf79⟩ : ∃ g : Int32 → Int32, g = fun i => if i = (2 : Int32) then (own_Fk (FB (2 : Int32)) ww2).toInt8.toInt32 else f73 i := ⟨_, rfl⟩
                  replace A78 : Ints Z h78 b61 .byte (5 : Int32) f79 := by rw [qf79]; exact A78
                  have fq80 := Ints.other W78 fq74 ne_b1_b61
                  have fq81 := Ints.other W78 fq75 ne_b18_b61
                  have fq82 := Ints.other W78 fq76 ne_b32_b61
                  have Z78 : n0 ≤ h78.size := Nat.le_trans Z72 (Keep.of_wr W78).1
                  refine Run.back (g' := (mkF m 295 #[.val (.long q0), .second, .val (.int p1), .val (.int p2), .val (.ref b1), .val (.int sx), .val (.ref b18), .val (.ref b32), .val (.ref b61), .unset, .unset, .unset, .unset, .unset, .unset, .unset, .unset, .unset, .unset, .unset, .unset, .unset, .unset, .unset, .unset] [])) st78 ?_
                  refine Run.aload (pc' := 297) X78 hx (hb hby at_295) rfl rfl ?_
                  refine Run.iconst (pc' := 298) (v := (3 : Int32)) X78 hx (hb hby at_297) rfl rfl ?_
                  refine Run.aload (pc' := 300) X78 hx (hb hby at_298) rfl rfl ?_
                  refine Run.iconst (pc' := 301) (v := (3 : Int32)) X78 hx (hb hby at_300) rfl rfl ?_
                  refine Run.baload (pc' := 302) X78 hx hZ e78 fq80 (by decide) (by decide) (hb hby at_301) rfl ?_
                  refine Run.iconst (pc' := 303) (v := (3 : Int32)) X78 hx (hb hby at_302) rfl rfl ?_
                  refine Run.iload (pc' := 305) X78 hx (hb hby at_303) rfl rfl ?_
                  have J313 : ∀ (ww3 : Int32), ww3 = (if (3 : Int32) < sx then (0 : Int32) else (1 : Int32)) → ∀ (T_313 : State) (locs : List Loc), Stand p l e room_1 s m #[(.long q0), (.int p1), (.int p2)] below meth c T_313 locs 4 18 → T_313.heap = h78 → Fr n0 locs → Run p.tables e below (FinR s room_1.cells room_1.slots (Say (fun v h L => v = some (.int 1) ∧ Fr n0 L))) T_313 (mkF m 313 #[.val (.long q0), .second, .val (.int p1), .val (.int p2), .val (.ref b1), .val (.int sx), .val (.ref b18), .val (.ref b32), .val (.ref b61), .unset, .unset, .unset, .unset, .unset, .unset, .unset, .unset, .unset, .unset, .unset, .unset, .unset, .unset, .unset, .unset] [(.int ww3), (.int (FB (3 : Int32))), (.int (3 : Int32)), (.ref b61)]) := by
                    intro ww3 hv_ww3 T_313 locs X_313 e_313 N_313
                    obtain ⟨T83, L83, v83, X83, Q83, st83⟩ := callStatic X_313 hx (y := (⟨"com/example/vez/vez/gateway/http/HeadEndFindPinLaw", "keep", "(BZ)B"⟩ : MethodName)) (Ls := #[.val (.long q0), .second, .val (.int p1), .val (.int p2), .val (.ref b1), .val (.int sx), .val (.ref b18), .val (.ref b32), .val (.ref b61), .unset, .unset, .unset, .unset, .unset, .unset, .unset, .unset, .unset, .unset, .unset, .unset, .unset, .unset, .unset, .unset]) (rest := [(.int (3 : Int32)), (.ref b61)]) (W := 2) (argsL := [(.int (FB (3 : Int32))), (.int ww3)]) hZ hown (hw _ (List.mem_of_getElem? (i := 7) rfl)) (hw _ (List.mem_of_getElem? (i := 8) rfl)) (hw _ (List.mem_of_getElem? (i := 3) rfl)) (hw _ (List.mem_of_getElem? (i := 9) rfl)) (by decide) e_313 (rm_k l Z a0 hw [] (FB (3 : Int32)) ww3  h78 n0 Z78 ) (hb hby at_313) (lenOf own_pd3 rfl) (by decide) (by decide) (by rw [hml]; rfl) (Nat.le_of_eq rfl) (by decide) (by decide)
                    obtain ⟨rfl, M83, e83⟩ := Q83
                    have N83 := Fr.app N_313 M83
                    refine Run.back (g' := (mkF m 316 #[.val (.long q0), .second, .val (.int p1), .val (.int p2), .val (.ref b1), .val (.int sx), .val (.ref b18), .val (.ref b32), .val (.ref b61), .unset, .unset, .unset, .unset, .unset, .unset, .unset, .unset, .unset, .unset, .unset, .unset, .unset, .unset, .unset, .unset] [(.int (own_Fk (FB (3 : Int32)) ww3)), (.int (3 : Int32)), (.ref b61)])) st83 ?_
                    obtain ⟨T84, h84, sl84, u84, X84, e84, W84, A84, st84⟩ := st_bastore X83 hx hZ e83 A78 (Ls := #[.val (.long q0), .second, .val (.int p1), .val (.int p2), .val (.ref b1), .val (.int sx), .val (.ref b18), .val (.ref b32), .val (.ref b61), .unset, .unset, .unset, .unset, .unset, .unset, .unset, .unset, .unset, .unset, .unset, .unset, .unset, .unset, .unset, .unset]) (rest := []) (j := (3 : Int32)) (x := (own_Fk (FB (3 : Int32)) ww3)) (by decide) (by decide) (hb hby at_316)
                    have N84 := Fr.snoc X84 N83 G61
                    obtain ⟨f85, qf85⟩ : ∃ g : Int32 → Int32, g = fun i => if i = (3 : Int32) then (own_Fk (FB (3 : Int32)) ww3).toInt8.toInt32 else f79 i := ⟨_, rfl⟩
                    replace A84 : Ints Z h84 b61 .byte (5 : Int32) f85 := by rw [qf85]; exact A84
                    have fq86 := Ints.other W84 fq80 ne_b1_b61
                    have fq87 := Ints.other W84 fq81 ne_b18_b61
                    have fq88 := Ints.other W84 fq82 ne_b32_b61
                    have Z84 : n0 ≤ h84.size := Nat.le_trans Z78 (Keep.of_wr W84).1
                    refine Run.back (g' := (mkF m 317 #[.val (.long q0), .second, .val (.int p1), .val (.int p2), .val (.ref b1), .val (.int sx), .val (.ref b18), .val (.ref b32), .val (.ref b61), .unset, .unset, .unset, .unset, .unset, .unset, .unset, .unset, .unset, .unset, .unset, .unset, .unset, .unset, .unset, .unset] [])) st84 ?_
                    refine Run.aload (pc' := 319) X84 hx (hb hby at_317) rfl rfl ?_
                    refine Run.iconst (pc' := 320) (v := (4 : Int32)) X84 hx (hb hby at_319) rfl rfl ?_
                    refine Run.aload (pc' := 322) X84 hx (hb hby at_320) rfl rfl ?_
                    refine Run.iconst (pc' := 323) (v := (4 : Int32)) X84 hx (hb hby at_322) rfl rfl ?_
                    refine Run.baload (pc' := 324) X84 hx hZ e84 fq86 (by decide) (by decide) (hb hby at_323) rfl ?_
                    refine Run.iconst (pc' := 325) (v := (4 : Int32)) X84 hx (hb hby at_324) rfl rfl ?_
                    refine Run.iload (pc' := 327) X84 hx (hb hby at_325) rfl rfl ?_
                    have J335 : ∀ (ww4 : Int32), ww4 = (if (4 : Int32) < sx then (0 : Int32) else (1 : Int32)) → ∀ (T_335 : State) (locs : List Loc), Stand p l e room_1 s m #[(.long q0), (.int p1), (.int p2)] below meth c T_335 locs 4 18 → T_335.heap = h84 → Fr n0 locs → Run p.tables e below (FinR s room_1.cells room_1.slots (Say (fun v h L => v = some (.int 1) ∧ Fr n0 L))) T_335 (mkF m 335 #[.val (.long q0), .second, .val (.int p1), .val (.int p2), .val (.ref b1), .val (.int sx), .val (.ref b18), .val (.ref b32), .val (.ref b61), .unset, .unset, .unset, .unset, .unset, .unset, .unset, .unset, .unset, .unset, .unset, .unset, .unset, .unset, .unset, .unset] [(.int ww4), (.int (FB (4 : Int32))), (.int (4 : Int32)), (.ref b61)]) := by
                      intro ww4 hv_ww4 T_335 locs X_335 e_335 N_335
                      obtain ⟨T89, L89, v89, X89, Q89, st89⟩ := callStatic X_335 hx (y := (⟨"com/example/vez/vez/gateway/http/HeadEndFindPinLaw", "keep", "(BZ)B"⟩ : MethodName)) (Ls := #[.val (.long q0), .second, .val (.int p1), .val (.int p2), .val (.ref b1), .val (.int sx), .val (.ref b18), .val (.ref b32), .val (.ref b61), .unset, .unset, .unset, .unset, .unset, .unset, .unset, .unset, .unset, .unset, .unset, .unset, .unset, .unset, .unset, .unset]) (rest := [(.int (4 : Int32)), (.ref b61)]) (W := 2) (argsL := [(.int (FB (4 : Int32))), (.int ww4)]) hZ hown (hw _ (List.mem_of_getElem? (i := 7) rfl)) (hw _ (List.mem_of_getElem? (i := 8) rfl)) (hw _ (List.mem_of_getElem? (i := 3) rfl)) (hw _ (List.mem_of_getElem? (i := 9) rfl)) (by decide) e_335 (rm_k l Z a0 hw [] (FB (4 : Int32)) ww4  h84 n0 Z84 ) (hb hby at_335) (lenOf own_pd3 rfl) (by decide) (by decide) (by rw [hml]; rfl) (Nat.le_of_eq rfl) (by decide) (by decide)
                      obtain ⟨rfl, M89, e89⟩ := Q89
                      have N89 := Fr.app N_335 M89
                      refine Run.back (g' := (mkF m 338 #[.val (.long q0), .second, .val (.int p1), .val (.int p2), .val (.ref b1), .val (.int sx), .val (.ref b18), .val (.ref b32), .val (.ref b61), .unset, .unset, .unset, .unset, .unset, .unset, .unset, .unset, .unset, .unset, .unset, .unset, .unset, .unset, .unset, .unset] [(.int (own_Fk (FB (4 : Int32)) ww4)), (.int (4 : Int32)), (.ref b61)])) st89 ?_
                      obtain ⟨T90, h90, sl90, u90, X90, e90, W90, A90, st90⟩ := st_bastore X89 hx hZ e89 A84 (Ls := #[.val (.long q0), .second, .val (.int p1), .val (.int p2), .val (.ref b1), .val (.int sx), .val (.ref b18), .val (.ref b32), .val (.ref b61), .unset, .unset, .unset, .unset, .unset, .unset, .unset, .unset, .unset, .unset, .unset, .unset, .unset, .unset, .unset, .unset]) (rest := []) (j := (4 : Int32)) (x := (own_Fk (FB (4 : Int32)) ww4)) (by decide) (by decide) (hb hby at_338)
                      have N90 := Fr.snoc X90 N89 G61
                      obtain ⟨f91, qf91⟩ : ∃ g : Int32 → Int32, g = fun i => if i = (4 : Int32) then (own_Fk (FB (4 : Int32)) ww4).toInt8.toInt32 else f85 i := ⟨_, rfl⟩
                      replace A90 : Ints Z h90 b61 .byte (5 : Int32) f91 := by rw [qf91]; exact A90
                      have fq92 := Ints.other W90 fq86 ne_b1_b61
                      have fq93 := Ints.other W90 fq87 ne_b18_b61
                      have fq94 := Ints.other W90 fq88 ne_b32_b61
                      have Z90 : n0 ≤ h90.size := Nat.le_trans Z84 (Keep.of_wr W90).1
                      refine Run.back (g' := (mkF m 339 #[.val (.long q0), .second, .val (.int p1), .val (.int p2), .val (.ref b1), .val (.int sx), .val (.ref b18), .val (.ref b32), .val (.ref b61), .unset, .unset, .unset, .unset, .unset, .unset, .unset, .unset, .unset, .unset, .unset, .unset, .unset, .unset, .unset, .unset] [])) st90 ?_
                      obtain ⟨FY, FY_eq⟩ : ∃ g, g = f91 := ⟨_, rfl⟩
                      have fq95 : Ints Z h90 b61 .byte (5 : Int32) FY := by rw [FY_eq]; exact A90
                      have fy0 : FY (0 : Int32) = (own_Fk (FB (0 : Int32)) ww0).toInt8.toInt32 := by rw [FY_eq, qf91, qf85, qf79, qf73, qf67]; rfl
                      have fy1 : FY (1 : Int32) = (own_Fk (FB (1 : Int32)) ww1).toInt8.toInt32 := by rw [FY_eq, qf91, qf85, qf79, qf73, qf67]; rfl
                      have fy2 : FY (2 : Int32) = (own_Fk (FB (2 : Int32)) ww2).toInt8.toInt32 := by rw [FY_eq, qf91, qf85, qf79, qf73, qf67]; rfl
                      have fy3 : FY (3 : Int32) = (own_Fk (FB (3 : Int32)) ww3).toInt8.toInt32 := by rw [FY_eq, qf91, qf85, qf79, qf73, qf67]; rfl
                      have fy4 : FY (4 : Int32) = (own_Fk (FB (4 : Int32)) ww4).toInt8.toInt32 := by rw [FY_eq, qf91, qf85, qf79, qf73, qf67]; rfl
                      refine Run.aload (pc' := 341) X90 hx (hb hby at_339) rfl rfl ?_
                      refine Run.iconst (pc' := 342) (v := (0 : Int32)) X90 hx (hb hby at_341) rfl rfl ?_
                      obtain ⟨T96, L96, v96, X96, Q96, st96⟩ := callStatic X90 hx (y := (⟨"com/example/vez/vez/gateway/http/HeadEndFindPinLaw", "ne", "([BI)Z"⟩ : MethodName)) (Ls := #[.val (.long q0), .second, .val (.int p1), .val (.int p2), .val (.ref b1), .val (.int sx), .val (.ref b18), .val (.ref b32), .val (.ref b61), .unset, .unset, .unset, .unset, .unset, .unset, .unset, .unset, .unset, .unset, .unset, .unset, .unset, .unset, .unset, .unset]) (rest := []) (W := 0) (argsL := [(.ref b1), (.int (0 : Int32))]) hZ hown (hw _ (List.mem_of_getElem? (i := 13) rfl)) (hw _ (List.mem_of_getElem? (i := 14) rfl)) (hw _ (List.mem_of_getElem? (i := 3) rfl)) (hw _ (List.mem_of_getElem? (i := 15) rfl)) (by decide) e90 (rm_n l Z a0 hw [] b1 (0 : Int32) FB h90 n0 Z90 fq92 (by decide) (by decide)) (hb hby at_342) (lenOf own_pd1 rfl) (by decide) (by decide) (by rw [hml]; rfl) (Nat.le_of_eq rfl) (by decide) (by decide)
                      obtain ⟨rfl, M96, e96⟩ := Q96
                      have N96 := Fr.app N90 M96
                      refine Run.back (g' := (mkF m 345 #[.val (.long q0), .second, .val (.int p1), .val (.int p2), .val (.ref b1), .val (.int sx), .val (.ref b18), .val (.ref b32), .val (.ref b61), .unset, .unset, .unset, .unset, .unset, .unset, .unset, .unset, .unset, .unset, .unset, .unset, .unset, .unset, .unset, .unset] [(.int (own_Fn b1 (0 : Int32) FB))])) st96 ?_
                      refine Run.istore (pc' := 347) X96 hx (l' := #[.val (.long q0), .second, .val (.int p1), .val (.int p2), .val (.ref b1), .val (.int sx), .val (.ref b18), .val (.ref b32), .val (.ref b61), .val (.int (own_Fn b1 (0 : Int32) FB)), .unset, .unset, .unset, .unset, .unset, .unset, .unset, .unset, .unset, .unset, .unset, .unset, .unset, .unset, .unset]) (hb hby at_345) rfl rfl ?_
                      refine Run.iload (pc' := 349) X96 hx (hb hby at_347) rfl rfl ?_
                      have J366 : ∀ (gv2 : Int32), gv2 = (if (own_Fn b1 (0 : Int32) FB) = (0 : Int32) then (if (own_Fn b1 (1 : Int32) FB) = (0 : Int32) then (0 : Int32) else (1 : Int32)) else (1 : Int32)) → ∀ (T_366 : State) (locs : List Loc), Stand p l e room_1 s m #[(.long q0), (.int p1), (.int p2)] below meth c T_366 locs 4 18 → T_366.heap = h90 → Fr n0 locs → Run p.tables e below (FinR s room_1.cells room_1.slots (Say (fun v h L => v = some (.int 1) ∧ Fr n0 L))) T_366 (mkF m 366 #[.val (.long q0), .second, .val (.int p1), .val (.int p2), .val (.ref b1), .val (.int sx), .val (.ref b18), .val (.ref b32), .val (.ref b61), .val (.int (own_Fn b1 (0 : Int32) FB)), .unset, .unset, .unset, .unset, .unset, .unset, .unset, .unset, .unset, .unset, .unset, .unset, .unset, .unset, .unset] [(.int gv2)]) := by
                        intro gv2 hv_gv2 T_366 locs X_366 e_366 N_366
                        refine Run.istore (pc' := 368) X_366 hx (l' := #[.val (.long q0), .second, .val (.int p1), .val (.int p2), .val (.ref b1), .val (.int sx), .val (.ref b18), .val (.ref b32), .val (.ref b61), .val (.int (own_Fn b1 (0 : Int32) FB)), .val (.int gv2), .unset, .unset, .unset, .unset, .unset, .unset, .unset, .unset, .unset, .unset, .unset, .unset, .unset, .unset]) (hb hby at_366) rfl rfl ?_
                        refine Run.iload (pc' := 370) X_366 hx (hb hby at_368) rfl rfl ?_
                        have J387 : ∀ (gv3 : Int32), gv3 = (if gv2 = (0 : Int32) then (if (own_Fn b1 (2 : Int32) FB) = (0 : Int32) then (0 : Int32) else (1 : Int32)) else (1 : Int32)) → ∀ (T_387 : State) (locs : List Loc), Stand p l e room_1 s m #[(.long q0), (.int p1), (.int p2)] below meth c T_387 locs 4 18 → T_387.heap = h90 → Fr n0 locs → Run p.tables e below (FinR s room_1.cells room_1.slots (Say (fun v h L => v = some (.int 1) ∧ Fr n0 L))) T_387 (mkF m 387 #[.val (.long q0), .second, .val (.int p1), .val (.int p2), .val (.ref b1), .val (.int sx), .val (.ref b18), .val (.ref b32), .val (.ref b61), .val (.int (own_Fn b1 (0 : Int32) FB)), .val (.int gv2), .unset, .unset, .unset, .unset, .unset, .unset, .unset, .unset, .unset, .unset, .unset, .unset, .unset, .unset] [(.int gv3)]) := by
                          intro gv3 hv_gv3 T_387 locs X_387 e_387 N_387
                          refine Run.istore (pc' := 389) X_387 hx (l' := #[.val (.long q0), .second, .val (.int p1), .val (.int p2), .val (.ref b1), .val (.int sx), .val (.ref b18), .val (.ref b32), .val (.ref b61), .val (.int (own_Fn b1 (0 : Int32) FB)), .val (.int gv2), .val (.int gv3), .unset, .unset, .unset, .unset, .unset, .unset, .unset, .unset, .unset, .unset, .unset, .unset, .unset]) (hb hby at_387) rfl rfl ?_
                          refine Run.iload (pc' := 391) X_387 hx (hb hby at_389) rfl rfl ?_
                          have J408 : ∀ (gv4 : Int32), gv4 = (if gv3 = (0 : Int32) then (if (own_Fn b1 (3 : Int32) FB) = (0 : Int32) then (0 : Int32) else (1 : Int32)) else (1 : Int32)) → ∀ (T_408 : State) (locs : List Loc), Stand p l e room_1 s m #[(.long q0), (.int p1), (.int p2)] below meth c T_408 locs 4 18 → T_408.heap = h90 → Fr n0 locs → Run p.tables e below (FinR s room_1.cells room_1.slots (Say (fun v h L => v = some (.int 1) ∧ Fr n0 L))) T_408 (mkF m 408 #[.val (.long q0), .second, .val (.int p1), .val (.int p2), .val (.ref b1), .val (.int sx), .val (.ref b18), .val (.ref b32), .val (.ref b61), .val (.int (own_Fn b1 (0 : Int32) FB)), .val (.int gv2), .val (.int gv3), .unset, .unset, .unset, .unset, .unset, .unset, .unset, .unset, .unset, .unset, .unset, .unset, .unset] [(.int gv4)]) := by
                            intro gv4 hv_gv4 T_408 locs X_408 e_408 N_408
                            refine Run.istore (pc' := 410) X_408 hx (l' := #[.val (.long q0), .second, .val (.int p1), .val (.int p2), .val (.ref b1), .val (.int sx), .val (.ref b18), .val (.ref b32), .val (.ref b61), .val (.int (own_Fn b1 (0 : Int32) FB)), .val (.int gv2), .val (.int gv3), .val (.int gv4), .unset, .unset, .unset, .unset, .unset, .unset, .unset, .unset, .unset, .unset, .unset, .unset]) (hb hby at_408) rfl rfl ?_
                            refine Run.iconst (pc' := 411) (v := (-1 : Int32)) X_408 hx (hb hby at_410) rfl rfl ?_
                            refine Run.istore (pc' := 413) X_408 hx (l' := #[.val (.long q0), .second, .val (.int p1), .val (.int p2), .val (.ref b1), .val (.int sx), .val (.ref b18), .val (.ref b32), .val (.ref b61), .val (.int (own_Fn b1 (0 : Int32) FB)), .val (.int gv2), .val (.int gv3), .val (.int gv4), .val (.int (-1 : Int32)), .unset, .unset, .unset, .unset, .unset, .unset, .unset, .unset, .unset, .unset, .unset]) (hb hby at_411) rfl rfl ?_
                            refine Run.iload (pc' := 415) X_408 hx (hb hby at_413) rfl rfl ?_
                            have J430 : ∀ (ev4 : Int32), ev4 = (if gv4 = (0 : Int32) then (-1 : Int32) else (if (own_Fm b1 (4 : Int32) FB) = (0 : Int32) then (-1 : Int32) else (4 : Int32))) → ∀ (T_430 : State) (locs : List Loc), Stand p l e room_1 s m #[(.long q0), (.int p1), (.int p2)] below meth c T_430 locs 4 18 → T_430.heap = h90 → Fr n0 locs → Run p.tables e below (FinR s room_1.cells room_1.slots (Say (fun v h L => v = some (.int 1) ∧ Fr n0 L))) T_430 (mkF m 430 #[.val (.long q0), .second, .val (.int p1), .val (.int p2), .val (.ref b1), .val (.int sx), .val (.ref b18), .val (.ref b32), .val (.ref b61), .val (.int (own_Fn b1 (0 : Int32) FB)), .val (.int gv2), .val (.int gv3), .val (.int gv4), .val (.int ev4), .unset, .unset, .unset, .unset, .unset, .unset, .unset, .unset, .unset, .unset, .unset] []) := by
                              intro ev4 hv_ev4 T_430 locs X_430 e_430 N_430
                              refine Run.iload (pc' := 432) X_430 hx (hb hby at_430) rfl rfl ?_
                              have J447 : ∀ (ev3 : Int32), ev3 = (if gv3 = (0 : Int32) then ev4 else (if (own_Fm b1 (3 : Int32) FB) = (0 : Int32) then ev4 else (3 : Int32))) → ∀ (T_447 : State) (locs : List Loc), Stand p l e room_1 s m #[(.long q0), (.int p1), (.int p2)] below meth c T_447 locs 4 18 → T_447.heap = h90 → Fr n0 locs → Run p.tables e below (FinR s room_1.cells room_1.slots (Say (fun v h L => v = some (.int 1) ∧ Fr n0 L))) T_447 (mkF m 447 #[.val (.long q0), .second, .val (.int p1), .val (.int p2), .val (.ref b1), .val (.int sx), .val (.ref b18), .val (.ref b32), .val (.ref b61), .val (.int (own_Fn b1 (0 : Int32) FB)), .val (.int gv2), .val (.int gv3), .val (.int gv4), .val (.int ev3), .unset, .unset, .unset, .unset, .unset, .unset, .unset, .unset, .unset, .unset, .unset] []) := by
                                intro ev3 hv_ev3 T_447 locs X_447 e_447 N_447
                                refine Run.iload (pc' := 449) X_447 hx (hb hby at_447) rfl rfl ?_
                                have J464 : ∀ (ev2 : Int32), ev2 = (if gv2 = (0 : Int32) then ev3 else (if (own_Fm b1 (2 : Int32) FB) = (0 : Int32) then ev3 else (2 : Int32))) → ∀ (T_464 : State) (locs : List Loc), Stand p l e room_1 s m #[(.long q0), (.int p1), (.int p2)] below meth c T_464 locs 4 18 → T_464.heap = h90 → Fr n0 locs → Run p.tables e below (FinR s room_1.cells room_1.slots (Say (fun v h L => v = some (.int 1) ∧ Fr n0 L))) T_464 (mkF m 464 #[.val (.long q0), .second, .val (.int p1), .val (.int p2), .val (.ref b1), .val (.int sx), .val (.ref b18), .val (.ref b32), .val (.ref b61), .val (.int (own_Fn b1 (0 : Int32) FB)), .val (.int gv2), .val (.int gv3), .val (.int gv4), .val (.int ev2), .unset, .unset, .unset, .unset, .unset, .unset, .unset, .unset, .unset, .unset, .unset] []) := by
                                  intro ev2 hv_ev2 T_464 locs X_464 e_464 N_464
                                  refine Run.iload (pc' := 466) X_464 hx (hb hby at_464) rfl rfl ?_
                                  have J481 : ∀ (ev1 : Int32), ev1 = (if (own_Fn b1 (0 : Int32) FB) = (0 : Int32) then ev2 else (if (own_Fm b1 (1 : Int32) FB) = (0 : Int32) then ev2 else (1 : Int32))) → ∀ (T_481 : State) (locs : List Loc), Stand p l e room_1 s m #[(.long q0), (.int p1), (.int p2)] below meth c T_481 locs 4 18 → T_481.heap = h90 → Fr n0 locs → Run p.tables e below (FinR s room_1.cells room_1.slots (Say (fun v h L => v = some (.int 1) ∧ Fr n0 L))) T_481 (mkF m 481 #[.val (.long q0), .second, .val (.int p1), .val (.int p2), .val (.ref b1), .val (.int sx), .val (.ref b18), .val (.ref b32), .val (.ref b61), .val (.int (own_Fn b1 (0 : Int32) FB)), .val (.int gv2), .val (.int gv3), .val (.int gv4), .val (.int ev1), .unset, .unset, .unset, .unset, .unset, .unset, .unset, .unset, .unset, .unset, .unset] []) := by
                                    intro ev1 hv_ev1 T_481 locs X_481 e_481 N_481
                                    refine Run.iload (pc' := 483) X_481 hx (hb hby at_481) rfl rfl ?_
                                    have J491 : ∀ (dv : Int32), dv = (if ev1 < (0 : Int32) then (0 : Int32) else (1 : Int32)) → ∀ (T_491 : State) (locs : List Loc), Stand p l e room_1 s m #[(.long q0), (.int p1), (.int p2)] below meth c T_491 locs 4 18 → T_491.heap = h90 → Fr n0 locs → Run p.tables e below (FinR s room_1.cells room_1.slots (Say (fun v h L => v = some (.int 1) ∧ Fr n0 L))) T_491 (mkF m 491 #[.val (.long q0), .second, .val (.int p1), .val (.int p2), .val (.ref b1), .val (.int sx), .val (.ref b18), .val (.ref b32), .val (.ref b61), .val (.int (own_Fn b1 (0 : Int32) FB)), .val (.int gv2), .val (.int gv3), .val (.int gv4), .val (.int ev1), .unset, .unset, .unset, .unset, .unset, .unset, .unset, .unset, .unset, .unset, .unset] [(.int dv)]) := by
                                      intro dv hv_dv T_491 locs X_491 e_491 N_491
                                      refine Run.istore (pc' := 493) X_491 hx (l' := #[.val (.long q0), .second, .val (.int p1), .val (.int p2), .val (.ref b1), .val (.int sx), .val (.ref b18), .val (.ref b32), .val (.ref b61), .val (.int (own_Fn b1 (0 : Int32) FB)), .val (.int gv2), .val (.int gv3), .val (.int gv4), .val (.int ev1), .val (.int dv), .unset, .unset, .unset, .unset, .unset, .unset, .unset, .unset, .unset, .unset]) (hb hby at_491) rfl rfl ?_
                                      refine Run.iload (pc' := 495) X_491 hx (hb hby at_493) rfl rfl ?_
                                      have J510 : ∀ (dv1 : Int32), dv1 = (if dv = (0 : Int32) then (0 : Int32) else (if ev1 < sx then (1 : Int32) else (0 : Int32))) → ∀ (T_510 : State) (locs : List Loc), Stand p l e room_1 s m #[(.long q0), (.int p1), (.int p2)] below meth c T_510 locs 4 18 → T_510.heap = h90 → Fr n0 locs → Run p.tables e below (FinR s room_1.cells room_1.slots (Say (fun v h L => v = some (.int 1) ∧ Fr n0 L))) T_510 (mkF m 510 #[.val (.long q0), .second, .val (.int p1), .val (.int p2), .val (.ref b1), .val (.int sx), .val (.ref b18), .val (.ref b32), .val (.ref b61), .val (.int (own_Fn b1 (0 : Int32) FB)), .val (.int gv2), .val (.int gv3), .val (.int gv4), .val (.int ev1), .val (.int dv), .unset, .unset, .unset, .unset, .unset, .unset, .unset, .unset, .unset, .unset] [(.int dv1)]) := by
                                        intro dv1 hv_dv1 T_510 locs X_510 e_510 N_510
                                        refine Run.istore (pc' := 512) X_510 hx (l' := #[.val (.long q0), .second, .val (.int p1), .val (.int p2), .val (.ref b1), .val (.int sx), .val (.ref b18), .val (.ref b32), .val (.ref b61), .val (.int (own_Fn b1 (0 : Int32) FB)), .val (.int gv2), .val (.int gv3), .val (.int gv4), .val (.int ev1), .val (.int dv), .val (.int dv1), .unset, .unset, .unset, .unset, .unset, .unset, .unset, .unset, .unset]) (hb hby at_510) rfl rfl ?_
                                        refine Run.iload (pc' := 514) X_510 hx (hb hby at_512) rfl rfl ?_
                                        have J526 : ∀ (cv1 : Int32), cv1 = (if dv1 = (0 : Int32) then sx else (ev1 + (1 : Int32))) → ∀ (T_526 : State) (locs : List Loc), Stand p l e room_1 s m #[(.long q0), (.int p1), (.int p2)] below meth c T_526 locs 4 18 → T_526.heap = h90 → Fr n0 locs → Run p.tables e below (FinR s room_1.cells room_1.slots (Say (fun v h L => v = some (.int 1) ∧ Fr n0 L))) T_526 (mkF m 526 #[.val (.long q0), .second, .val (.int p1), .val (.int p2), .val (.ref b1), .val (.int sx), .val (.ref b18), .val (.ref b32), .val (.ref b61), .val (.int (own_Fn b1 (0 : Int32) FB)), .val (.int gv2), .val (.int gv3), .val (.int gv4), .val (.int ev1), .val (.int dv), .val (.int dv1), .unset, .unset, .unset, .unset, .unset, .unset, .unset, .unset, .unset] [(.int cv1)]) := by
                                          intro cv1 hv_cv1 T_526 locs X_526 e_526 N_526
                                          refine Run.istore (pc' := 528) X_526 hx (l' := #[.val (.long q0), .second, .val (.int p1), .val (.int p2), .val (.ref b1), .val (.int sx), .val (.ref b18), .val (.ref b32), .val (.ref b61), .val (.int (own_Fn b1 (0 : Int32) FB)), .val (.int gv2), .val (.int gv3), .val (.int gv4), .val (.int ev1), .val (.int dv), .val (.int dv1), .val (.int cv1), .unset, .unset, .unset, .unset, .unset, .unset, .unset, .unset]) (hb hby at_526) rfl rfl ?_
                                          refine Run.iload (pc' := 530) X_526 hx (hb hby at_528) rfl rfl ?_
                                          have J541 : ∀ (cv : Int32), cv = (if dv = (0 : Int32) then (5 : Int32) else (ev1 + (1 : Int32))) → ∀ (T_541 : State) (locs : List Loc), Stand p l e room_1 s m #[(.long q0), (.int p1), (.int p2)] below meth c T_541 locs 4 18 → T_541.heap = h90 → Fr n0 locs → Run p.tables e below (FinR s room_1.cells room_1.slots (Say (fun v h L => v = some (.int 1) ∧ Fr n0 L))) T_541 (mkF m 541 #[.val (.long q0), .second, .val (.int p1), .val (.int p2), .val (.ref b1), .val (.int sx), .val (.ref b18), .val (.ref b32), .val (.ref b61), .val (.int (own_Fn b1 (0 : Int32) FB)), .val (.int gv2), .val (.int gv3), .val (.int gv4), .val (.int ev1), .val (.int dv), .val (.int dv1), .val (.int cv1), .unset, .unset, .unset, .unset, .unset, .unset, .unset, .unset] [(.int cv)]) := by
                                            intro cv hv_cv T_541 locs X_541 e_541 N_541
                                            refine Run.istore (pc' := 543) X_541 hx (l' := #[.val (.long q0), .second, .val (.int p1), .val (.int p2), .val (.ref b1), .val (.int sx), .val (.ref b18), .val (.ref b32), .val (.ref b61), .val (.int (own_Fn b1 (0 : Int32) FB)), .val (.int gv2), .val (.int gv3), .val (.int gv4), .val (.int ev1), .val (.int dv), .val (.int dv1), .val (.int cv1), .val (.int cv), .unset, .unset, .unset, .unset, .unset, .unset, .unset]) (hb hby at_541) rfl rfl ?_
                                            obtain ⟨T97, h97, X97, e97, E97, A97, D97, -, st97⟩ := newO X_541 hx hZ hown (hw _ (List.mem_of_getElem? (i := 19) rfl)) (hw _ (List.mem_of_getElem? (i := 20) rfl)) (hw _ (List.mem_of_getElem? (i := 21) rfl)) e_541 (g := (mkF m 543 #[.val (.long q0), .second, .val (.int p1), .val (.int p2), .val (.ref b1), .val (.int sx), .val (.ref b18), .val (.ref b32), .val (.ref b61), .val (.int (own_Fn b1 (0 : Int32) FB)), .val (.int gv2), .val (.int gv3), .val (.int gv4), .val (.int ev1), .val (.int dv), .val (.int dv1), .val (.int cv1), .val (.int cv), .unset, .unset, .unset, .unset, .unset, .unset, .unset] [])) rfl (hb hby at_543) (by decide) (by decide)
                                            obtain ⟨b97, g97⟩ : ∃ z, z = h90.size := ⟨_, rfl⟩
                                            rw [← g97] at A97 D97 st97
                                            have ne_b1_b97 : b1 ≠ b97 := Nat.ne_of_lt (Nat.lt_of_lt_of_le (fq92).lt (Nat.le_of_eq g97.symm))
                                            have ne_b18_b97 : b18 ≠ b97 := Nat.ne_of_lt (Nat.lt_of_lt_of_le (fq93).lt (Nat.le_of_eq g97.symm))
                                            have ne_b32_b97 : b32 ≠ b97 := Nat.ne_of_lt (Nat.lt_of_lt_of_le (fq94).lt (Nat.le_of_eq g97.symm))
                                            have ne_b61_b97 : b61 ≠ b97 := Nat.ne_of_lt (Nat.lt_of_lt_of_le (fq95).lt (Nat.le_of_eq g97.symm))
                                            have G97 : n0 ≤ b97 := Nat.le_trans Z90 (Nat.le_of_eq g97.symm)
                                            have Z97 : n0 ≤ h97.size := Nat.le_trans Z90 E97.1
                                            have fq98 := Ints.ext E97 fq92
                                            have fq99 := Ints.ext E97 fq93
                                            have fq100 := Ints.ext E97 fq94
                                            have fq101 := Ints.ext E97 fq95
                                            have F97_whole : Fld Z h97 b97 "com/example/vez/vez/gateway/http/HeadEnd" "whole" "Z" (.int (0 : Int32)) := D97 (Or.inl (hw _ (List.mem_of_getElem? (i := 34) rfl))) (ty := .boolean) (by decide)
                                            have F97_scanned : Fld Z h97 b97 "com/example/vez/vez/gateway/http/HeadEnd" "scanned" "I" (.int (0 : Int32)) := D97 (Or.inl (hw _ (List.mem_of_getElem? (i := 36) rfl))) (ty := .int) (by decide)
                                            have F97_lineLength : Fld Z h97 b97 "com/example/vez/vez/gateway/http/HeadEnd" "lineLength" "I" (.int (0 : Int32)) := D97 (Or.inl (hw _ (List.mem_of_getElem? (i := 38) rfl))) (ty := .int) (by decide)
                                            have F97_cr : Fld Z h97 b97 "com/example/vez/vez/gateway/http/HeadEnd" "cr" "Z" (.int (0 : Int32)) := D97 (Or.inl (hw _ (List.mem_of_getElem? (i := 40) rfl))) (ty := .boolean) (by decide)
                                            have F97_begun : Fld Z h97 b97 "com/example/vez/vez/gateway/http/HeadEnd" "begun" "Z" (.int (0 : Int32)) := D97 (Or.inl (hw _ (List.mem_of_getElem? (i := 42) rfl))) (ty := .boolean) (by decide)
                                            refine Run.back (g' := (mkF m 546 #[.val (.long q0), .second, .val (.int p1), .val (.int p2), .val (.ref b1), .val (.int sx), .val (.ref b18), .val (.ref b32), .val (.ref b61), .val (.int (own_Fn b1 (0 : Int32) FB)), .val (.int gv2), .val (.int gv3), .val (.int gv4), .val (.int ev1), .val (.int dv), .val (.int dv1), .val (.int cv1), .val (.int cv), .unset, .unset, .unset, .unset, .unset, .unset, .unset] [(.ref b97)])) st97 ?_
                                            refine Run.dup (pc' := 547) X97 hx (hb hby at_546) rfl rfl ?_
                                            obtain ⟨T102, L102, v102, X102, Q102, st102⟩ := callSpecial X97 hx (y := (⟨"com/example/vez/vez/gateway/http/HeadEnd", "<init>", "()V"⟩ : MethodName)) (a := b97) (Ls := #[.val (.long q0), .second, .val (.int p1), .val (.int p2), .val (.ref b1), .val (.int sx), .val (.ref b18), .val (.ref b32), .val (.ref b61), .val (.int (own_Fn b1 (0 : Int32) FB)), .val (.int gv2), .val (.int gv3), .val (.int gv4), .val (.int ev1), .val (.int dv), .val (.int dv1), .val (.int cv1), .val (.int cv), .unset, .unset, .unset, .unset, .unset, .unset, .unset]) (rest := [(.ref b97)]) (W := 1) (argsL := []) rfl hZ hown (hw _ (List.mem_of_getElem? (i := 22) rfl)) (hw _ (List.mem_of_getElem? (i := 23) rfl)) (hw _ (List.mem_of_getElem? (i := 21) rfl)) (hw _ (List.mem_of_getElem? (i := 24) rfl)) (by decide) e97 (rm_i l Z a0 hw [] b97  h97 n0 Z97 ) (hb hby at_547) (lenOf own_pd4 rfl) (by decide) (by decide) (by rw [hml]; rfl) (Nat.le_of_eq rfl) (by decide) (by decide)
                                            obtain ⟨rfl, M102, e102⟩ := Q102
                                            have N102 := Fr.app N_541 M102
                                            refine Run.back (g' := (mkF m 550 #[.val (.long q0), .second, .val (.int p1), .val (.int p2), .val (.ref b1), .val (.int sx), .val (.ref b18), .val (.ref b32), .val (.ref b61), .val (.int (own_Fn b1 (0 : Int32) FB)), .val (.int gv2), .val (.int gv3), .val (.int gv4), .val (.int ev1), .val (.int dv), .val (.int dv1), .val (.int cv1), .val (.int cv), .unset, .unset, .unset, .unset, .unset, .unset, .unset] [(.ref b97)])) st102 ?_
                                            refine Run.astore (pc' := 552) X102 hx (l' := #[.val (.long q0), .second, .val (.int p1), .val (.int p2), .val (.ref b1), .val (.int sx), .val (.ref b18), .val (.ref b32), .val (.ref b61), .val (.int (own_Fn b1 (0 : Int32) FB)), .val (.int gv2), .val (.int gv3), .val (.int gv4), .val (.int ev1), .val (.int dv), .val (.int dv1), .val (.int cv1), .val (.int cv), .val (.ref b97), .unset, .unset, .unset, .unset, .unset, .unset]) (hb hby at_550) rfl rfl ?_
                                            refine Run.aload (pc' := 554) X102 hx (hb hby at_552) rfl rfl ?_
                                            refine Run.aload (pc' := 556) X102 hx (hb hby at_554) rfl rfl ?_
                                            refine Run.iconst (pc' := 557) (v := (0 : Int32)) X102 hx (hb hby at_556) rfl rfl ?_
                                            refine Run.iconst (pc' := 558) (v := (3 : Int32)) X102 hx (hb hby at_557) rfl rfl ?_
                                            obtain ⟨T103, L103, v103, X103, Q103, st103⟩ := callVirtual X102 hx (y := (⟨"com/example/vez/vez/gateway/http/HeadEnd", "find", "([BII)Z"⟩ : MethodName)) (z := (⟨"com/example/vez/vez/gateway/http/HeadEnd", "find", "([BII)Z"⟩ : MethodName)) (C := "com/example/vez/vez/gateway/http/HeadEnd") (a := b97) (Ls := #[.val (.long q0), .second, .val (.int p1), .val (.int p2), .val (.ref b1), .val (.int sx), .val (.ref b18), .val (.ref b32), .val (.ref b61), .val (.int (own_Fn b1 (0 : Int32) FB)), .val (.int gv2), .val (.int gv3), .val (.int gv4), .val (.int ev1), .val (.int dv), .val (.int dv1), .val (.int cv1), .val (.int cv), .val (.ref b97), .unset, .unset, .unset, .unset, .unset, .unset]) (rest := []) (W := 0) (argsL := [(.ref b18), (.int (0 : Int32)), (.int (3 : Int32))]) hZ hown (hw _ (List.mem_of_getElem? (i := 28) rfl)) (hw _ (List.mem_of_getElem? (i := 29) rfl)) (notFace_of_selects (args := #[]) (mvT hZ (hw _ (List.mem_of_getElem? (i := 31) rfl)))) (hw _ (List.mem_of_getElem? (i := 31) rfl)) (hw _ (List.mem_of_getElem? (i := 30) rfl)) (hw _ (List.mem_of_getElem? (i := 21) rfl)) (hw _ (List.mem_of_getElem? (i := 32) rfl)) (by decide) e102 A97 (rm_f l Z a0 hw [] b97 b18 (0 : Int32) (3 : Int32) ((0 : Int32)) ((0 : Int32)) ((0 : Int32)) ((0 : Int32)) ((0 : Int32)) 3 (3 : Int32) f30 h97 n0 Z97 A97 F97_scanned F97_lineLength F97_cr F97_begun F97_whole G97 fq99 ne_b18_b97 (by decide) (by decide) (by decide)) (hb hby at_558) (lenOf own_pd5 rfl) (by decide) (by decide) (by rw [hml]; rfl) (Nat.le_of_eq rfl) (by decide) (by decide)
                                            obtain ⟨rfl, M103, K103, E103, F103_scanned, F103_lineLength, F103_cr, F103_begun, F103_whole⟩ := Q103
                                            have N103 := Fr.app N102 M103
                                            have fq104 := Ints.keep fq98 K103 (ninS ne_b1_b97 nin0)
                                            have fq105 := Ints.keep fq99 K103 (ninS ne_b18_b97 nin0)
                                            have fq106 := Ints.keep fq100 K103 (ninS ne_b32_b97 nin0)
                                            have fq107 := Ints.keep fq101 K103 (ninS ne_b61_b97 nin0)
                                            have fq108 := Exa.keep A97 K103
                                            have Z103 : n0 ≤ T103.heap.size := Nat.le_trans Z97 K103.1
                                            refine Run.back (g' := (mkF m 561 #[.val (.long q0), .second, .val (.int p1), .val (.int p2), .val (.ref b1), .val (.int sx), .val (.ref b18), .val (.ref b32), .val (.ref b61), .val (.int (own_Fn b1 (0 : Int32) FB)), .val (.int gv2), .val (.int gv3), .val (.int gv4), .val (.int ev1), .val (.int dv), .val (.int dv1), .val (.int cv1), .val (.int cv), .val (.ref b97), .unset, .unset, .unset, .unset, .unset, .unset] [(.int ((own_go 3 f30 (0 : Int32) ((0 : Int32), (0 : Int32), (0 : Int32), (0 : Int32), (0 : Int32))).2.2.2.2 &&& 1))])) st103 ?_
                                            refine Run.pop (pc' := 562) X103 hx (hb hby at_561) rfl rfl ?_
                                            refine Run.aload (pc' := 564) X103 hx (hb hby at_562) rfl rfl ?_
                                            refine Run.iloadN (pc' := 565) X103 hx (hb hby at_564) rfl rfl ?_
                                            obtain ⟨T109, L109, v109, X109, Q109, st109⟩ := callVirtual X103 hx (y := (⟨"com/example/vez/vez/gateway/http/HeadEnd", "reset", "(I)V"⟩ : MethodName)) (z := (⟨"com/example/vez/vez/gateway/http/HeadEnd", "reset", "(I)V"⟩ : MethodName)) (C := "com/example/vez/vez/gateway/http/HeadEnd") (a := b97) (Ls := #[.val (.long q0), .second, .val (.int p1), .val (.int p2), .val (.ref b1), .val (.int sx), .val (.ref b18), .val (.ref b32), .val (.ref b61), .val (.int (own_Fn b1 (0 : Int32) FB)), .val (.int gv2), .val (.int gv3), .val (.int gv4), .val (.int ev1), .val (.int dv), .val (.int dv1), .val (.int cv1), .val (.int cv), .val (.ref b97), .unset, .unset, .unset, .unset, .unset, .unset]) (rest := []) (W := 0) (argsL := [(.int p1)]) hZ hown (hw _ (List.mem_of_getElem? (i := 43) rfl)) (hw _ (List.mem_of_getElem? (i := 44) rfl)) (notFace_of_selects (args := #[]) (mvT hZ (hw _ (List.mem_of_getElem? (i := 46) rfl)))) (hw _ (List.mem_of_getElem? (i := 46) rfl)) (hw _ (List.mem_of_getElem? (i := 45) rfl)) (hw _ (List.mem_of_getElem? (i := 21) rfl)) (hw _ (List.mem_of_getElem? (i := 47) rfl)) (by decide) rfl E103 (rm_r l Z a0 hw [] b97 p1 ((own_go 3 f30 (0 : Int32) ((0 : Int32), (0 : Int32), (0 : Int32), (0 : Int32), (0 : Int32))).1) ((own_go 3 f30 (0 : Int32) ((0 : Int32), (0 : Int32), (0 : Int32), (0 : Int32), (0 : Int32))).2.1) ((own_go 3 f30 (0 : Int32) ((0 : Int32), (0 : Int32), (0 : Int32), (0 : Int32), (0 : Int32))).2.2.1) ((own_go 3 f30 (0 : Int32) ((0 : Int32), (0 : Int32), (0 : Int32), (0 : Int32), (0 : Int32))).2.2.2.1) ((own_go 3 f30 (0 : Int32) ((0 : Int32), (0 : Int32), (0 : Int32), (0 : Int32), (0 : Int32))).2.2.2.2) T103.heap n0 Z103 E103 F103_scanned F103_lineLength F103_cr F103_begun F103_whole G97 ) (hb hby at_565) (lenOf own_pd6 rfl) (by decide) (by decide) (by rw [hml]; rfl) (Nat.le_of_eq rfl) (by decide) (by decide)
                                            obtain ⟨rfl, M109, K109, E109, F109_scanned, F109_lineLength, F109_cr, F109_begun, F109_whole⟩ := Q109
                                            have N109 := Fr.app N103 M109
                                            have fq110 := Ints.keep fq104 K109 (ninS ne_b1_b97 nin0)
                                            have fq111 := Ints.keep fq105 K109 (ninS ne_b18_b97 nin0)
                                            have fq112 := Ints.keep fq106 K109 (ninS ne_b32_b97 nin0)
                                            have fq113 := Ints.keep fq107 K109 (ninS ne_b61_b97 nin0)
                                            have fq114 := Exa.keep E103 K109
                                            have Z109 : n0 ≤ T109.heap.size := Nat.le_trans Z103 K109.1
                                            refine Run.back (g' := (mkF m 568 #[.val (.long q0), .second, .val (.int p1), .val (.int p2), .val (.ref b1), .val (.int sx), .val (.ref b18), .val (.ref b32), .val (.ref b61), .val (.int (own_Fn b1 (0 : Int32) FB)), .val (.int gv2), .val (.int gv3), .val (.int gv4), .val (.int ev1), .val (.int dv), .val (.int dv1), .val (.int cv1), .val (.int cv), .val (.ref b97), .unset, .unset, .unset, .unset, .unset, .unset] [])) st109 ?_
                                            refine Run.aload (pc' := 570) X109 hx (hb hby at_568) rfl rfl ?_
                                            refine Run.aload (pc' := 572) X109 hx (hb hby at_570) rfl rfl ?_
                                            refine Run.iconst (pc' := 573) (v := (0 : Int32)) X109 hx (hb hby at_572) rfl rfl ?_
                                            refine Run.iload (pc' := 575) X109 hx (hb hby at_573) rfl rfl ?_
                                            obtain ⟨T115, L115, v115, X115, Q115, st115⟩ := callVirtual X109 hx (y := (⟨"com/example/vez/vez/gateway/http/HeadEnd", "find", "([BII)Z"⟩ : MethodName)) (z := (⟨"com/example/vez/vez/gateway/http/HeadEnd", "find", "([BII)Z"⟩ : MethodName)) (C := "com/example/vez/vez/gateway/http/HeadEnd") (a := b97) (Ls := #[.val (.long q0), .second, .val (.int p1), .val (.int p2), .val (.ref b1), .val (.int sx), .val (.ref b18), .val (.ref b32), .val (.ref b61), .val (.int (own_Fn b1 (0 : Int32) FB)), .val (.int gv2), .val (.int gv3), .val (.int gv4), .val (.int ev1), .val (.int dv), .val (.int dv1), .val (.int cv1), .val (.int cv), .val (.ref b97), .unset, .unset, .unset, .unset, .unset, .unset]) (rest := []) (W := 0) (argsL := [(.ref b32), (.int (0 : Int32)), (.int sx)]) hZ hown (hw _ (List.mem_of_getElem? (i := 28) rfl)) (hw _ (List.mem_of_getElem? (i := 29) rfl)) (notFace_of_selects (args := #[]) (mvT hZ (hw _ (List.mem_of_getElem? (i := 31) rfl)))) (hw _ (List.mem_of_getElem? (i := 31) rfl)) (hw _ (List.mem_of_getElem? (i := 30) rfl)) (hw _ (List.mem_of_getElem? (i := 21) rfl)) (hw _ (List.mem_of_getElem? (i := 32) rfl)) (by decide) rfl E109 (rm_f l Z a0 hw [] b97 b32 (0 : Int32) sx (p1) ((0 : Int32)) ((0 : Int32)) ((0 : Int32)) ((0 : Int32)) sx.toNatClampNeg (5 : Int32) FX T109.heap n0 Z109 E109 F109_scanned F109_lineLength F109_cr F109_begun F109_whole G97 fq112 ne_b32_b97 (own_f1 hs) (by decide) (own_f2 hs)) (hb hby at_575) (lenOf own_pd5 rfl) (by decide) (by decide) (by rw [hml]; rfl) (Nat.le_of_eq rfl) (by decide) (by decide)
                                            obtain ⟨rfl, M115, K115, E115, F115_scanned, F115_lineLength, F115_cr, F115_begun, F115_whole⟩ := Q115
                                            have N115 := Fr.app N109 M115
                                            have fq116 := Ints.keep fq110 K115 (ninS ne_b1_b97 nin0)
                                            have fq117 := Ints.keep fq111 K115 (ninS ne_b18_b97 nin0)
                                            have fq118 := Ints.keep fq112 K115 (ninS ne_b32_b97 nin0)
                                            have fq119 := Ints.keep fq113 K115 (ninS ne_b61_b97 nin0)
                                            have fq120 := Exa.keep E109 K115
                                            have Z115 : n0 ≤ T115.heap.size := Nat.le_trans Z109 K115.1
                                            refine Run.back (g' := (mkF m 578 #[.val (.long q0), .second, .val (.int p1), .val (.int p2), .val (.ref b1), .val (.int sx), .val (.ref b18), .val (.ref b32), .val (.ref b61), .val (.int (own_Fn b1 (0 : Int32) FB)), .val (.int gv2), .val (.int gv3), .val (.int gv4), .val (.int ev1), .val (.int dv), .val (.int dv1), .val (.int cv1), .val (.int cv), .val (.ref b97), .unset, .unset, .unset, .unset, .unset, .unset] [(.int ((own_go sx.toNatClampNeg FX (0 : Int32) (p1, (0 : Int32), (0 : Int32), (0 : Int32), (0 : Int32))).2.2.2.2 &&& 1))])) st115 ?_
                                            refine Run.istore (pc' := 580) X115 hx (l' := #[.val (.long q0), .second, .val (.int p1), .val (.int p2), .val (.ref b1), .val (.int sx), .val (.ref b18), .val (.ref b32), .val (.ref b61), .val (.int (own_Fn b1 (0 : Int32) FB)), .val (.int gv2), .val (.int gv3), .val (.int gv4), .val (.int ev1), .val (.int dv), .val (.int dv1), .val (.int cv1), .val (.int cv), .val (.ref b97), .val (.int ((own_go sx.toNatClampNeg FX (0 : Int32) (p1, (0 : Int32), (0 : Int32), (0 : Int32), (0 : Int32))).2.2.2.2 &&& 1)), .unset, .unset, .unset, .unset, .unset]) (hb hby at_578) rfl rfl ?_
                                            refine Run.aload (pc' := 582) X115 hx (hb hby at_580) rfl rfl ?_
                                            obtain ⟨T121, L121, v121, X121, Q121, st121⟩ := callVirtual X115 hx (y := (⟨"com/example/vez/vez/gateway/http/HeadEnd", "getScanned", "()I"⟩ : MethodName)) (z := (⟨"com/example/vez/vez/gateway/http/HeadEnd", "getScanned", "()I"⟩ : MethodName)) (C := "com/example/vez/vez/gateway/http/HeadEnd") (a := b97) (Ls := #[.val (.long q0), .second, .val (.int p1), .val (.int p2), .val (.ref b1), .val (.int sx), .val (.ref b18), .val (.ref b32), .val (.ref b61), .val (.int (own_Fn b1 (0 : Int32) FB)), .val (.int gv2), .val (.int gv3), .val (.int gv4), .val (.int ev1), .val (.int dv), .val (.int dv1), .val (.int cv1), .val (.int cv), .val (.ref b97), .val (.int ((own_go sx.toNatClampNeg FX (0 : Int32) (p1, (0 : Int32), (0 : Int32), (0 : Int32), (0 : Int32))).2.2.2.2 &&& 1)), .unset, .unset, .unset, .unset, .unset]) (rest := []) (W := 0) (argsL := []) hZ hown (hw _ (List.mem_of_getElem? (i := 48) rfl)) (hw _ (List.mem_of_getElem? (i := 49) rfl)) (notFace_of_selects (args := #[]) (mvT hZ (hw _ (List.mem_of_getElem? (i := 51) rfl)))) (hw _ (List.mem_of_getElem? (i := 51) rfl)) (hw _ (List.mem_of_getElem? (i := 50) rfl)) (hw _ (List.mem_of_getElem? (i := 21) rfl)) (hw _ (List.mem_of_getElem? (i := 52) rfl)) (by decide) rfl E115 (rm_s l Z a0 hw [] b97 ((own_go sx.toNatClampNeg FX (0 : Int32) (p1, (0 : Int32), (0 : Int32), (0 : Int32), (0 : Int32))).1) T115.heap n0 Z115 F115_scanned) (hb hby at_582) (lenOf own_pd7 rfl) (by decide) (by decide) (by rw [hml]; rfl) (Nat.le_of_eq rfl) (by decide) (by decide)
                                            obtain ⟨hv121, M121, e121⟩ := Q121
                                            rw [show (own_Fs b97 ((own_go sx.toNatClampNeg FX (0 : Int32) (p1, (0 : Int32), (0 : Int32), (0 : Int32), (0 : Int32))).1)) = (own_go sx.toNatClampNeg FX (0 : Int32) (p1, (0 : Int32), (0 : Int32), (0 : Int32), (0 : Int32))).1 from rfl] at hv121
                                            subst hv121
                                            have N121 := Fr.app N115 M121
                                            refine Run.back (g' := (mkF m 585 #[.val (.long q0), .second, .val (.int p1), .val (.int p2), .val (.ref b1), .val (.int sx), .val (.ref b18), .val (.ref b32), .val (.ref b61), .val (.int (own_Fn b1 (0 : Int32) FB)), .val (.int gv2), .val (.int gv3), .val (.int gv4), .val (.int ev1), .val (.int dv), .val (.int dv1), .val (.int cv1), .val (.int cv), .val (.ref b97), .val (.int ((own_go sx.toNatClampNeg FX (0 : Int32) (p1, (0 : Int32), (0 : Int32), (0 : Int32), (0 : Int32))).2.2.2.2 &&& 1)), .unset, .unset, .unset, .unset, .unset] [(.int (own_go sx.toNatClampNeg FX (0 : Int32) (p1, (0 : Int32), (0 : Int32), (0 : Int32), (0 : Int32))).1)])) st121 ?_
                                            refine Run.istore (pc' := 587) X121 hx (l' := #[.val (.long q0), .second, .val (.int p1), .val (.int p2), .val (.ref b1), .val (.int sx), .val (.ref b18), .val (.ref b32), .val (.ref b61), .val (.int (own_Fn b1 (0 : Int32) FB)), .val (.int gv2), .val (.int gv3), .val (.int gv4), .val (.int ev1), .val (.int dv), .val (.int dv1), .val (.int cv1), .val (.int cv), .val (.ref b97), .val (.int ((own_go sx.toNatClampNeg FX (0 : Int32) (p1, (0 : Int32), (0 : Int32), (0 : Int32), (0 : Int32))).2.2.2.2 &&& 1)), .val (.int (own_go sx.toNatClampNeg FX (0 : Int32) (p1, (0 : Int32), (0 : Int32), (0 : Int32), (0 : Int32))).1), .unset, .unset, .unset, .unset]) (hb hby at_585) rfl rfl ?_
                                            refine Run.aload (pc' := 589) X121 hx (hb hby at_587) rfl rfl ?_
                                            refine Run.aload (pc' := 591) X121 hx (hb hby at_589) rfl rfl ?_
                                            refine Run.iload (pc' := 593) X121 hx (hb hby at_591) rfl rfl ?_
                                            refine Run.iconst (pc' := 594) (v := (5 : Int32)) X121 hx (hb hby at_593) rfl rfl ?_
                                            obtain ⟨T122, L122, v122, X122, Q122, st122⟩ := callVirtual X121 hx (y := (⟨"com/example/vez/vez/gateway/http/HeadEnd", "find", "([BII)Z"⟩ : MethodName)) (z := (⟨"com/example/vez/vez/gateway/http/HeadEnd", "find", "([BII)Z"⟩ : MethodName)) (C := "com/example/vez/vez/gateway/http/HeadEnd") (a := b97) (Ls := #[.val (.long q0), .second, .val (.int p1), .val (.int p2), .val (.ref b1), .val (.int sx), .val (.ref b18), .val (.ref b32), .val (.ref b61), .val (.int (own_Fn b1 (0 : Int32) FB)), .val (.int gv2), .val (.int gv3), .val (.int gv4), .val (.int ev1), .val (.int dv), .val (.int dv1), .val (.int cv1), .val (.int cv), .val (.ref b97), .val (.int ((own_go sx.toNatClampNeg FX (0 : Int32) (p1, (0 : Int32), (0 : Int32), (0 : Int32), (0 : Int32))).2.2.2.2 &&& 1)), .val (.int (own_go sx.toNatClampNeg FX (0 : Int32) (p1, (0 : Int32), (0 : Int32), (0 : Int32), (0 : Int32))).1), .unset, .unset, .unset, .unset]) (rest := []) (W := 0) (argsL := [(.ref b61), (.int sx), (.int (5 : Int32))]) hZ hown (hw _ (List.mem_of_getElem? (i := 28) rfl)) (hw _ (List.mem_of_getElem? (i := 29) rfl)) (notFace_of_selects (args := #[]) (mvT hZ (hw _ (List.mem_of_getElem? (i := 31) rfl)))) (hw _ (List.mem_of_getElem? (i := 31) rfl)) (hw _ (List.mem_of_getElem? (i := 30) rfl)) (hw _ (List.mem_of_getElem? (i := 21) rfl)) (hw _ (List.mem_of_getElem? (i := 32) rfl)) (by decide) e121 E115 (rm_f l Z a0 hw [] b97 b61 sx (5 : Int32) ((own_go sx.toNatClampNeg FX (0 : Int32) (p1, (0 : Int32), (0 : Int32), (0 : Int32), (0 : Int32))).1) ((own_go sx.toNatClampNeg FX (0 : Int32) (p1, (0 : Int32), (0 : Int32), (0 : Int32), (0 : Int32))).2.1) ((own_go sx.toNatClampNeg FX (0 : Int32) (p1, (0 : Int32), (0 : Int32), (0 : Int32), (0 : Int32))).2.2.1) ((own_go sx.toNatClampNeg FX (0 : Int32) (p1, (0 : Int32), (0 : Int32), (0 : Int32), (0 : Int32))).2.2.2.1) ((own_go sx.toNatClampNeg FX (0 : Int32) (p1, (0 : Int32), (0 : Int32), (0 : Int32), (0 : Int32))).2.2.2.2) (5 - sx.toNatClampNeg) (5 : Int32) FY T115.heap n0 Z115 E115 F115_scanned F115_lineLength F115_cr F115_begun F115_whole G97 fq119 ne_b61_b97 (own_f3 hs) (hs.1) (by decide)) (hb hby at_594) (lenOf own_pd5 rfl) (by decide) (by decide) (by rw [hml]; rfl) (Nat.le_of_eq rfl) (by decide) (by decide)
                                            obtain ⟨rfl, M122, K122, E122, F122_scanned, F122_lineLength, F122_cr, F122_begun, F122_whole⟩ := Q122
                                            have N122 := Fr.app N121 M122
                                            have fq123 := Ints.keep fq116 K122 (ninS ne_b1_b97 nin0)
                                            have fq124 := Ints.keep fq117 K122 (ninS ne_b18_b97 nin0)
                                            have fq125 := Ints.keep fq118 K122 (ninS ne_b32_b97 nin0)
                                            have fq126 := Ints.keep fq119 K122 (ninS ne_b61_b97 nin0)
                                            have fq127 := Exa.keep E115 K122
                                            have Z122 : n0 ≤ T122.heap.size := Nat.le_trans Z115 K122.1
                                            refine Run.back (g' := (mkF m 597 #[.val (.long q0), .second, .val (.int p1), .val (.int p2), .val (.ref b1), .val (.int sx), .val (.ref b18), .val (.ref b32), .val (.ref b61), .val (.int (own_Fn b1 (0 : Int32) FB)), .val (.int gv2), .val (.int gv3), .val (.int gv4), .val (.int ev1), .val (.int dv), .val (.int dv1), .val (.int cv1), .val (.int cv), .val (.ref b97), .val (.int ((own_go sx.toNatClampNeg FX (0 : Int32) (p1, (0 : Int32), (0 : Int32), (0 : Int32), (0 : Int32))).2.2.2.2 &&& 1)), .val (.int (own_go sx.toNatClampNeg FX (0 : Int32) (p1, (0 : Int32), (0 : Int32), (0 : Int32), (0 : Int32))).1), .unset, .unset, .unset, .unset] [(.int ((own_go (5 - sx.toNatClampNeg) FY sx ((own_go sx.toNatClampNeg FX (0 : Int32) (p1, (0 : Int32), (0 : Int32), (0 : Int32), (0 : Int32))).1, (own_go sx.toNatClampNeg FX (0 : Int32) (p1, (0 : Int32), (0 : Int32), (0 : Int32), (0 : Int32))).2.1, (own_go sx.toNatClampNeg FX (0 : Int32) (p1, (0 : Int32), (0 : Int32), (0 : Int32), (0 : Int32))).2.2.1, (own_go sx.toNatClampNeg FX (0 : Int32) (p1, (0 : Int32), (0 : Int32), (0 : Int32), (0 : Int32))).2.2.2.1, (own_go sx.toNatClampNeg FX (0 : Int32) (p1, (0 : Int32), (0 : Int32), (0 : Int32), (0 : Int32))).2.2.2.2)).2.2.2.2 &&& 1))])) st122 ?_
                                            refine Run.istore (pc' := 599) X122 hx (l' := #[.val (.long q0), .second, .val (.int p1), .val (.int p2), .val (.ref b1), .val (.int sx), .val (.ref b18), .val (.ref b32), .val (.ref b61), .val (.int (own_Fn b1 (0 : Int32) FB)), .val (.int gv2), .val (.int gv3), .val (.int gv4), .val (.int ev1), .val (.int dv), .val (.int dv1), .val (.int cv1), .val (.int cv), .val (.ref b97), .val (.int ((own_go sx.toNatClampNeg FX (0 : Int32) (p1, (0 : Int32), (0 : Int32), (0 : Int32), (0 : Int32))).2.2.2.2 &&& 1)), .val (.int (own_go sx.toNatClampNeg FX (0 : Int32) (p1, (0 : Int32), (0 : Int32), (0 : Int32), (0 : Int32))).1), .val (.int ((own_go (5 - sx.toNatClampNeg) FY sx ((own_go sx.toNatClampNeg FX (0 : Int32) (p1, (0 : Int32), (0 : Int32), (0 : Int32), (0 : Int32))).1, (own_go sx.toNatClampNeg FX (0 : Int32) (p1, (0 : Int32), (0 : Int32), (0 : Int32), (0 : Int32))).2.1, (own_go sx.toNatClampNeg FX (0 : Int32) (p1, (0 : Int32), (0 : Int32), (0 : Int32), (0 : Int32))).2.2.1, (own_go sx.toNatClampNeg FX (0 : Int32) (p1, (0 : Int32), (0 : Int32), (0 : Int32), (0 : Int32))).2.2.2.1, (own_go sx.toNatClampNeg FX (0 : Int32) (p1, (0 : Int32), (0 : Int32), (0 : Int32), (0 : Int32))).2.2.2.2)).2.2.2.2 &&& 1)), .unset, .unset, .unset]) (hb hby at_597) rfl rfl ?_
                                            refine Run.aload (pc' := 601) X122 hx (hb hby at_599) rfl rfl ?_
                                            obtain ⟨T128, L128, v128, X128, Q128, st128⟩ := callVirtual X122 hx (y := (⟨"com/example/vez/vez/gateway/http/HeadEnd", "getScanned", "()I"⟩ : MethodName)) (z := (⟨"com/example/vez/vez/gateway/http/HeadEnd", "getScanned", "()I"⟩ : MethodName)) (C := "com/example/vez/vez/gateway/http/HeadEnd") (a := b97) (Ls := #[.val (.long q0), .second, .val (.int p1), .val (.int p2), .val (.ref b1), .val (.int sx), .val (.ref b18), .val (.ref b32), .val (.ref b61), .val (.int (own_Fn b1 (0 : Int32) FB)), .val (.int gv2), .val (.int gv3), .val (.int gv4), .val (.int ev1), .val (.int dv), .val (.int dv1), .val (.int cv1), .val (.int cv), .val (.ref b97), .val (.int ((own_go sx.toNatClampNeg FX (0 : Int32) (p1, (0 : Int32), (0 : Int32), (0 : Int32), (0 : Int32))).2.2.2.2 &&& 1)), .val (.int (own_go sx.toNatClampNeg FX (0 : Int32) (p1, (0 : Int32), (0 : Int32), (0 : Int32), (0 : Int32))).1), .val (.int ((own_go (5 - sx.toNatClampNeg) FY sx ((own_go sx.toNatClampNeg FX (0 : Int32) (p1, (0 : Int32), (0 : Int32), (0 : Int32), (0 : Int32))).1, (own_go sx.toNatClampNeg FX (0 : Int32) (p1, (0 : Int32), (0 : Int32), (0 : Int32), (0 : Int32))).2.1, (own_go sx.toNatClampNeg FX (0 : Int32) (p1, (0 : Int32), (0 : Int32), (0 : Int32), (0 : Int32))).2.2.1, (own_go sx.toNatClampNeg FX (0 : Int32) (p1, (0 : Int32), (0 : Int32), (0 : Int32), (0 : Int32))).2.2.2.1, (own_go sx.toNatClampNeg FX (0 : Int32) (p1, (0 : Int32), (0 : Int32), (0 : Int32), (0 : Int32))).2.2.2.2)).2.2.2.2 &&& 1)), .unset, .unset, .unset]) (rest := []) (W := 0) (argsL := []) hZ hown (hw _ (List.mem_of_getElem? (i := 48) rfl)) (hw _ (List.mem_of_getElem? (i := 49) rfl)) (notFace_of_selects (args := #[]) (mvT hZ (hw _ (List.mem_of_getElem? (i := 51) rfl)))) (hw _ (List.mem_of_getElem? (i := 51) rfl)) (hw _ (List.mem_of_getElem? (i := 50) rfl)) (hw _ (List.mem_of_getElem? (i := 21) rfl)) (hw _ (List.mem_of_getElem? (i := 52) rfl)) (by decide) rfl E122 (rm_s l Z a0 hw [] b97 ((own_go (5 - sx.toNatClampNeg) FY sx ((own_go sx.toNatClampNeg FX (0 : Int32) (p1, (0 : Int32), (0 : Int32), (0 : Int32), (0 : Int32))).1, (own_go sx.toNatClampNeg FX (0 : Int32) (p1, (0 : Int32), (0 : Int32), (0 : Int32), (0 : Int32))).2.1, (own_go sx.toNatClampNeg FX (0 : Int32) (p1, (0 : Int32), (0 : Int32), (0 : Int32), (0 : Int32))).2.2.1, (own_go sx.toNatClampNeg FX (0 : Int32) (p1, (0 : Int32), (0 : Int32), (0 : Int32), (0 : Int32))).2.2.2.1, (own_go sx.toNatClampNeg FX (0 : Int32) (p1, (0 : Int32), (0 : Int32), (0 : Int32), (0 : Int32))).2.2.2.2)).1) T122.heap n0 Z122 F122_scanned) (hb hby at_601) (lenOf own_pd7 rfl) (by decide) (by decide) (by rw [hml]; rfl) (Nat.le_of_eq rfl) (by decide) (by decide)
                                            obtain ⟨hv128, M128, e128⟩ := Q128
                                            rw [show (own_Fs b97 ((own_go (5 - sx.toNatClampNeg) FY sx ((own_go sx.toNatClampNeg FX (0 : Int32) (p1, (0 : Int32), (0 : Int32), (0 : Int32), (0 : Int32))).1, (own_go sx.toNatClampNeg FX (0 : Int32) (p1, (0 : Int32), (0 : Int32), (0 : Int32), (0 : Int32))).2.1, (own_go sx.toNatClampNeg FX (0 : Int32) (p1, (0 : Int32), (0 : Int32), (0 : Int32), (0 : Int32))).2.2.1, (own_go sx.toNatClampNeg FX (0 : Int32) (p1, (0 : Int32), (0 : Int32), (0 : Int32), (0 : Int32))).2.2.2.1, (own_go sx.toNatClampNeg FX (0 : Int32) (p1, (0 : Int32), (0 : Int32), (0 : Int32), (0 : Int32))).2.2.2.2)).1)) = (own_go (5 - sx.toNatClampNeg) FY sx ((own_go sx.toNatClampNeg FX (0 : Int32) (p1, (0 : Int32), (0 : Int32), (0 : Int32), (0 : Int32))).1, (own_go sx.toNatClampNeg FX (0 : Int32) (p1, (0 : Int32), (0 : Int32), (0 : Int32), (0 : Int32))).2.1, (own_go sx.toNatClampNeg FX (0 : Int32) (p1, (0 : Int32), (0 : Int32), (0 : Int32), (0 : Int32))).2.2.1, (own_go sx.toNatClampNeg FX (0 : Int32) (p1, (0 : Int32), (0 : Int32), (0 : Int32), (0 : Int32))).2.2.2.1, (own_go sx.toNatClampNeg FX (0 : Int32) (p1, (0 : Int32), (0 : Int32), (0 : Int32), (0 : Int32))).2.2.2.2)).1 from rfl] at hv128
                                            subst hv128
                                            have N128 := Fr.app N122 M128
                                            refine Run.back (g' := (mkF m 604 #[.val (.long q0), .second, .val (.int p1), .val (.int p2), .val (.ref b1), .val (.int sx), .val (.ref b18), .val (.ref b32), .val (.ref b61), .val (.int (own_Fn b1 (0 : Int32) FB)), .val (.int gv2), .val (.int gv3), .val (.int gv4), .val (.int ev1), .val (.int dv), .val (.int dv1), .val (.int cv1), .val (.int cv), .val (.ref b97), .val (.int ((own_go sx.toNatClampNeg FX (0 : Int32) (p1, (0 : Int32), (0 : Int32), (0 : Int32), (0 : Int32))).2.2.2.2 &&& 1)), .val (.int (own_go sx.toNatClampNeg FX (0 : Int32) (p1, (0 : Int32), (0 : Int32), (0 : Int32), (0 : Int32))).1), .val (.int ((own_go (5 - sx.toNatClampNeg) FY sx ((own_go sx.toNatClampNeg FX (0 : Int32) (p1, (0 : Int32), (0 : Int32), (0 : Int32), (0 : Int32))).1, (own_go sx.toNatClampNeg FX (0 : Int32) (p1, (0 : Int32), (0 : Int32), (0 : Int32), (0 : Int32))).2.1, (own_go sx.toNatClampNeg FX (0 : Int32) (p1, (0 : Int32), (0 : Int32), (0 : Int32), (0 : Int32))).2.2.1, (own_go sx.toNatClampNeg FX (0 : Int32) (p1, (0 : Int32), (0 : Int32), (0 : Int32), (0 : Int32))).2.2.2.1, (own_go sx.toNatClampNeg FX (0 : Int32) (p1, (0 : Int32), (0 : Int32), (0 : Int32), (0 : Int32))).2.2.2.2)).2.2.2.2 &&& 1)), .unset, .unset, .unset] [(.int (own_go (5 - sx.toNatClampNeg) FY sx ((own_go sx.toNatClampNeg FX (0 : Int32) (p1, (0 : Int32), (0 : Int32), (0 : Int32), (0 : Int32))).1, (own_go sx.toNatClampNeg FX (0 : Int32) (p1, (0 : Int32), (0 : Int32), (0 : Int32), (0 : Int32))).2.1, (own_go sx.toNatClampNeg FX (0 : Int32) (p1, (0 : Int32), (0 : Int32), (0 : Int32), (0 : Int32))).2.2.1, (own_go sx.toNatClampNeg FX (0 : Int32) (p1, (0 : Int32), (0 : Int32), (0 : Int32), (0 : Int32))).2.2.2.1, (own_go sx.toNatClampNeg FX (0 : Int32) (p1, (0 : Int32), (0 : Int32), (0 : Int32), (0 : Int32))).2.2.2.2)).1)])) st128 ?_
                                            refine Run.istore (pc' := 606) X128 hx (l' := #[.val (.long q0), .second, .val (.int p1), .val (.int p2), .val (.ref b1), .val (.int sx), .val (.ref b18), .val (.ref b32), .val (.ref b61), .val (.int (own_Fn b1 (0 : Int32) FB)), .val (.int gv2), .val (.int gv3), .val (.int gv4), .val (.int ev1), .val (.int dv), .val (.int dv1), .val (.int cv1), .val (.int cv), .val (.ref b97), .val (.int ((own_go sx.toNatClampNeg FX (0 : Int32) (p1, (0 : Int32), (0 : Int32), (0 : Int32), (0 : Int32))).2.2.2.2 &&& 1)), .val (.int (own_go sx.toNatClampNeg FX (0 : Int32) (p1, (0 : Int32), (0 : Int32), (0 : Int32), (0 : Int32))).1), .val (.int ((own_go (5 - sx.toNatClampNeg) FY sx ((own_go sx.toNatClampNeg FX (0 : Int32) (p1, (0 : Int32), (0 : Int32), (0 : Int32), (0 : Int32))).1, (own_go sx.toNatClampNeg FX (0 : Int32) (p1, (0 : Int32), (0 : Int32), (0 : Int32), (0 : Int32))).2.1, (own_go sx.toNatClampNeg FX (0 : Int32) (p1, (0 : Int32), (0 : Int32), (0 : Int32), (0 : Int32))).2.2.1, (own_go sx.toNatClampNeg FX (0 : Int32) (p1, (0 : Int32), (0 : Int32), (0 : Int32), (0 : Int32))).2.2.2.1, (own_go sx.toNatClampNeg FX (0 : Int32) (p1, (0 : Int32), (0 : Int32), (0 : Int32), (0 : Int32))).2.2.2.2)).2.2.2.2 &&& 1)), .val (.int (own_go (5 - sx.toNatClampNeg) FY sx ((own_go sx.toNatClampNeg FX (0 : Int32) (p1, (0 : Int32), (0 : Int32), (0 : Int32), (0 : Int32))).1, (own_go sx.toNatClampNeg FX (0 : Int32) (p1, (0 : Int32), (0 : Int32), (0 : Int32), (0 : Int32))).2.1, (own_go sx.toNatClampNeg FX (0 : Int32) (p1, (0 : Int32), (0 : Int32), (0 : Int32), (0 : Int32))).2.2.1, (own_go sx.toNatClampNeg FX (0 : Int32) (p1, (0 : Int32), (0 : Int32), (0 : Int32), (0 : Int32))).2.2.2.1, (own_go sx.toNatClampNeg FX (0 : Int32) (p1, (0 : Int32), (0 : Int32), (0 : Int32), (0 : Int32))).2.2.2.2)).1), .unset, .unset]) (hb hby at_604) rfl rfl ?_
                                            refine Run.aload (pc' := 608) X128 hx (hb hby at_606) rfl rfl ?_
                                            obtain ⟨T129, L129, v129, X129, Q129, st129⟩ := callVirtual X128 hx (y := (⟨"com/example/vez/vez/gateway/http/HeadEnd", "isWhole", "()Z"⟩ : MethodName)) (z := (⟨"com/example/vez/vez/gateway/http/HeadEnd", "isWhole", "()Z"⟩ : MethodName)) (C := "com/example/vez/vez/gateway/http/HeadEnd") (a := b97) (Ls := #[.val (.long q0), .second, .val (.int p1), .val (.int p2), .val (.ref b1), .val (.int sx), .val (.ref b18), .val (.ref b32), .val (.ref b61), .val (.int (own_Fn b1 (0 : Int32) FB)), .val (.int gv2), .val (.int gv3), .val (.int gv4), .val (.int ev1), .val (.int dv), .val (.int dv1), .val (.int cv1), .val (.int cv), .val (.ref b97), .val (.int ((own_go sx.toNatClampNeg FX (0 : Int32) (p1, (0 : Int32), (0 : Int32), (0 : Int32), (0 : Int32))).2.2.2.2 &&& 1)), .val (.int (own_go sx.toNatClampNeg FX (0 : Int32) (p1, (0 : Int32), (0 : Int32), (0 : Int32), (0 : Int32))).1), .val (.int ((own_go (5 - sx.toNatClampNeg) FY sx ((own_go sx.toNatClampNeg FX (0 : Int32) (p1, (0 : Int32), (0 : Int32), (0 : Int32), (0 : Int32))).1, (own_go sx.toNatClampNeg FX (0 : Int32) (p1, (0 : Int32), (0 : Int32), (0 : Int32), (0 : Int32))).2.1, (own_go sx.toNatClampNeg FX (0 : Int32) (p1, (0 : Int32), (0 : Int32), (0 : Int32), (0 : Int32))).2.2.1, (own_go sx.toNatClampNeg FX (0 : Int32) (p1, (0 : Int32), (0 : Int32), (0 : Int32), (0 : Int32))).2.2.2.1, (own_go sx.toNatClampNeg FX (0 : Int32) (p1, (0 : Int32), (0 : Int32), (0 : Int32), (0 : Int32))).2.2.2.2)).2.2.2.2 &&& 1)), .val (.int (own_go (5 - sx.toNatClampNeg) FY sx ((own_go sx.toNatClampNeg FX (0 : Int32) (p1, (0 : Int32), (0 : Int32), (0 : Int32), (0 : Int32))).1, (own_go sx.toNatClampNeg FX (0 : Int32) (p1, (0 : Int32), (0 : Int32), (0 : Int32), (0 : Int32))).2.1, (own_go sx.toNatClampNeg FX (0 : Int32) (p1, (0 : Int32), (0 : Int32), (0 : Int32), (0 : Int32))).2.2.1, (own_go sx.toNatClampNeg FX (0 : Int32) (p1, (0 : Int32), (0 : Int32), (0 : Int32), (0 : Int32))).2.2.2.1, (own_go sx.toNatClampNeg FX (0 : Int32) (p1, (0 : Int32), (0 : Int32), (0 : Int32), (0 : Int32))).2.2.2.2)).1), .unset, .unset]) (rest := []) (W := 0) (argsL := []) hZ hown (hw _ (List.mem_of_getElem? (i := 53) rfl)) (hw _ (List.mem_of_getElem? (i := 54) rfl)) (notFace_of_selects (args := #[]) (mvT hZ (hw _ (List.mem_of_getElem? (i := 56) rfl)))) (hw _ (List.mem_of_getElem? (i := 56) rfl)) (hw _ (List.mem_of_getElem? (i := 55) rfl)) (hw _ (List.mem_of_getElem? (i := 21) rfl)) (hw _ (List.mem_of_getElem? (i := 57) rfl)) (by decide) e128 E122 (rm_w l Z a0 hw [] b97 ((own_go (5 - sx.toNatClampNeg) FY sx ((own_go sx.toNatClampNeg FX (0 : Int32) (p1, (0 : Int32), (0 : Int32), (0 : Int32), (0 : Int32))).1, (own_go sx.toNatClampNeg FX (0 : Int32) (p1, (0 : Int32), (0 : Int32), (0 : Int32), (0 : Int32))).2.1, (own_go sx.toNatClampNeg FX (0 : Int32) (p1, (0 : Int32), (0 : Int32), (0 : Int32), (0 : Int32))).2.2.1, (own_go sx.toNatClampNeg FX (0 : Int32) (p1, (0 : Int32), (0 : Int32), (0 : Int32), (0 : Int32))).2.2.2.1, (own_go sx.toNatClampNeg FX (0 : Int32) (p1, (0 : Int32), (0 : Int32), (0 : Int32), (0 : Int32))).2.2.2.2)).2.2.2.2) T122.heap n0 Z122 F122_whole) (hb hby at_608) (lenOf own_pd8 rfl) (by decide) (by decide) (by rw [hml]; rfl) (Nat.le_of_eq rfl) (by decide) (by decide)
                                            obtain ⟨hv129, M129, e129⟩ := Q129
                                            rw [show (own_Fw b97 ((own_go (5 - sx.toNatClampNeg) FY sx ((own_go sx.toNatClampNeg FX (0 : Int32) (p1, (0 : Int32), (0 : Int32), (0 : Int32), (0 : Int32))).1, (own_go sx.toNatClampNeg FX (0 : Int32) (p1, (0 : Int32), (0 : Int32), (0 : Int32), (0 : Int32))).2.1, (own_go sx.toNatClampNeg FX (0 : Int32) (p1, (0 : Int32), (0 : Int32), (0 : Int32), (0 : Int32))).2.2.1, (own_go sx.toNatClampNeg FX (0 : Int32) (p1, (0 : Int32), (0 : Int32), (0 : Int32), (0 : Int32))).2.2.2.1, (own_go sx.toNatClampNeg FX (0 : Int32) (p1, (0 : Int32), (0 : Int32), (0 : Int32), (0 : Int32))).2.2.2.2)).2.2.2.2)) = ((own_go (5 - sx.toNatClampNeg) FY sx ((own_go sx.toNatClampNeg FX (0 : Int32) (p1, (0 : Int32), (0 : Int32), (0 : Int32), (0 : Int32))).1, (own_go sx.toNatClampNeg FX (0 : Int32) (p1, (0 : Int32), (0 : Int32), (0 : Int32), (0 : Int32))).2.1, (own_go sx.toNatClampNeg FX (0 : Int32) (p1, (0 : Int32), (0 : Int32), (0 : Int32), (0 : Int32))).2.2.1, (own_go sx.toNatClampNeg FX (0 : Int32) (p1, (0 : Int32), (0 : Int32), (0 : Int32), (0 : Int32))).2.2.2.1, (own_go sx.toNatClampNeg FX (0 : Int32) (p1, (0 : Int32), (0 : Int32), (0 : Int32), (0 : Int32))).2.2.2.2)).2.2.2.2 &&& 1) from rfl] at hv129
                                            subst hv129
                                            have N129 := Fr.app N128 M129
                                            refine Run.back (g' := (mkF m 611 #[.val (.long q0), .second, .val (.int p1), .val (.int p2), .val (.ref b1), .val (.int sx), .val (.ref b18), .val (.ref b32), .val (.ref b61), .val (.int (own_Fn b1 (0 : Int32) FB)), .val (.int gv2), .val (.int gv3), .val (.int gv4), .val (.int ev1), .val (.int dv), .val (.int dv1), .val (.int cv1), .val (.int cv), .val (.ref b97), .val (.int ((own_go sx.toNatClampNeg FX (0 : Int32) (p1, (0 : Int32), (0 : Int32), (0 : Int32), (0 : Int32))).2.2.2.2 &&& 1)), .val (.int (own_go sx.toNatClampNeg FX (0 : Int32) (p1, (0 : Int32), (0 : Int32), (0 : Int32), (0 : Int32))).1), .val (.int ((own_go (5 - sx.toNatClampNeg) FY sx ((own_go sx.toNatClampNeg FX (0 : Int32) (p1, (0 : Int32), (0 : Int32), (0 : Int32), (0 : Int32))).1, (own_go sx.toNatClampNeg FX (0 : Int32) (p1, (0 : Int32), (0 : Int32), (0 : Int32), (0 : Int32))).2.1, (own_go sx.toNatClampNeg FX (0 : Int32) (p1, (0 : Int32), (0 : Int32), (0 : Int32), (0 : Int32))).2.2.1, (own_go sx.toNatClampNeg FX (0 : Int32) (p1, (0 : Int32), (0 : Int32), (0 : Int32), (0 : Int32))).2.2.2.1, (own_go sx.toNatClampNeg FX (0 : Int32) (p1, (0 : Int32), (0 : Int32), (0 : Int32), (0 : Int32))).2.2.2.2)).2.2.2.2 &&& 1)), .val (.int (own_go (5 - sx.toNatClampNeg) FY sx ((own_go sx.toNatClampNeg FX (0 : Int32) (p1, (0 : Int32), (0 : Int32), (0 : Int32), (0 : Int32))).1, (own_go sx.toNatClampNeg FX (0 : Int32) (p1, (0 : Int32), (0 : Int32), (0 : Int32), (0 : Int32))).2.1, (own_go sx.toNatClampNeg FX (0 : Int32) (p1, (0 : Int32), (0 : Int32), (0 : Int32), (0 : Int32))).2.2.1, (own_go sx.toNatClampNeg FX (0 : Int32) (p1, (0 : Int32), (0 : Int32), (0 : Int32), (0 : Int32))).2.2.2.1, (own_go sx.toNatClampNeg FX (0 : Int32) (p1, (0 : Int32), (0 : Int32), (0 : Int32), (0 : Int32))).2.2.2.2)).1), .unset, .unset] [(.int ((own_go (5 - sx.toNatClampNeg) FY sx ((own_go sx.toNatClampNeg FX (0 : Int32) (p1, (0 : Int32), (0 : Int32), (0 : Int32), (0 : Int32))).1, (own_go sx.toNatClampNeg FX (0 : Int32) (p1, (0 : Int32), (0 : Int32), (0 : Int32), (0 : Int32))).2.1, (own_go sx.toNatClampNeg FX (0 : Int32) (p1, (0 : Int32), (0 : Int32), (0 : Int32), (0 : Int32))).2.2.1, (own_go sx.toNatClampNeg FX (0 : Int32) (p1, (0 : Int32), (0 : Int32), (0 : Int32), (0 : Int32))).2.2.2.1, (own_go sx.toNatClampNeg FX (0 : Int32) (p1, (0 : Int32), (0 : Int32), (0 : Int32), (0 : Int32))).2.2.2.2)).2.2.2.2 &&& 1))])) st129 ?_
                                            refine Run.istore (pc' := 613) X129 hx (l' := #[.val (.long q0), .second, .val (.int p1), .val (.int p2), .val (.ref b1), .val (.int sx), .val (.ref b18), .val (.ref b32), .val (.ref b61), .val (.int (own_Fn b1 (0 : Int32) FB)), .val (.int gv2), .val (.int gv3), .val (.int gv4), .val (.int ev1), .val (.int dv), .val (.int dv1), .val (.int cv1), .val (.int cv), .val (.ref b97), .val (.int ((own_go sx.toNatClampNeg FX (0 : Int32) (p1, (0 : Int32), (0 : Int32), (0 : Int32), (0 : Int32))).2.2.2.2 &&& 1)), .val (.int (own_go sx.toNatClampNeg FX (0 : Int32) (p1, (0 : Int32), (0 : Int32), (0 : Int32), (0 : Int32))).1), .val (.int ((own_go (5 - sx.toNatClampNeg) FY sx ((own_go sx.toNatClampNeg FX (0 : Int32) (p1, (0 : Int32), (0 : Int32), (0 : Int32), (0 : Int32))).1, (own_go sx.toNatClampNeg FX (0 : Int32) (p1, (0 : Int32), (0 : Int32), (0 : Int32), (0 : Int32))).2.1, (own_go sx.toNatClampNeg FX (0 : Int32) (p1, (0 : Int32), (0 : Int32), (0 : Int32), (0 : Int32))).2.2.1, (own_go sx.toNatClampNeg FX (0 : Int32) (p1, (0 : Int32), (0 : Int32), (0 : Int32), (0 : Int32))).2.2.2.1, (own_go sx.toNatClampNeg FX (0 : Int32) (p1, (0 : Int32), (0 : Int32), (0 : Int32), (0 : Int32))).2.2.2.2)).2.2.2.2 &&& 1)), .val (.int (own_go (5 - sx.toNatClampNeg) FY sx ((own_go sx.toNatClampNeg FX (0 : Int32) (p1, (0 : Int32), (0 : Int32), (0 : Int32), (0 : Int32))).1, (own_go sx.toNatClampNeg FX (0 : Int32) (p1, (0 : Int32), (0 : Int32), (0 : Int32), (0 : Int32))).2.1, (own_go sx.toNatClampNeg FX (0 : Int32) (p1, (0 : Int32), (0 : Int32), (0 : Int32), (0 : Int32))).2.2.1, (own_go sx.toNatClampNeg FX (0 : Int32) (p1, (0 : Int32), (0 : Int32), (0 : Int32), (0 : Int32))).2.2.2.1, (own_go sx.toNatClampNeg FX (0 : Int32) (p1, (0 : Int32), (0 : Int32), (0 : Int32), (0 : Int32))).2.2.2.2)).1), .val (.int ((own_go (5 - sx.toNatClampNeg) FY sx ((own_go sx.toNatClampNeg FX (0 : Int32) (p1, (0 : Int32), (0 : Int32), (0 : Int32), (0 : Int32))).1, (own_go sx.toNatClampNeg FX (0 : Int32) (p1, (0 : Int32), (0 : Int32), (0 : Int32), (0 : Int32))).2.1, (own_go sx.toNatClampNeg FX (0 : Int32) (p1, (0 : Int32), (0 : Int32), (0 : Int32), (0 : Int32))).2.2.1, (own_go sx.toNatClampNeg FX (0 : Int32) (p1, (0 : Int32), (0 : Int32), (0 : Int32), (0 : Int32))).2.2.2.1, (own_go sx.toNatClampNeg FX (0 : Int32) (p1, (0 : Int32), (0 : Int32), (0 : Int32), (0 : Int32))).2.2.2.2)).2.2.2.2 &&& 1)), .unset]) (hb hby at_611) rfl rfl ?_
                                            refine Run.aload (pc' := 615) X129 hx (hb hby at_613) rfl rfl ?_
                                            obtain ⟨T130, L130, v130, X130, Q130, st130⟩ := callVirtual X129 hx (y := (⟨"com/example/vez/vez/gateway/http/HeadEnd", "getEnd", "()I"⟩ : MethodName)) (z := (⟨"com/example/vez/vez/gateway/http/HeadEnd", "getEnd", "()I"⟩ : MethodName)) (C := "com/example/vez/vez/gateway/http/HeadEnd") (a := b97) (Ls := #[.val (.long q0), .second, .val (.int p1), .val (.int p2), .val (.ref b1), .val (.int sx), .val (.ref b18), .val (.ref b32), .val (.ref b61), .val (.int (own_Fn b1 (0 : Int32) FB)), .val (.int gv2), .val (.int gv3), .val (.int gv4), .val (.int ev1), .val (.int dv), .val (.int dv1), .val (.int cv1), .val (.int cv), .val (.ref b97), .val (.int ((own_go sx.toNatClampNeg FX (0 : Int32) (p1, (0 : Int32), (0 : Int32), (0 : Int32), (0 : Int32))).2.2.2.2 &&& 1)), .val (.int (own_go sx.toNatClampNeg FX (0 : Int32) (p1, (0 : Int32), (0 : Int32), (0 : Int32), (0 : Int32))).1), .val (.int ((own_go (5 - sx.toNatClampNeg) FY sx ((own_go sx.toNatClampNeg FX (0 : Int32) (p1, (0 : Int32), (0 : Int32), (0 : Int32), (0 : Int32))).1, (own_go sx.toNatClampNeg FX (0 : Int32) (p1, (0 : Int32), (0 : Int32), (0 : Int32), (0 : Int32))).2.1, (own_go sx.toNatClampNeg FX (0 : Int32) (p1, (0 : Int32), (0 : Int32), (0 : Int32), (0 : Int32))).2.2.1, (own_go sx.toNatClampNeg FX (0 : Int32) (p1, (0 : Int32), (0 : Int32), (0 : Int32), (0 : Int32))).2.2.2.1, (own_go sx.toNatClampNeg FX (0 : Int32) (p1, (0 : Int32), (0 : Int32), (0 : Int32), (0 : Int32))).2.2.2.2)).2.2.2.2 &&& 1)), .val (.int (own_go (5 - sx.toNatClampNeg) FY sx ((own_go sx.toNatClampNeg FX (0 : Int32) (p1, (0 : Int32), (0 : Int32), (0 : Int32), (0 : Int32))).1, (own_go sx.toNatClampNeg FX (0 : Int32) (p1, (0 : Int32), (0 : Int32), (0 : Int32), (0 : Int32))).2.1, (own_go sx.toNatClampNeg FX (0 : Int32) (p1, (0 : Int32), (0 : Int32), (0 : Int32), (0 : Int32))).2.2.1, (own_go sx.toNatClampNeg FX (0 : Int32) (p1, (0 : Int32), (0 : Int32), (0 : Int32), (0 : Int32))).2.2.2.1, (own_go sx.toNatClampNeg FX (0 : Int32) (p1, (0 : Int32), (0 : Int32), (0 : Int32), (0 : Int32))).2.2.2.2)).1), .val (.int ((own_go (5 - sx.toNatClampNeg) FY sx ((own_go sx.toNatClampNeg FX (0 : Int32) (p1, (0 : Int32), (0 : Int32), (0 : Int32), (0 : Int32))).1, (own_go sx.toNatClampNeg FX (0 : Int32) (p1, (0 : Int32), (0 : Int32), (0 : Int32), (0 : Int32))).2.1, (own_go sx.toNatClampNeg FX (0 : Int32) (p1, (0 : Int32), (0 : Int32), (0 : Int32), (0 : Int32))).2.2.1, (own_go sx.toNatClampNeg FX (0 : Int32) (p1, (0 : Int32), (0 : Int32), (0 : Int32), (0 : Int32))).2.2.2.1, (own_go sx.toNatClampNeg FX (0 : Int32) (p1, (0 : Int32), (0 : Int32), (0 : Int32), (0 : Int32))).2.2.2.2)).2.2.2.2 &&& 1)), .unset]) (rest := []) (W := 0) (argsL := []) hZ hown (hw _ (List.mem_of_getElem? (i := 58) rfl)) (hw _ (List.mem_of_getElem? (i := 59) rfl)) (notFace_of_selects (args := #[]) (mvT hZ (hw _ (List.mem_of_getElem? (i := 61) rfl)))) (hw _ (List.mem_of_getElem? (i := 61) rfl)) (hw _ (List.mem_of_getElem? (i := 60) rfl)) (hw _ (List.mem_of_getElem? (i := 21) rfl)) (hw _ (List.mem_of_getElem? (i := 62) rfl)) (by decide) e129 E122 (rm_e l Z a0 hw [] b97 ((own_go (5 - sx.toNatClampNeg) FY sx ((own_go sx.toNatClampNeg FX (0 : Int32) (p1, (0 : Int32), (0 : Int32), (0 : Int32), (0 : Int32))).1, (own_go sx.toNatClampNeg FX (0 : Int32) (p1, (0 : Int32), (0 : Int32), (0 : Int32), (0 : Int32))).2.1, (own_go sx.toNatClampNeg FX (0 : Int32) (p1, (0 : Int32), (0 : Int32), (0 : Int32), (0 : Int32))).2.2.1, (own_go sx.toNatClampNeg FX (0 : Int32) (p1, (0 : Int32), (0 : Int32), (0 : Int32), (0 : Int32))).2.2.2.1, (own_go sx.toNatClampNeg FX (0 : Int32) (p1, (0 : Int32), (0 : Int32), (0 : Int32), (0 : Int32))).2.2.2.2)).1) T122.heap n0 Z122 F122_scanned) (hb hby at_615) (lenOf own_pd7 rfl) (by decide) (by decide) (by rw [hml]; rfl) (Nat.le_of_eq rfl) (by decide) (by decide)
                                            obtain ⟨hv130, M130, e130⟩ := Q130
                                            rw [show (own_Fe b97 ((own_go (5 - sx.toNatClampNeg) FY sx ((own_go sx.toNatClampNeg FX (0 : Int32) (p1, (0 : Int32), (0 : Int32), (0 : Int32), (0 : Int32))).1, (own_go sx.toNatClampNeg FX (0 : Int32) (p1, (0 : Int32), (0 : Int32), (0 : Int32), (0 : Int32))).2.1, (own_go sx.toNatClampNeg FX (0 : Int32) (p1, (0 : Int32), (0 : Int32), (0 : Int32), (0 : Int32))).2.2.1, (own_go sx.toNatClampNeg FX (0 : Int32) (p1, (0 : Int32), (0 : Int32), (0 : Int32), (0 : Int32))).2.2.2.1, (own_go sx.toNatClampNeg FX (0 : Int32) (p1, (0 : Int32), (0 : Int32), (0 : Int32), (0 : Int32))).2.2.2.2)).1)) = (own_go (5 - sx.toNatClampNeg) FY sx ((own_go sx.toNatClampNeg FX (0 : Int32) (p1, (0 : Int32), (0 : Int32), (0 : Int32), (0 : Int32))).1, (own_go sx.toNatClampNeg FX (0 : Int32) (p1, (0 : Int32), (0 : Int32), (0 : Int32), (0 : Int32))).2.1, (own_go sx.toNatClampNeg FX (0 : Int32) (p1, (0 : Int32), (0 : Int32), (0 : Int32), (0 : Int32))).2.2.1, (own_go sx.toNatClampNeg FX (0 : Int32) (p1, (0 : Int32), (0 : Int32), (0 : Int32), (0 : Int32))).2.2.2.1, (own_go sx.toNatClampNeg FX (0 : Int32) (p1, (0 : Int32), (0 : Int32), (0 : Int32), (0 : Int32))).2.2.2.2)).1 from rfl] at hv130
                                            subst hv130
                                            have N130 := Fr.app N129 M130
                                            refine Run.back (g' := (mkF m 618 #[.val (.long q0), .second, .val (.int p1), .val (.int p2), .val (.ref b1), .val (.int sx), .val (.ref b18), .val (.ref b32), .val (.ref b61), .val (.int (own_Fn b1 (0 : Int32) FB)), .val (.int gv2), .val (.int gv3), .val (.int gv4), .val (.int ev1), .val (.int dv), .val (.int dv1), .val (.int cv1), .val (.int cv), .val (.ref b97), .val (.int ((own_go sx.toNatClampNeg FX (0 : Int32) (p1, (0 : Int32), (0 : Int32), (0 : Int32), (0 : Int32))).2.2.2.2 &&& 1)), .val (.int (own_go sx.toNatClampNeg FX (0 : Int32) (p1, (0 : Int32), (0 : Int32), (0 : Int32), (0 : Int32))).1), .val (.int ((own_go (5 - sx.toNatClampNeg) FY sx ((own_go sx.toNatClampNeg FX (0 : Int32) (p1, (0 : Int32), (0 : Int32), (0 : Int32), (0 : Int32))).1, (own_go sx.toNatClampNeg FX (0 : Int32) (p1, (0 : Int32), (0 : Int32), (0 : Int32), (0 : Int32))).2.1, (own_go sx.toNatClampNeg FX (0 : Int32) (p1, (0 : Int32), (0 : Int32), (0 : Int32), (0 : Int32))).2.2.1, (own_go sx.toNatClampNeg FX (0 : Int32) (p1, (0 : Int32), (0 : Int32), (0 : Int32), (0 : Int32))).2.2.2.1, (own_go sx.toNatClampNeg FX (0 : Int32) (p1, (0 : Int32), (0 : Int32), (0 : Int32), (0 : Int32))).2.2.2.2)).2.2.2.2 &&& 1)), .val (.int (own_go (5 - sx.toNatClampNeg) FY sx ((own_go sx.toNatClampNeg FX (0 : Int32) (p1, (0 : Int32), (0 : Int32), (0 : Int32), (0 : Int32))).1, (own_go sx.toNatClampNeg FX (0 : Int32) (p1, (0 : Int32), (0 : Int32), (0 : Int32), (0 : Int32))).2.1, (own_go sx.toNatClampNeg FX (0 : Int32) (p1, (0 : Int32), (0 : Int32), (0 : Int32), (0 : Int32))).2.2.1, (own_go sx.toNatClampNeg FX (0 : Int32) (p1, (0 : Int32), (0 : Int32), (0 : Int32), (0 : Int32))).2.2.2.1, (own_go sx.toNatClampNeg FX (0 : Int32) (p1, (0 : Int32), (0 : Int32), (0 : Int32), (0 : Int32))).2.2.2.2)).1), .val (.int ((own_go (5 - sx.toNatClampNeg) FY sx ((own_go sx.toNatClampNeg FX (0 : Int32) (p1, (0 : Int32), (0 : Int32), (0 : Int32), (0 : Int32))).1, (own_go sx.toNatClampNeg FX (0 : Int32) (p1, (0 : Int32), (0 : Int32), (0 : Int32), (0 : Int32))).2.1, (own_go sx.toNatClampNeg FX (0 : Int32) (p1, (0 : Int32), (0 : Int32), (0 : Int32), (0 : Int32))).2.2.1, (own_go sx.toNatClampNeg FX (0 : Int32) (p1, (0 : Int32), (0 : Int32), (0 : Int32), (0 : Int32))).2.2.2.1, (own_go sx.toNatClampNeg FX (0 : Int32) (p1, (0 : Int32), (0 : Int32), (0 : Int32), (0 : Int32))).2.2.2.2)).2.2.2.2 &&& 1)), .unset] [(.int (own_go (5 - sx.toNatClampNeg) FY sx ((own_go sx.toNatClampNeg FX (0 : Int32) (p1, (0 : Int32), (0 : Int32), (0 : Int32), (0 : Int32))).1, (own_go sx.toNatClampNeg FX (0 : Int32) (p1, (0 : Int32), (0 : Int32), (0 : Int32), (0 : Int32))).2.1, (own_go sx.toNatClampNeg FX (0 : Int32) (p1, (0 : Int32), (0 : Int32), (0 : Int32), (0 : Int32))).2.2.1, (own_go sx.toNatClampNeg FX (0 : Int32) (p1, (0 : Int32), (0 : Int32), (0 : Int32), (0 : Int32))).2.2.2.1, (own_go sx.toNatClampNeg FX (0 : Int32) (p1, (0 : Int32), (0 : Int32), (0 : Int32), (0 : Int32))).2.2.2.2)).1)])) st130 ?_
                                            refine Run.istore (pc' := 620) X130 hx (l' := #[.val (.long q0), .second, .val (.int p1), .val (.int p2), .val (.ref b1), .val (.int sx), .val (.ref b18), .val (.ref b32), .val (.ref b61), .val (.int (own_Fn b1 (0 : Int32) FB)), .val (.int gv2), .val (.int gv3), .val (.int gv4), .val (.int ev1), .val (.int dv), .val (.int dv1), .val (.int cv1), .val (.int cv), .val (.ref b97), .val (.int ((own_go sx.toNatClampNeg FX (0 : Int32) (p1, (0 : Int32), (0 : Int32), (0 : Int32), (0 : Int32))).2.2.2.2 &&& 1)), .val (.int (own_go sx.toNatClampNeg FX (0 : Int32) (p1, (0 : Int32), (0 : Int32), (0 : Int32), (0 : Int32))).1), .val (.int ((own_go (5 - sx.toNatClampNeg) FY sx ((own_go sx.toNatClampNeg FX (0 : Int32) (p1, (0 : Int32), (0 : Int32), (0 : Int32), (0 : Int32))).1, (own_go sx.toNatClampNeg FX (0 : Int32) (p1, (0 : Int32), (0 : Int32), (0 : Int32), (0 : Int32))).2.1, (own_go sx.toNatClampNeg FX (0 : Int32) (p1, (0 : Int32), (0 : Int32), (0 : Int32), (0 : Int32))).2.2.1, (own_go sx.toNatClampNeg FX (0 : Int32) (p1, (0 : Int32), (0 : Int32), (0 : Int32), (0 : Int32))).2.2.2.1, (own_go sx.toNatClampNeg FX (0 : Int32) (p1, (0 : Int32), (0 : Int32), (0 : Int32), (0 : Int32))).2.2.2.2)).2.2.2.2 &&& 1)), .val (.int (own_go (5 - sx.toNatClampNeg) FY sx ((own_go sx.toNatClampNeg FX (0 : Int32) (p1, (0 : Int32), (0 : Int32), (0 : Int32), (0 : Int32))).1, (own_go sx.toNatClampNeg FX (0 : Int32) (p1, (0 : Int32), (0 : Int32), (0 : Int32), (0 : Int32))).2.1, (own_go sx.toNatClampNeg FX (0 : Int32) (p1, (0 : Int32), (0 : Int32), (0 : Int32), (0 : Int32))).2.2.1, (own_go sx.toNatClampNeg FX (0 : Int32) (p1, (0 : Int32), (0 : Int32), (0 : Int32), (0 : Int32))).2.2.2.1, (own_go sx.toNatClampNeg FX (0 : Int32) (p1, (0 : Int32), (0 : Int32), (0 : Int32), (0 : Int32))).2.2.2.2)).1), .val (.int ((own_go (5 - sx.toNatClampNeg) FY sx ((own_go sx.toNatClampNeg FX (0 : Int32) (p1, (0 : Int32), (0 : Int32), (0 : Int32), (0 : Int32))).1, (own_go sx.toNatClampNeg FX (0 : Int32) (p1, (0 : Int32), (0 : Int32), (0 : Int32), (0 : Int32))).2.1, (own_go sx.toNatClampNeg FX (0 : Int32) (p1, (0 : Int32), (0 : Int32), (0 : Int32), (0 : Int32))).2.2.1, (own_go sx.toNatClampNeg FX (0 : Int32) (p1, (0 : Int32), (0 : Int32), (0 : Int32), (0 : Int32))).2.2.2.1, (own_go sx.toNatClampNeg FX (0 : Int32) (p1, (0 : Int32), (0 : Int32), (0 : Int32), (0 : Int32))).2.2.2.2)).2.2.2.2 &&& 1)), .val (.int (own_go (5 - sx.toNatClampNeg) FY sx ((own_go sx.toNatClampNeg FX (0 : Int32) (p1, (0 : Int32), (0 : Int32), (0 : Int32), (0 : Int32))).1, (own_go sx.toNatClampNeg FX (0 : Int32) (p1, (0 : Int32), (0 : Int32), (0 : Int32), (0 : Int32))).2.1, (own_go sx.toNatClampNeg FX (0 : Int32) (p1, (0 : Int32), (0 : Int32), (0 : Int32), (0 : Int32))).2.2.1, (own_go sx.toNatClampNeg FX (0 : Int32) (p1, (0 : Int32), (0 : Int32), (0 : Int32), (0 : Int32))).2.2.2.1, (own_go sx.toNatClampNeg FX (0 : Int32) (p1, (0 : Int32), (0 : Int32), (0 : Int32), (0 : Int32))).2.2.2.2)).1)]) (hb hby at_618) rfl rfl ?_
                                            have FIN := own_final b1 FB FX FY sx p1 vv0 vv1 vv2 vv3 vv4 ww0 ww1 ww2 ww3 ww4 gv2 gv3 gv4 ev4 ev3 ev2 ev1 dv dv1 cv1 cv hs y0 y1 y2 y3 y4 fx0 fx1 fx2 fx3 fx4 fy0 fy1 fy2 fy3 fy4 hv_vv0 hv_vv1 hv_vv2 hv_vv3 hv_vv4 hv_ww0 hv_ww1 hv_ww2 hv_ww3 hv_ww4 hv_gv2 hv_gv3 hv_gv4 hv_ev4 hv_ev3 hv_ev2 hv_ev1 hv_dv hv_dv1 hv_cv1 hv_cv
                                            refine Run.iload (pc' := 622) X130 hx (hb hby at_620) rfl rfl ?_
                                            refine Run.iload (pc' := 624) X130 hx (hb hby at_622) rfl rfl ?_
                                            refine Run.icmpNo (pc' := 627) X130 hx (hb hby at_624) (teq FIN.1).2 rfl ?_
                                            refine Run.iload (pc' := 629) X130 hx (hb hby at_627) rfl rfl ?_
                                            refine Run.iloadN (pc' := 630) X130 hx (hb hby at_629) rfl rfl ?_
                                            refine Run.iload (pc' := 632) X130 hx (hb hby at_630) rfl rfl ?_
                                            refine Run.iadd (pc' := 633) X130 hx (hb hby at_632) rfl ?_
                                            refine Run.icmpNo (pc' := 636) X130 hx (hb hby at_633) (teq FIN.2.1).2 rfl ?_
                                            refine Run.iload (pc' := 638) X130 hx (hb hby at_636) rfl rfl ?_
                                            refine Run.iload (pc' := 640) X130 hx (hb hby at_638) rfl rfl ?_
                                            refine Run.icmpNo (pc' := 643) X130 hx (hb hby at_640) (teq FIN.2.2.1).2 rfl ?_
                                            refine Run.iload (pc' := 645) X130 hx (hb hby at_643) rfl rfl ?_
                                            refine Run.iloadN (pc' := 646) X130 hx (hb hby at_645) rfl rfl ?_
                                            refine Run.iload (pc' := 648) X130 hx (hb hby at_646) rfl rfl ?_
                                            refine Run.iadd (pc' := 649) X130 hx (hb hby at_648) rfl ?_
                                            refine Run.icmpNo (pc' := 652) X130 hx (hb hby at_649) (teq FIN.2.2.2.1).2 rfl ?_
                                            refine Run.iload (pc' := 654) X130 hx (hb hby at_652) rfl rfl ?_
                                            refine Run.iload (pc' := 656) X130 hx (hb hby at_654) rfl rfl ?_
                                            refine Run.icmpNo (pc' := 659) X130 hx (hb hby at_656) (teq FIN.2.2.2.2.1).2 rfl ?_
                                            refine Run.iload (pc' := 661) X130 hx (hb hby at_659) rfl rfl ?_
                                            refine Run.iloadN (pc' := 662) X130 hx (hb hby at_661) rfl rfl ?_
                                            refine Run.iload (pc' := 664) X130 hx (hb hby at_662) rfl rfl ?_
                                            refine Run.iadd (pc' := 665) X130 hx (hb hby at_664) rfl ?_
                                            refine Run.icmpNo (pc' := 668) X130 hx (hb hby at_665) (teq FIN.2.2.2.2.2).2 rfl ?_
                                            refine Run.iconst (pc' := 669) (v := (1 : Int32)) X130 hx (hb hby at_668) rfl rfl ?_
                                            refine Run.goto (pc' := 673) X130 hx (hb hby at_669) (by decide) (by decide) ?_
                                            exact Run.retSmall X130 hx (t := .boolean) (z' := (1 : Int32)) Bd.notSynchronized Bd.returns (by simp) rfl (hb hby at_673) ⟨rfl, N130⟩ (by decide) (by decide)
                                          by_cases hc530 : dv = (0 : Int32)
                                          · skip
                                            refine Run.ifYes (pc' := 540) X_526 hx (hb hby at_530) ((if0 _ _).trans (teq hc530).1) (by decide) (by decide) ?_
                                            refine Run.iconst (pc' := 541) (v := (5 : Int32)) X_526 hx (hb hby at_540) rfl rfl ?_
                                            exact J541 _ (by rw [if_pos hc530]) _ _ X_526 e_526 N_526
                                          · skip
                                            refine Run.ifNo (pc' := 533) X_526 hx (hb hby at_530) ((if0 _ _).trans (feq hc530).1) rfl ?_
                                            refine Run.iload (pc' := 535) X_526 hx (hb hby at_533) rfl rfl ?_
                                            refine Run.iconst (pc' := 536) (v := (1 : Int32)) X_526 hx (hb hby at_535) rfl rfl ?_
                                            refine Run.iadd (pc' := 537) X_526 hx (hb hby at_536) rfl ?_
                                            refine Run.goto (pc' := 541) X_526 hx (hb hby at_537) (by decide) (by decide) ?_
                                            exact J541 _ (by rw [if_neg hc530]) _ _ X_526 e_526 N_526
                                        by_cases hc514 : dv1 = (0 : Int32)
                                        · skip
                                          refine Run.ifYes (pc' := 524) X_510 hx (hb hby at_514) ((if0 _ _).trans (teq hc514).1) (by decide) (by decide) ?_
                                          refine Run.iload (pc' := 526) X_510 hx (hb hby at_524) rfl rfl ?_
                                          exact J526 _ (by rw [if_pos hc514]) _ _ X_510 e_510 N_510
                                        · skip
                                          refine Run.ifNo (pc' := 517) X_510 hx (hb hby at_514) ((if0 _ _).trans (feq hc514).1) rfl ?_
                                          refine Run.iload (pc' := 519) X_510 hx (hb hby at_517) rfl rfl ?_
                                          refine Run.iconst (pc' := 520) (v := (1 : Int32)) X_510 hx (hb hby at_519) rfl rfl ?_
                                          refine Run.iadd (pc' := 521) X_510 hx (hb hby at_520) rfl ?_
                                          refine Run.goto (pc' := 526) X_510 hx (hb hby at_521) (by decide) (by decide) ?_
                                          exact J526 _ (by rw [if_neg hc514]) _ _ X_510 e_510 N_510
                                      by_cases hc495 : dv = (0 : Int32)
                                      · skip
                                        refine Run.ifYes (pc' := 509) X_491 hx (hb hby at_495) ((if0 _ _).trans (teq hc495).1) (by decide) (by decide) ?_
                                        refine Run.iconst (pc' := 510) (v := (0 : Int32)) X_491 hx (hb hby at_509) rfl rfl ?_
                                        exact J510 _ (by rw [if_pos hc495]) _ _ X_491 e_491 N_491
                                      · skip
                                        refine Run.ifNo (pc' := 498) X_491 hx (hb hby at_495) ((if0 _ _).trans (feq hc495).1) rfl ?_
                                        refine Run.iload (pc' := 500) X_491 hx (hb hby at_498) rfl rfl ?_
                                        refine Run.iload (pc' := 502) X_491 hx (hb hby at_500) rfl rfl ?_
                                        by_cases hc502 : ev1 < sx
                                        · skip
                                          refine Run.icmpNo (pc' := 505) X_491 hx (hb hby at_502) (tlt hc502).2.1 rfl ?_
                                          refine Run.iconst (pc' := 506) (v := (1 : Int32)) X_491 hx (hb hby at_505) rfl rfl ?_
                                          refine Run.goto (pc' := 510) X_491 hx (hb hby at_506) (by decide) (by decide) ?_
                                          exact J510 _ (by rw [if_neg hc495, if_pos hc502]) _ _ X_491 e_491 N_491
                                        · skip
                                          refine Run.icmpYes (pc' := 509) X_491 hx (hb hby at_502) (flt hc502).2.1 (by decide) (by decide) ?_
                                          refine Run.iconst (pc' := 510) (v := (0 : Int32)) X_491 hx (hb hby at_509) rfl rfl ?_
                                          exact J510 _ (by rw [if_neg hc495, if_neg hc502]) _ _ X_491 e_491 N_491
                                    by_cases hc483 : ev1 < (0 : Int32)
                                    · skip
                                      refine Run.ifYes (pc' := 490) X_481 hx (hb hby at_483) ((if0 _ _).trans (tlt hc483).1) (by decide) (by decide) ?_
                                      refine Run.iconst (pc' := 491) (v := (0 : Int32)) X_481 hx (hb hby at_490) rfl rfl ?_
                                      exact J491 _ (by rw [if_pos hc483]) _ _ X_481 e_481 N_481
                                    · skip
                                      refine Run.ifNo (pc' := 486) X_481 hx (hb hby at_483) ((if0 _ _).trans (flt hc483).1) rfl ?_
                                      refine Run.iconst (pc' := 487) (v := (1 : Int32)) X_481 hx (hb hby at_486) rfl rfl ?_
                                      refine Run.goto (pc' := 491) X_481 hx (hb hby at_487) (by decide) (by decide) ?_
                                      exact J491 _ (by rw [if_neg hc483]) _ _ X_481 e_481 N_481
                                  by_cases hc466 : (own_Fn b1 (0 : Int32) FB) = (0 : Int32)
                                  · skip
                                    refine Run.ifYes (pc' := 481) X_464 hx (hb hby at_466) ((if0 _ _).trans (teq hc466).1) (by decide) (by decide) ?_
                                    exact J481 _ (by rw [if_pos hc466]) _ _ X_464 e_464 N_464
                                  · skip
                                    refine Run.ifNo (pc' := 469) X_464 hx (hb hby at_466) ((if0 _ _).trans (feq hc466).1) rfl ?_
                                    refine Run.aload (pc' := 471) X_464 hx (hb hby at_469) rfl rfl ?_
                                    refine Run.iconst (pc' := 472) (v := (1 : Int32)) X_464 hx (hb hby at_471) rfl rfl ?_
                                    obtain ⟨T131, L131, v131, X131, Q131, st131⟩ := callStatic X_464 hx (y := (⟨"com/example/vez/vez/gateway/http/HeadEndFindPinLaw", "em", "([BI)Z"⟩ : MethodName)) (Ls := #[.val (.long q0), .second, .val (.int p1), .val (.int p2), .val (.ref b1), .val (.int sx), .val (.ref b18), .val (.ref b32), .val (.ref b61), .val (.int (own_Fn b1 (0 : Int32) FB)), .val (.int gv2), .val (.int gv3), .val (.int gv4), .val (.int ev2), .unset, .unset, .unset, .unset, .unset, .unset, .unset, .unset, .unset, .unset, .unset]) (rest := []) (W := 0) (argsL := [(.ref b1), (.int (1 : Int32))]) hZ hown (hw _ (List.mem_of_getElem? (i := 16) rfl)) (hw _ (List.mem_of_getElem? (i := 17) rfl)) (hw _ (List.mem_of_getElem? (i := 3) rfl)) (hw _ (List.mem_of_getElem? (i := 18) rfl)) (by decide) e_464 (rm_m l Z a0 hw [] b1 (1 : Int32) FB h90 n0 Z90 fq92 (by decide) (by decide)) (hb hby at_472) (lenOf own_pd1 rfl) (by decide) (by decide) (by rw [hml]; rfl) (Nat.le_of_eq rfl) (by decide) (by decide)
                                    obtain ⟨rfl, M131, e131⟩ := Q131
                                    have N131 := Fr.app N_464 M131
                                    refine Run.back (g' := (mkF m 475 #[.val (.long q0), .second, .val (.int p1), .val (.int p2), .val (.ref b1), .val (.int sx), .val (.ref b18), .val (.ref b32), .val (.ref b61), .val (.int (own_Fn b1 (0 : Int32) FB)), .val (.int gv2), .val (.int gv3), .val (.int gv4), .val (.int ev2), .unset, .unset, .unset, .unset, .unset, .unset, .unset, .unset, .unset, .unset, .unset] [(.int (own_Fm b1 (1 : Int32) FB))])) st131 ?_
                                    by_cases hc475 : (own_Fm b1 (1 : Int32) FB) = (0 : Int32)
                                    · skip
                                      refine Run.ifYes (pc' := 481) X131 hx (hb hby at_475) ((if0 _ _).trans (teq hc475).1) (by decide) (by decide) ?_
                                      exact J481 _ (by rw [if_neg hc466, if_pos hc475]) _ _ X131 e131 N131
                                    · skip
                                      refine Run.ifNo (pc' := 478) X131 hx (hb hby at_475) ((if0 _ _).trans (feq hc475).1) rfl ?_
                                      refine Run.iconst (pc' := 479) (v := (1 : Int32)) X131 hx (hb hby at_478) rfl rfl ?_
                                      refine Run.istore (pc' := 481) X131 hx (l' := #[.val (.long q0), .second, .val (.int p1), .val (.int p2), .val (.ref b1), .val (.int sx), .val (.ref b18), .val (.ref b32), .val (.ref b61), .val (.int (own_Fn b1 (0 : Int32) FB)), .val (.int gv2), .val (.int gv3), .val (.int gv4), .val (.int (1 : Int32)), .unset, .unset, .unset, .unset, .unset, .unset, .unset, .unset, .unset, .unset, .unset]) (hb hby at_479) rfl rfl ?_
                                      exact J481 _ (by rw [if_neg hc466, if_neg hc475]) _ _ X131 e131 N131
                                by_cases hc449 : gv2 = (0 : Int32)
                                · skip
                                  refine Run.ifYes (pc' := 464) X_447 hx (hb hby at_449) ((if0 _ _).trans (teq hc449).1) (by decide) (by decide) ?_
                                  exact J464 _ (by rw [if_pos hc449]) _ _ X_447 e_447 N_447
                                · skip
                                  refine Run.ifNo (pc' := 452) X_447 hx (hb hby at_449) ((if0 _ _).trans (feq hc449).1) rfl ?_
                                  refine Run.aload (pc' := 454) X_447 hx (hb hby at_452) rfl rfl ?_
                                  refine Run.iconst (pc' := 455) (v := (2 : Int32)) X_447 hx (hb hby at_454) rfl rfl ?_
                                  obtain ⟨T132, L132, v132, X132, Q132, st132⟩ := callStatic X_447 hx (y := (⟨"com/example/vez/vez/gateway/http/HeadEndFindPinLaw", "em", "([BI)Z"⟩ : MethodName)) (Ls := #[.val (.long q0), .second, .val (.int p1), .val (.int p2), .val (.ref b1), .val (.int sx), .val (.ref b18), .val (.ref b32), .val (.ref b61), .val (.int (own_Fn b1 (0 : Int32) FB)), .val (.int gv2), .val (.int gv3), .val (.int gv4), .val (.int ev3), .unset, .unset, .unset, .unset, .unset, .unset, .unset, .unset, .unset, .unset, .unset]) (rest := []) (W := 0) (argsL := [(.ref b1), (.int (2 : Int32))]) hZ hown (hw _ (List.mem_of_getElem? (i := 16) rfl)) (hw _ (List.mem_of_getElem? (i := 17) rfl)) (hw _ (List.mem_of_getElem? (i := 3) rfl)) (hw _ (List.mem_of_getElem? (i := 18) rfl)) (by decide) e_447 (rm_m l Z a0 hw [] b1 (2 : Int32) FB h90 n0 Z90 fq92 (by decide) (by decide)) (hb hby at_455) (lenOf own_pd1 rfl) (by decide) (by decide) (by rw [hml]; rfl) (Nat.le_of_eq rfl) (by decide) (by decide)
                                  obtain ⟨rfl, M132, e132⟩ := Q132
                                  have N132 := Fr.app N_447 M132
                                  refine Run.back (g' := (mkF m 458 #[.val (.long q0), .second, .val (.int p1), .val (.int p2), .val (.ref b1), .val (.int sx), .val (.ref b18), .val (.ref b32), .val (.ref b61), .val (.int (own_Fn b1 (0 : Int32) FB)), .val (.int gv2), .val (.int gv3), .val (.int gv4), .val (.int ev3), .unset, .unset, .unset, .unset, .unset, .unset, .unset, .unset, .unset, .unset, .unset] [(.int (own_Fm b1 (2 : Int32) FB))])) st132 ?_
                                  by_cases hc458 : (own_Fm b1 (2 : Int32) FB) = (0 : Int32)
                                  · skip
                                    refine Run.ifYes (pc' := 464) X132 hx (hb hby at_458) ((if0 _ _).trans (teq hc458).1) (by decide) (by decide) ?_
                                    exact J464 _ (by rw [if_neg hc449, if_pos hc458]) _ _ X132 e132 N132
                                  · skip
                                    refine Run.ifNo (pc' := 461) X132 hx (hb hby at_458) ((if0 _ _).trans (feq hc458).1) rfl ?_
                                    refine Run.iconst (pc' := 462) (v := (2 : Int32)) X132 hx (hb hby at_461) rfl rfl ?_
                                    refine Run.istore (pc' := 464) X132 hx (l' := #[.val (.long q0), .second, .val (.int p1), .val (.int p2), .val (.ref b1), .val (.int sx), .val (.ref b18), .val (.ref b32), .val (.ref b61), .val (.int (own_Fn b1 (0 : Int32) FB)), .val (.int gv2), .val (.int gv3), .val (.int gv4), .val (.int (2 : Int32)), .unset, .unset, .unset, .unset, .unset, .unset, .unset, .unset, .unset, .unset, .unset]) (hb hby at_462) rfl rfl ?_
                                    exact J464 _ (by rw [if_neg hc449, if_neg hc458]) _ _ X132 e132 N132
                              by_cases hc432 : gv3 = (0 : Int32)
                              · skip
                                refine Run.ifYes (pc' := 447) X_430 hx (hb hby at_432) ((if0 _ _).trans (teq hc432).1) (by decide) (by decide) ?_
                                exact J447 _ (by rw [if_pos hc432]) _ _ X_430 e_430 N_430
                              · skip
                                refine Run.ifNo (pc' := 435) X_430 hx (hb hby at_432) ((if0 _ _).trans (feq hc432).1) rfl ?_
                                refine Run.aload (pc' := 437) X_430 hx (hb hby at_435) rfl rfl ?_
                                refine Run.iconst (pc' := 438) (v := (3 : Int32)) X_430 hx (hb hby at_437) rfl rfl ?_
                                obtain ⟨T133, L133, v133, X133, Q133, st133⟩ := callStatic X_430 hx (y := (⟨"com/example/vez/vez/gateway/http/HeadEndFindPinLaw", "em", "([BI)Z"⟩ : MethodName)) (Ls := #[.val (.long q0), .second, .val (.int p1), .val (.int p2), .val (.ref b1), .val (.int sx), .val (.ref b18), .val (.ref b32), .val (.ref b61), .val (.int (own_Fn b1 (0 : Int32) FB)), .val (.int gv2), .val (.int gv3), .val (.int gv4), .val (.int ev4), .unset, .unset, .unset, .unset, .unset, .unset, .unset, .unset, .unset, .unset, .unset]) (rest := []) (W := 0) (argsL := [(.ref b1), (.int (3 : Int32))]) hZ hown (hw _ (List.mem_of_getElem? (i := 16) rfl)) (hw _ (List.mem_of_getElem? (i := 17) rfl)) (hw _ (List.mem_of_getElem? (i := 3) rfl)) (hw _ (List.mem_of_getElem? (i := 18) rfl)) (by decide) e_430 (rm_m l Z a0 hw [] b1 (3 : Int32) FB h90 n0 Z90 fq92 (by decide) (by decide)) (hb hby at_438) (lenOf own_pd1 rfl) (by decide) (by decide) (by rw [hml]; rfl) (Nat.le_of_eq rfl) (by decide) (by decide)
                                obtain ⟨rfl, M133, e133⟩ := Q133
                                have N133 := Fr.app N_430 M133
                                refine Run.back (g' := (mkF m 441 #[.val (.long q0), .second, .val (.int p1), .val (.int p2), .val (.ref b1), .val (.int sx), .val (.ref b18), .val (.ref b32), .val (.ref b61), .val (.int (own_Fn b1 (0 : Int32) FB)), .val (.int gv2), .val (.int gv3), .val (.int gv4), .val (.int ev4), .unset, .unset, .unset, .unset, .unset, .unset, .unset, .unset, .unset, .unset, .unset] [(.int (own_Fm b1 (3 : Int32) FB))])) st133 ?_
                                by_cases hc441 : (own_Fm b1 (3 : Int32) FB) = (0 : Int32)
                                · skip
                                  refine Run.ifYes (pc' := 447) X133 hx (hb hby at_441) ((if0 _ _).trans (teq hc441).1) (by decide) (by decide) ?_
                                  exact J447 _ (by rw [if_neg hc432, if_pos hc441]) _ _ X133 e133 N133
                                · skip
                                  refine Run.ifNo (pc' := 444) X133 hx (hb hby at_441) ((if0 _ _).trans (feq hc441).1) rfl ?_
                                  refine Run.iconst (pc' := 445) (v := (3 : Int32)) X133 hx (hb hby at_444) rfl rfl ?_
                                  refine Run.istore (pc' := 447) X133 hx (l' := #[.val (.long q0), .second, .val (.int p1), .val (.int p2), .val (.ref b1), .val (.int sx), .val (.ref b18), .val (.ref b32), .val (.ref b61), .val (.int (own_Fn b1 (0 : Int32) FB)), .val (.int gv2), .val (.int gv3), .val (.int gv4), .val (.int (3 : Int32)), .unset, .unset, .unset, .unset, .unset, .unset, .unset, .unset, .unset, .unset, .unset]) (hb hby at_445) rfl rfl ?_
                                  exact J447 _ (by rw [if_neg hc432, if_neg hc441]) _ _ X133 e133 N133
                            by_cases hc415 : gv4 = (0 : Int32)
                            · skip
                              refine Run.ifYes (pc' := 430) X_408 hx (hb hby at_415) ((if0 _ _).trans (teq hc415).1) (by decide) (by decide) ?_
                              exact J430 _ (by rw [if_pos hc415]) _ _ X_408 e_408 N_408
                            · skip
                              refine Run.ifNo (pc' := 418) X_408 hx (hb hby at_415) ((if0 _ _).trans (feq hc415).1) rfl ?_
                              refine Run.aload (pc' := 420) X_408 hx (hb hby at_418) rfl rfl ?_
                              refine Run.iconst (pc' := 421) (v := (4 : Int32)) X_408 hx (hb hby at_420) rfl rfl ?_
                              obtain ⟨T134, L134, v134, X134, Q134, st134⟩ := callStatic X_408 hx (y := (⟨"com/example/vez/vez/gateway/http/HeadEndFindPinLaw", "em", "([BI)Z"⟩ : MethodName)) (Ls := #[.val (.long q0), .second, .val (.int p1), .val (.int p2), .val (.ref b1), .val (.int sx), .val (.ref b18), .val (.ref b32), .val (.ref b61), .val (.int (own_Fn b1 (0 : Int32) FB)), .val (.int gv2), .val (.int gv3), .val (.int gv4), .val (.int (-1 : Int32)), .unset, .unset, .unset, .unset, .unset, .unset, .unset, .unset, .unset, .unset, .unset]) (rest := []) (W := 0) (argsL := [(.ref b1), (.int (4 : Int32))]) hZ hown (hw _ (List.mem_of_getElem? (i := 16) rfl)) (hw _ (List.mem_of_getElem? (i := 17) rfl)) (hw _ (List.mem_of_getElem? (i := 3) rfl)) (hw _ (List.mem_of_getElem? (i := 18) rfl)) (by decide) e_408 (rm_m l Z a0 hw [] b1 (4 : Int32) FB h90 n0 Z90 fq92 (by decide) (by decide)) (hb hby at_421) (lenOf own_pd1 rfl) (by decide) (by decide) (by rw [hml]; rfl) (Nat.le_of_eq rfl) (by decide) (by decide)
                              obtain ⟨rfl, M134, e134⟩ := Q134
                              have N134 := Fr.app N_408 M134
                              refine Run.back (g' := (mkF m 424 #[.val (.long q0), .second, .val (.int p1), .val (.int p2), .val (.ref b1), .val (.int sx), .val (.ref b18), .val (.ref b32), .val (.ref b61), .val (.int (own_Fn b1 (0 : Int32) FB)), .val (.int gv2), .val (.int gv3), .val (.int gv4), .val (.int (-1 : Int32)), .unset, .unset, .unset, .unset, .unset, .unset, .unset, .unset, .unset, .unset, .unset] [(.int (own_Fm b1 (4 : Int32) FB))])) st134 ?_
                              by_cases hc424 : (own_Fm b1 (4 : Int32) FB) = (0 : Int32)
                              · skip
                                refine Run.ifYes (pc' := 430) X134 hx (hb hby at_424) ((if0 _ _).trans (teq hc424).1) (by decide) (by decide) ?_
                                exact J430 _ (by rw [if_neg hc415, if_pos hc424]) _ _ X134 e134 N134
                              · skip
                                refine Run.ifNo (pc' := 427) X134 hx (hb hby at_424) ((if0 _ _).trans (feq hc424).1) rfl ?_
                                refine Run.iconst (pc' := 428) (v := (4 : Int32)) X134 hx (hb hby at_427) rfl rfl ?_
                                refine Run.istore (pc' := 430) X134 hx (l' := #[.val (.long q0), .second, .val (.int p1), .val (.int p2), .val (.ref b1), .val (.int sx), .val (.ref b18), .val (.ref b32), .val (.ref b61), .val (.int (own_Fn b1 (0 : Int32) FB)), .val (.int gv2), .val (.int gv3), .val (.int gv4), .val (.int (4 : Int32)), .unset, .unset, .unset, .unset, .unset, .unset, .unset, .unset, .unset, .unset, .unset]) (hb hby at_428) rfl rfl ?_
                                exact J430 _ (by rw [if_neg hc415, if_neg hc424]) _ _ X134 e134 N134
                          by_cases hc391 : gv3 = (0 : Int32)
                          · skip
                            refine Run.ifNo (pc' := 394) X_387 hx (hb hby at_391) ((if0 _ _).trans (teq hc391).2) rfl ?_
                            refine Run.aload (pc' := 396) X_387 hx (hb hby at_394) rfl rfl ?_
                            refine Run.iconst (pc' := 397) (v := (3 : Int32)) X_387 hx (hb hby at_396) rfl rfl ?_
                            obtain ⟨T135, L135, v135, X135, Q135, st135⟩ := callStatic X_387 hx (y := (⟨"com/example/vez/vez/gateway/http/HeadEndFindPinLaw", "ne", "([BI)Z"⟩ : MethodName)) (Ls := #[.val (.long q0), .second, .val (.int p1), .val (.int p2), .val (.ref b1), .val (.int sx), .val (.ref b18), .val (.ref b32), .val (.ref b61), .val (.int (own_Fn b1 (0 : Int32) FB)), .val (.int gv2), .val (.int gv3), .unset, .unset, .unset, .unset, .unset, .unset, .unset, .unset, .unset, .unset, .unset, .unset, .unset]) (rest := []) (W := 0) (argsL := [(.ref b1), (.int (3 : Int32))]) hZ hown (hw _ (List.mem_of_getElem? (i := 13) rfl)) (hw _ (List.mem_of_getElem? (i := 14) rfl)) (hw _ (List.mem_of_getElem? (i := 3) rfl)) (hw _ (List.mem_of_getElem? (i := 15) rfl)) (by decide) e_387 (rm_n l Z a0 hw [] b1 (3 : Int32) FB h90 n0 Z90 fq92 (by decide) (by decide)) (hb hby at_397) (lenOf own_pd1 rfl) (by decide) (by decide) (by rw [hml]; rfl) (Nat.le_of_eq rfl) (by decide) (by decide)
                            obtain ⟨rfl, M135, e135⟩ := Q135
                            have N135 := Fr.app N_387 M135
                            refine Run.back (g' := (mkF m 400 #[.val (.long q0), .second, .val (.int p1), .val (.int p2), .val (.ref b1), .val (.int sx), .val (.ref b18), .val (.ref b32), .val (.ref b61), .val (.int (own_Fn b1 (0 : Int32) FB)), .val (.int gv2), .val (.int gv3), .unset, .unset, .unset, .unset, .unset, .unset, .unset, .unset, .unset, .unset, .unset, .unset, .unset] [(.int (own_Fn b1 (3 : Int32) FB))])) st135 ?_
                            by_cases hc400 : (own_Fn b1 (3 : Int32) FB) = (0 : Int32)
                            · skip
                              refine Run.ifYes (pc' := 407) X135 hx (hb hby at_400) ((if0 _ _).trans (teq hc400).1) (by decide) (by decide) ?_
                              refine Run.iconst (pc' := 408) (v := (0 : Int32)) X135 hx (hb hby at_407) rfl rfl ?_
                              exact J408 _ (by rw [if_pos hc391, if_pos hc400]) _ _ X135 e135 N135
                            · skip
                              refine Run.ifNo (pc' := 403) X135 hx (hb hby at_400) ((if0 _ _).trans (feq hc400).1) rfl ?_
                              refine Run.iconst (pc' := 404) (v := (1 : Int32)) X135 hx (hb hby at_403) rfl rfl ?_
                              refine Run.goto (pc' := 408) X135 hx (hb hby at_404) (by decide) (by decide) ?_
                              exact J408 _ (by rw [if_pos hc391, if_neg hc400]) _ _ X135 e135 N135
                          · skip
                            refine Run.ifYes (pc' := 403) X_387 hx (hb hby at_391) ((if0 _ _).trans (feq hc391).2) (by decide) (by decide) ?_
                            refine Run.iconst (pc' := 404) (v := (1 : Int32)) X_387 hx (hb hby at_403) rfl rfl ?_
                            refine Run.goto (pc' := 408) X_387 hx (hb hby at_404) (by decide) (by decide) ?_
                            exact J408 _ (by rw [if_neg hc391]) _ _ X_387 e_387 N_387
                        by_cases hc370 : gv2 = (0 : Int32)
                        · skip
                          refine Run.ifNo (pc' := 373) X_366 hx (hb hby at_370) ((if0 _ _).trans (teq hc370).2) rfl ?_
                          refine Run.aload (pc' := 375) X_366 hx (hb hby at_373) rfl rfl ?_
                          refine Run.iconst (pc' := 376) (v := (2 : Int32)) X_366 hx (hb hby at_375) rfl rfl ?_
                          obtain ⟨T136, L136, v136, X136, Q136, st136⟩ := callStatic X_366 hx (y := (⟨"com/example/vez/vez/gateway/http/HeadEndFindPinLaw", "ne", "([BI)Z"⟩ : MethodName)) (Ls := #[.val (.long q0), .second, .val (.int p1), .val (.int p2), .val (.ref b1), .val (.int sx), .val (.ref b18), .val (.ref b32), .val (.ref b61), .val (.int (own_Fn b1 (0 : Int32) FB)), .val (.int gv2), .unset, .unset, .unset, .unset, .unset, .unset, .unset, .unset, .unset, .unset, .unset, .unset, .unset, .unset]) (rest := []) (W := 0) (argsL := [(.ref b1), (.int (2 : Int32))]) hZ hown (hw _ (List.mem_of_getElem? (i := 13) rfl)) (hw _ (List.mem_of_getElem? (i := 14) rfl)) (hw _ (List.mem_of_getElem? (i := 3) rfl)) (hw _ (List.mem_of_getElem? (i := 15) rfl)) (by decide) e_366 (rm_n l Z a0 hw [] b1 (2 : Int32) FB h90 n0 Z90 fq92 (by decide) (by decide)) (hb hby at_376) (lenOf own_pd1 rfl) (by decide) (by decide) (by rw [hml]; rfl) (Nat.le_of_eq rfl) (by decide) (by decide)
                          obtain ⟨rfl, M136, e136⟩ := Q136
                          have N136 := Fr.app N_366 M136
                          refine Run.back (g' := (mkF m 379 #[.val (.long q0), .second, .val (.int p1), .val (.int p2), .val (.ref b1), .val (.int sx), .val (.ref b18), .val (.ref b32), .val (.ref b61), .val (.int (own_Fn b1 (0 : Int32) FB)), .val (.int gv2), .unset, .unset, .unset, .unset, .unset, .unset, .unset, .unset, .unset, .unset, .unset, .unset, .unset, .unset] [(.int (own_Fn b1 (2 : Int32) FB))])) st136 ?_
                          by_cases hc379 : (own_Fn b1 (2 : Int32) FB) = (0 : Int32)
                          · skip
                            refine Run.ifYes (pc' := 386) X136 hx (hb hby at_379) ((if0 _ _).trans (teq hc379).1) (by decide) (by decide) ?_
                            refine Run.iconst (pc' := 387) (v := (0 : Int32)) X136 hx (hb hby at_386) rfl rfl ?_
                            exact J387 _ (by rw [if_pos hc370, if_pos hc379]) _ _ X136 e136 N136
                          · skip
                            refine Run.ifNo (pc' := 382) X136 hx (hb hby at_379) ((if0 _ _).trans (feq hc379).1) rfl ?_
                            refine Run.iconst (pc' := 383) (v := (1 : Int32)) X136 hx (hb hby at_382) rfl rfl ?_
                            refine Run.goto (pc' := 387) X136 hx (hb hby at_383) (by decide) (by decide) ?_
                            exact J387 _ (by rw [if_pos hc370, if_neg hc379]) _ _ X136 e136 N136
                        · skip
                          refine Run.ifYes (pc' := 382) X_366 hx (hb hby at_370) ((if0 _ _).trans (feq hc370).2) (by decide) (by decide) ?_
                          refine Run.iconst (pc' := 383) (v := (1 : Int32)) X_366 hx (hb hby at_382) rfl rfl ?_
                          refine Run.goto (pc' := 387) X_366 hx (hb hby at_383) (by decide) (by decide) ?_
                          exact J387 _ (by rw [if_neg hc370]) _ _ X_366 e_366 N_366
                      by_cases hc349 : (own_Fn b1 (0 : Int32) FB) = (0 : Int32)
                      · skip
                        refine Run.ifNo (pc' := 352) X96 hx (hb hby at_349) ((if0 _ _).trans (teq hc349).2) rfl ?_
                        refine Run.aload (pc' := 354) X96 hx (hb hby at_352) rfl rfl ?_
                        refine Run.iconst (pc' := 355) (v := (1 : Int32)) X96 hx (hb hby at_354) rfl rfl ?_
                        obtain ⟨T137, L137, v137, X137, Q137, st137⟩ := callStatic X96 hx (y := (⟨"com/example/vez/vez/gateway/http/HeadEndFindPinLaw", "ne", "([BI)Z"⟩ : MethodName)) (Ls := #[.val (.long q0), .second, .val (.int p1), .val (.int p2), .val (.ref b1), .val (.int sx), .val (.ref b18), .val (.ref b32), .val (.ref b61), .val (.int (own_Fn b1 (0 : Int32) FB)), .unset, .unset, .unset, .unset, .unset, .unset, .unset, .unset, .unset, .unset, .unset, .unset, .unset, .unset, .unset]) (rest := []) (W := 0) (argsL := [(.ref b1), (.int (1 : Int32))]) hZ hown (hw _ (List.mem_of_getElem? (i := 13) rfl)) (hw _ (List.mem_of_getElem? (i := 14) rfl)) (hw _ (List.mem_of_getElem? (i := 3) rfl)) (hw _ (List.mem_of_getElem? (i := 15) rfl)) (by decide) e96 (rm_n l Z a0 hw [] b1 (1 : Int32) FB h90 n0 Z90 fq92 (by decide) (by decide)) (hb hby at_355) (lenOf own_pd1 rfl) (by decide) (by decide) (by rw [hml]; rfl) (Nat.le_of_eq rfl) (by decide) (by decide)
                        obtain ⟨rfl, M137, e137⟩ := Q137
                        have N137 := Fr.app N96 M137
                        refine Run.back (g' := (mkF m 358 #[.val (.long q0), .second, .val (.int p1), .val (.int p2), .val (.ref b1), .val (.int sx), .val (.ref b18), .val (.ref b32), .val (.ref b61), .val (.int (own_Fn b1 (0 : Int32) FB)), .unset, .unset, .unset, .unset, .unset, .unset, .unset, .unset, .unset, .unset, .unset, .unset, .unset, .unset, .unset] [(.int (own_Fn b1 (1 : Int32) FB))])) st137 ?_
                        by_cases hc358 : (own_Fn b1 (1 : Int32) FB) = (0 : Int32)
                        · skip
                          refine Run.ifYes (pc' := 365) X137 hx (hb hby at_358) ((if0 _ _).trans (teq hc358).1) (by decide) (by decide) ?_
                          refine Run.iconst (pc' := 366) (v := (0 : Int32)) X137 hx (hb hby at_365) rfl rfl ?_
                          exact J366 _ (by rw [if_pos hc349, if_pos hc358]) _ _ X137 e137 N137
                        · skip
                          refine Run.ifNo (pc' := 361) X137 hx (hb hby at_358) ((if0 _ _).trans (feq hc358).1) rfl ?_
                          refine Run.iconst (pc' := 362) (v := (1 : Int32)) X137 hx (hb hby at_361) rfl rfl ?_
                          refine Run.goto (pc' := 366) X137 hx (hb hby at_362) (by decide) (by decide) ?_
                          exact J366 _ (by rw [if_pos hc349, if_neg hc358]) _ _ X137 e137 N137
                      · skip
                        refine Run.ifYes (pc' := 361) X96 hx (hb hby at_349) ((if0 _ _).trans (feq hc349).2) (by decide) (by decide) ?_
                        refine Run.iconst (pc' := 362) (v := (1 : Int32)) X96 hx (hb hby at_361) rfl rfl ?_
                        refine Run.goto (pc' := 366) X96 hx (hb hby at_362) (by decide) (by decide) ?_
                        exact J366 _ (by rw [if_neg hc349]) _ _ X96 e96 N96
                    by_cases hc327 : (4 : Int32) < sx
                    · skip
                      refine Run.icmpYes (pc' := 334) X84 hx (hb hby at_327) (tlt hc327).1 (by decide) (by decide) ?_
                      refine Run.iconst (pc' := 335) (v := (0 : Int32)) X84 hx (hb hby at_334) rfl rfl ?_
                      exact J335 _ (by rw [if_pos hc327]) _ _ X84 e84 N84
                    · skip
                      refine Run.icmpNo (pc' := 330) X84 hx (hb hby at_327) (flt hc327).1 rfl ?_
                      refine Run.iconst (pc' := 331) (v := (1 : Int32)) X84 hx (hb hby at_330) rfl rfl ?_
                      refine Run.goto (pc' := 335) X84 hx (hb hby at_331) (by decide) (by decide) ?_
                      exact J335 _ (by rw [if_neg hc327]) _ _ X84 e84 N84
                  by_cases hc305 : (3 : Int32) < sx
                  · skip
                    refine Run.icmpYes (pc' := 312) X78 hx (hb hby at_305) (tlt hc305).1 (by decide) (by decide) ?_
                    refine Run.iconst (pc' := 313) (v := (0 : Int32)) X78 hx (hb hby at_312) rfl rfl ?_
                    exact J313 _ (by rw [if_pos hc305]) _ _ X78 e78 N78
                  · skip
                    refine Run.icmpNo (pc' := 308) X78 hx (hb hby at_305) (flt hc305).1 rfl ?_
                    refine Run.iconst (pc' := 309) (v := (1 : Int32)) X78 hx (hb hby at_308) rfl rfl ?_
                    refine Run.goto (pc' := 313) X78 hx (hb hby at_309) (by decide) (by decide) ?_
                    exact J313 _ (by rw [if_neg hc305]) _ _ X78 e78 N78
                by_cases hc283 : (2 : Int32) < sx
                · skip
                  refine Run.icmpYes (pc' := 290) X72 hx (hb hby at_283) (tlt hc283).1 (by decide) (by decide) ?_
                  refine Run.iconst (pc' := 291) (v := (0 : Int32)) X72 hx (hb hby at_290) rfl rfl ?_
                  exact J291 _ (by rw [if_pos hc283]) _ _ X72 e72 N72
                · skip
                  refine Run.icmpNo (pc' := 286) X72 hx (hb hby at_283) (flt hc283).1 rfl ?_
                  refine Run.iconst (pc' := 287) (v := (1 : Int32)) X72 hx (hb hby at_286) rfl rfl ?_
                  refine Run.goto (pc' := 291) X72 hx (hb hby at_287) (by decide) (by decide) ?_
                  exact J291 _ (by rw [if_neg hc283]) _ _ X72 e72 N72
              by_cases hc261 : (1 : Int32) < sx
              · skip
                refine Run.icmpYes (pc' := 268) X66 hx (hb hby at_261) (tlt hc261).1 (by decide) (by decide) ?_
                refine Run.iconst (pc' := 269) (v := (0 : Int32)) X66 hx (hb hby at_268) rfl rfl ?_
                exact J269 _ (by rw [if_pos hc261]) _ _ X66 e66 N66
              · skip
                refine Run.icmpNo (pc' := 264) X66 hx (hb hby at_261) (flt hc261).1 rfl ?_
                refine Run.iconst (pc' := 265) (v := (1 : Int32)) X66 hx (hb hby at_264) rfl rfl ?_
                refine Run.goto (pc' := 269) X66 hx (hb hby at_265) (by decide) (by decide) ?_
                exact J269 _ (by rw [if_neg hc261]) _ _ X66 e66 N66
            by_cases hc239 : (0 : Int32) < sx
            · skip
              refine Run.icmpYes (pc' := 246) X61 hx (hb hby at_239) (tlt hc239).1 (by decide) (by decide) ?_
              refine Run.iconst (pc' := 247) (v := (0 : Int32)) X61 hx (hb hby at_246) rfl rfl ?_
              exact J247 _ (by rw [if_pos hc239]) _ _ X61 e61 N56
            · skip
              refine Run.icmpNo (pc' := 242) X61 hx (hb hby at_239) (flt hc239).1 rfl ?_
              refine Run.iconst (pc' := 243) (v := (1 : Int32)) X61 hx (hb hby at_242) rfl rfl ?_
              refine Run.goto (pc' := 247) X61 hx (hb hby at_243) (by decide) (by decide) ?_
              exact J247 _ (by rw [if_neg hc239]) _ _ X61 e61 N56
          by_cases hc212 : (4 : Int32) < sx
          · skip
            refine Run.icmpNo (pc' := 215) X51 hx (hb hby at_212) (tlt hc212).2.1 rfl ?_
            refine Run.iconst (pc' := 216) (v := (1 : Int32)) X51 hx (hb hby at_215) rfl rfl ?_
            refine Run.goto (pc' := 220) X51 hx (hb hby at_216) (by decide) (by decide) ?_
            exact J220 _ (by rw [if_pos hc212]) _ _ X51 e51 N51
          · skip
            refine Run.icmpYes (pc' := 219) X51 hx (hb hby at_212) (flt hc212).2.1 (by decide) (by decide) ?_
            refine Run.iconst (pc' := 220) (v := (0 : Int32)) X51 hx (hb hby at_219) rfl rfl ?_
            exact J220 _ (by rw [if_neg hc212]) _ _ X51 e51 N51
        by_cases hc190 : (3 : Int32) < sx
        · skip
          refine Run.icmpNo (pc' := 193) X46 hx (hb hby at_190) (tlt hc190).2.1 rfl ?_
          refine Run.iconst (pc' := 194) (v := (1 : Int32)) X46 hx (hb hby at_193) rfl rfl ?_
          refine Run.goto (pc' := 198) X46 hx (hb hby at_194) (by decide) (by decide) ?_
          exact J198 _ (by rw [if_pos hc190]) _ _ X46 e46 N46
        · skip
          refine Run.icmpYes (pc' := 197) X46 hx (hb hby at_190) (flt hc190).2.1 (by decide) (by decide) ?_
          refine Run.iconst (pc' := 198) (v := (0 : Int32)) X46 hx (hb hby at_197) rfl rfl ?_
          exact J198 _ (by rw [if_neg hc190]) _ _ X46 e46 N46
      by_cases hc168 : (2 : Int32) < sx
      · skip
        refine Run.icmpNo (pc' := 171) X41 hx (hb hby at_168) (tlt hc168).2.1 rfl ?_
        refine Run.iconst (pc' := 172) (v := (1 : Int32)) X41 hx (hb hby at_171) rfl rfl ?_
        refine Run.goto (pc' := 176) X41 hx (hb hby at_172) (by decide) (by decide) ?_
        exact J176 _ (by rw [if_pos hc168]) _ _ X41 e41 N41
      · skip
        refine Run.icmpYes (pc' := 175) X41 hx (hb hby at_168) (flt hc168).2.1 (by decide) (by decide) ?_
        refine Run.iconst (pc' := 176) (v := (0 : Int32)) X41 hx (hb hby at_175) rfl rfl ?_
        exact J176 _ (by rw [if_neg hc168]) _ _ X41 e41 N41
    by_cases hc146 : (1 : Int32) < sx
    · skip
      refine Run.icmpNo (pc' := 149) X36 hx (hb hby at_146) (tlt hc146).2.1 rfl ?_
      refine Run.iconst (pc' := 150) (v := (1 : Int32)) X36 hx (hb hby at_149) rfl rfl ?_
      refine Run.goto (pc' := 154) X36 hx (hb hby at_150) (by decide) (by decide) ?_
      exact J154 _ (by rw [if_pos hc146]) _ _ X36 e36 N36
    · skip
      refine Run.icmpYes (pc' := 153) X36 hx (hb hby at_146) (flt hc146).2.1 (by decide) (by decide) ?_
      refine Run.iconst (pc' := 154) (v := (0 : Int32)) X36 hx (hb hby at_153) rfl rfl ?_
      exact J154 _ (by rw [if_neg hc146]) _ _ X36 e36 N36
  by_cases hc124 : (0 : Int32) < sx
  · skip
    refine Run.icmpNo (pc' := 127) X32 hx (hb hby at_124) (tlt hc124).2.1 rfl ?_
    refine Run.iconst (pc' := 128) (v := (1 : Int32)) X32 hx (hb hby at_127) rfl rfl ?_
    refine Run.goto (pc' := 132) X32 hx (hb hby at_128) (by decide) (by decide) ?_
    exact J132 _ (by rw [if_pos hc124]) _ _ X32 e32 N29
  · skip
    refine Run.icmpYes (pc' := 131) X32 hx (hb hby at_124) (flt hc124).2.1 (by decide) (by decide) ?_
    refine Run.iconst (pc' := 132) (v := (0 : Int32)) X32 hx (hb hby at_131) rfl rfl ?_
    exact J132 _ (by rw [if_neg hc124]) _ _ X32 e32 N29
set_option maxRecDepth 65536 in
set_option maxHeartbeats 40000000 in
theorem comes_1 {Post : Tables → Env → Array Value → State → Outcome → State → Prop} (hpost : ∀ tb e args s v u, (limb_1_1.after args s (.returned v) u = true ∧ limb_1_2.after args s (.returned v) u = true ∧ True) → FrameEnd s (.returned v) u (Jvm.fieldLocs frame_1_writes args s ++ Jvm.arrayLocs frame_1_arrays args s ++ Jvm.staticLocs frame_1_statics s) 24 128 → Post tb e args s (.returned v) u) :
    ArmFor flags0 classFile x code maxLocals ret World_1 tables_1 room_1 Calls_1 rest_1 Pre_1 Post := by
  intro l hfl _ _ p e ha hc hk s m args below hf hA hF happ hP
  obtain ⟨hcalls, hrest, hpre⟩ := hP
  obtain ⟨-, -, -, hnamed, -, -, -, hat⟩ := (Spec.applies_iff hf).mp happ
  obtain ⟨hg, hn⟩ := and_e (Cond.before_iff.mp (show (Jvm.Cond.and given_1 narrow_1).before args s = true from hpre))
  obtain ⟨hcount, hg0⟩ := and_e hg
  obtain ⟨ha0, hg1⟩ := and_e hg0
  obtain ⟨ha1, hg2⟩ := and_e hg1
  obtain ⟨w0, w1, w2, rfl⟩ : ∃ w0 w1 w2 : Value, args = #[w0, w1, w2] := by
    have hs : args.size = 3 := by simpa [Cond.value, given_1] using hcount
    obtain ⟨L⟩ := args
    match L, hs with
    | [w0, w1, w2], _ => exact ⟨w0, w1, w2, rfl⟩
  have hw := fun d (hd : d ∈ tables_1) => atoms_spec (ws := Jvm.Cond.code x code maxLocals ret :: tables_1) hat d (List.mem_cons_of_mem _ hd)
  have hfit : Fit s := fun {y c} hc i hi => by
    obtain ⟨ha, rfl⟩ := Array.getElem?_eq_some_iff.mp hc
    have q := List.all_eq_true.mp ((Array.all_eq_true_iff_forall_mem.mp hF) _ (Array.getElem_mem ha)) i (List.mem_range.mpr hi)
    simpa [Array.getElem?_eq_getElem hi] using q
  obtain ⟨i0, ei0⟩ := isL_v ha0
  obtain rfl : w0 = (.long i0) := Option.some.inj ei0
  obtain ⟨i1, ei1⟩ := is_v ha1
  obtain rfl : w1 = (.int i1) := Option.some.inj ei1
  obtain ⟨i2, ei2⟩ := is_v hg2
  obtain rfl : w2 = (.int i2) := Option.some.inj ei2
  obtain ⟨n, o, h1, h2, h3, _, L, rfl, ⟨rfl, N⟩, hq⟩ := rm0 l s _ hw tables_1 i0 i1 i2 s.heap s.heap.size (Nat.le_refl _) p e ha hc hk s m _ below hf ((Spec.applies_iff_loose hf).mp happ).1 ⟨rfl, State.Warmed39.refl s, rfl⟩ trivial
  refine ⟨n, _, h1, h2, h3, hpost _ _ _ _ _ _ ⟨Cond.after_iff.mpr rfl, Cond.after_iff.mpr (eq_i res_at (Term.int_eval (1)) rfl), trivial⟩ ⟨hq.1, hq.2.1, (hq.2.2.sift fun y hy => Or.inr (N y hy)).mono (by decide) (by decide)⟩⟩
theorem main_1_1 : Claimed_1_1 := comes_1 fun _ _ _ _ _ _ h hF => ⟨h.1, hF⟩
theorem main_1_2 : Claimed_1_2 := comes_1 fun _ _ _ _ _ _ h hF => ⟨h.2.1, hF⟩
end Jvm.Pilot.@@N@@
namespace Jvm.Pilot.@@N@@
open Jvm Jvm.ClassFile Sem Op Lib Jvm.Free Jvm.Stand Jvm.Pilot.@@N@@.Jvm.D
/-! MADE BY PROGRAM (witnessworld.py) out of the Statement's table words and the real class files: 9 classes; the members and pool entries that the words name. The judged class is class 1, her method 6. -/
namespace start1
open Jvm.ClassFile
def u (s : String) : CpInfo := .utf8 (stringToUtf16 s)
/-- a pool by its gaps: so many unusable entries, then the entry; so many at the end -/
def gap : Nat → List CpInfo → List CpInfo
  | 0, r => r
  | n + 1, r => .unusable :: gap n r
def poolList (es : List (Nat × CpInfo)) (last : Nat) : List CpInfo := es.foldr (fun e r => gap e.1 (e.2 :: r)) (gap last [])
def pool (es : List (Nat × CpInfo)) (last : Nat) : Array CpInfo := ⟨poolList es last⟩
def fileOf (pool : Array CpInfo) (this : Nat) (attrs : Array Attribute := #[]) (ms : Array MethodInfo := #[]) (fl : Nat := 33) (sup : Nat := 0) (ifs : Array Nat := #[]) (fds : Array FieldInfo := #[]) : ClassFile where
  minorVersion := 0
  majorVersion := 65
  constantPool := pool
  accessFlags := fl
  thisClass := this
  superClass := sup
  interfaces := ifs
  fields := fds
  methods := ms
  attributes := attrs
def plain (name : String) (sup : Option ClassId) : Class where
  name := name
  kind := .ordinary
  loader := none
  accessFlags := 33
  super := sup
  interfaces := #[]
  cf := none
  fields := #[]
  methods := #[]
  instanceTypes := #[]
  staticTypes := #[]
  resolved := #[]
  callSites := []
  init := .initialized
  statics := none
  mirror := none

def pool0 : Array CpInfo := pool [(5, u "<init>"), (0, u "()V"), (1, .class_ 10), (1, u "java/lang/Object")] 113

def k0c0 : Code := { maxStack := 0, maxLocals := 1, code := object_method_1_code, exceptionTable := #[], attributes := #[] }
def k0m0 : Method := { name := "<init>", desc := "()V", sig := { parameters := [], returnType := none }, accessFlags := 1, code := some k0c0 }
/-- java/lang/Object -/
def k0 : Class := { plain "java/lang/Object" none with
  accessFlags := 33
  interfaces := #[]
  cf := some (fileOf pool0 8 #[] #[{ accessFlags := 1, nameIndex := 5, descriptorIndex := 6, attributes := #[] }] 33 0 #[] #[])
  fields := #[]
  methods := #[k0m0]
  instanceTypes := #[]
  staticTypes := #[]
  resolved := Array.replicate 124 none
  statics := none }

def pool1 : Array CpInfo := pool [(2, .class_ 4), (0, .nameAndType 5 6), (0, u "java/lang/Object"), (0, u "<init>"), (0, u "()V"), (0, .long 1023), (1, .methodref 10 11), (0, .class_ 12), (0, .nameAndType 13 14), (0, u "com/example/vez/vez/gateway/http/HeadEndFindPinLaw"), (0, u "opp"), (0, u "(B)B"), (0, .methodref 10 16), (0, .nameAndType 17 18), (0, u "em"), (0, u "([BI)Z"), (0, .methodref 10 20), (0, .nameAndType 21 22), (0, u "pick"), (0, u "(J)B"), (0, .long 7), (1, .methodref 10 26), (0, .nameAndType 27 28), (0, u "keep"), (0, u "(BZ)B"), (0, .methodref 10 30), (0, .nameAndType 31 18), (0, u "ne"), (0, .class_ 33), (0, u "com/example/vez/vez/gateway/http/HeadEnd"), (0, .methodref 32 3), (0, .methodref 32 36), (0, .nameAndType 37 38), (0, u "find"), (0, u "([BII)Z"), (0, .methodref 32 40), (0, .nameAndType 41 42), (0, u "reset"), (0, u "(I)V"), (0, .methodref 32 44), (0, .nameAndType 45 46), (0, u "getScanned"), (0, u "()I"), (0, .methodref 32 48), (0, .nameAndType 49 50), (0, u "isWhole"), (0, u "()Z"), (0, .methodref 32 52), (0, .nameAndType 53 46), (0, u "getEnd"), (3, u "law"), (0, u "(JII)Z")] 4

def k1m0 : Method := { name := "<init>", desc := "()V", sig := { parameters := [], returnType := none }, accessFlags := 2, code := none }
def k1c1 : Code := { maxStack := 4, maxLocals := 4, code := method_2_code, exceptionTable := #[], attributes := #[] }
def k1m1 : Method := { name := "pick", desc := "(J)B", sig := { parameters := [.long], returnType := some .byte }, accessFlags := 10, code := some k1c1 }
def k1c2 : Code := { maxStack := 2, maxLocals := 1, code := method_3_code, exceptionTable := #[], attributes := #[] }
def k1m2 : Method := { name := "opp", desc := "(B)B", sig := { parameters := [.byte], returnType := some .byte }, accessFlags := 10, code := some k1c2 }
def k1c3 : Code := { maxStack := 1, maxLocals := 2, code := method_4_code, exceptionTable := #[], attributes := #[] }
def k1m3 : Method := { name := "keep", desc := "(BZ)B", sig := { parameters := [.byte, .boolean], returnType := some .byte }, accessFlags := 10, code := some k1c3 }
def k1c4 : Code := { maxStack := 3, maxLocals := 2, code := method_5_code, exceptionTable := #[], attributes := #[] }
def k1m4 : Method := { name := "em", desc := "([BI)Z", sig := { parameters := [(.array .byte), .int], returnType := some .boolean }, accessFlags := 10, code := some k1c4 }
def k1c5 : Code := { maxStack := 2, maxLocals := 2, code := method_6_code, exceptionTable := #[], attributes := #[] }
def k1m5 : Method := { name := "ne", desc := "([BI)Z", sig := { parameters := [(.array .byte), .int], returnType := some .boolean }, accessFlags := 10, code := some k1c5 }
def k1c6 : Code := { maxStack := 5, maxLocals := 25, code := code, exceptionTable := #[], attributes := #[] }
def k1m6 : Method := { name := "law", desc := "(JII)Z", sig := { parameters := [.long, .int, .int], returnType := some .boolean }, accessFlags := 9, code := some k1c6 }
/-- com/example/vez/vez/gateway/http/HeadEndFindPinLaw -/
def k1 : Class := { plain "com/example/vez/vez/gateway/http/HeadEndFindPinLaw" (some 0) with
  accessFlags := 49
  interfaces := #[]
  cf := some (fileOf pool1 10 #[] #[{ accessFlags := 2, nameIndex := 5, descriptorIndex := 6, attributes := #[] }, { accessFlags := 10, nameIndex := 21, descriptorIndex := 22, attributes := #[] }, { accessFlags := 10, nameIndex := 13, descriptorIndex := 14, attributes := #[] }, { accessFlags := 10, nameIndex := 27, descriptorIndex := 28, attributes := #[] }, { accessFlags := 10, nameIndex := 17, descriptorIndex := 18, attributes := #[] }, { accessFlags := 10, nameIndex := 31, descriptorIndex := 18, attributes := #[] }, { accessFlags := 9, nameIndex := 57, descriptorIndex := 58, attributes := #[] }] 49 2 #[] #[])
  fields := #[]
  methods := #[k1m0, k1m1, k1m2, k1m3, k1m4, k1m5, k1m6]
  instanceTypes := #[]
  staticTypes := #[]
  resolved := Array.replicate 63 none
  statics := none }

def pool2 : Array CpInfo := pool [(1, .methodref 2 3), (0, .class_ 4), (0, .nameAndType 5 6), (0, u "java/lang/Object"), (0, u "<init>"), (0, u "()V"), (0, .fieldref 8 9), (0, .class_ 10), (0, .nameAndType 11 12), (0, u "com/example/vez/vez/gateway/http/HeadEnd"), (0, u "scanned"), (0, u "I"), (0, .fieldref 8 14), (0, .nameAndType 15 12), (0, u "lineLength"), (0, .fieldref 8 17), (0, .nameAndType 18 19), (0, u "cr"), (0, u "Z"), (0, .fieldref 8 21), (0, .nameAndType 22 19), (0, u "begun"), (0, .fieldref 8 24), (0, .nameAndType 25 19), (0, u "whole"), (0, u "MAX_HEAD"), (4, u "reset"), (0, u "(I)V"), (0, u "find"), (0, u "([BII)Z"), (3, u "getScanned"), (0, u "()I"), (0, u "isWhole"), (0, u "()Z"), (0, u "getEnd")] 2

def k2c0 : Code := { maxStack := 1, maxLocals := 1, code := prog_32_method_1_code, exceptionTable := #[], attributes := #[] }
def k2m0 : Method := { name := "<init>", desc := "()V", sig := { parameters := [], returnType := none }, accessFlags := 1, code := some k2c0 }
def k2c1 : Code := { maxStack := 2, maxLocals := 2, code := prog_32_method_2_code, exceptionTable := #[], attributes := #[] }
def k2m1 : Method := { name := "reset", desc := "(I)V", sig := { parameters := [.int], returnType := none }, accessFlags := 1, code := some k2c1 }
def k2c2 : Code := { maxStack := 3, maxLocals := 7, code := prog_32_method_3_code, exceptionTable := #[], attributes := #[] }
def k2m2 : Method := { name := "find", desc := "([BII)Z", sig := { parameters := [(.array .byte), .int, .int], returnType := some .boolean }, accessFlags := 1, code := some k2c2 }
def k2c3 : Code := { maxStack := 1, maxLocals := 1, code := prog_32_method_4_code, exceptionTable := #[], attributes := #[] }
def k2m3 : Method := { name := "getScanned", desc := "()I", sig := { parameters := [], returnType := some .int }, accessFlags := 1, code := some k2c3 }
def k2c4 : Code := { maxStack := 1, maxLocals := 1, code := prog_32_method_5_code, exceptionTable := #[], attributes := #[] }
def k2m4 : Method := { name := "isWhole", desc := "()Z", sig := { parameters := [], returnType := some .boolean }, accessFlags := 1, code := some k2c4 }
def k2c5 : Code := { maxStack := 1, maxLocals := 1, code := prog_32_method_6_code, exceptionTable := #[], attributes := #[] }
def k2m5 : Method := { name := "getEnd", desc := "()I", sig := { parameters := [], returnType := some .int }, accessFlags := 1, code := some k2c5 }
/-- com/example/vez/vez/gateway/http/HeadEnd -/
def k2 : Class := { plain "com/example/vez/vez/gateway/http/HeadEnd" (some 0) with
  accessFlags := 49
  interfaces := #[]
  cf := some (fileOf pool2 8 #[] #[{ accessFlags := 1, nameIndex := 5, descriptorIndex := 6, attributes := #[] }, { accessFlags := 1, nameIndex := 31, descriptorIndex := 32, attributes := #[] }, { accessFlags := 1, nameIndex := 33, descriptorIndex := 34, attributes := #[] }, { accessFlags := 1, nameIndex := 38, descriptorIndex := 39, attributes := #[] }, { accessFlags := 1, nameIndex := 40, descriptorIndex := 41, attributes := #[] }, { accessFlags := 1, nameIndex := 42, descriptorIndex := 39, attributes := #[] }] 49 2 #[] #[{ accessFlags := 25, nameIndex := 26, descriptorIndex := 12, attributes := #[] }, { accessFlags := 2, nameIndex := 11, descriptorIndex := 12, attributes := #[] }, { accessFlags := 2, nameIndex := 15, descriptorIndex := 12, attributes := #[] }, { accessFlags := 2, nameIndex := 18, descriptorIndex := 19, attributes := #[] }, { accessFlags := 2, nameIndex := 22, descriptorIndex := 19, attributes := #[] }, { accessFlags := 2, nameIndex := 25, descriptorIndex := 19, attributes := #[] }])
  fields := #[{ name := "MAX_HEAD", type := .int, accessFlags := 25, slot := 0, constantValue := 0 }, { name := "scanned", type := .int, accessFlags := 2, slot := 0, constantValue := 0 }, { name := "lineLength", type := .int, accessFlags := 2, slot := 1, constantValue := 0 }, { name := "cr", type := .boolean, accessFlags := 2, slot := 2, constantValue := 0 }, { name := "begun", type := .boolean, accessFlags := 2, slot := 3, constantValue := 0 }, { name := "whole", type := .boolean, accessFlags := 2, slot := 4, constantValue := 0 }]
  methods := #[k2m0, k2m1, k2m2, k2m3, k2m4, k2m5]
  instanceTypes := #[.int, .int, .boolean, .boolean, .boolean]
  staticTypes := #[.int]
  resolved := Array.replicate 45 none
  statics := none }

def pool3 : Array CpInfo := pool [(1, u "java/lang/Cloneable"), (0, .class_ 1), (0, u "java/lang/Object"), (0, .class_ 3)] 3

/-- java/lang/Cloneable -/
def k3 : Class := { plain "java/lang/Cloneable" (some 0) with
  accessFlags := 1537
  interfaces := #[]
  cf := some (fileOf pool3 2 #[] #[] 1537 4 #[] #[])
  fields := #[]
  methods := #[]
  instanceTypes := #[]
  staticTypes := #[]
  resolved := Array.replicate 8 none
  statics := none }

def pool4 : Array CpInfo := pool [(1, u "java/io/Serializable"), (0, .class_ 1), (0, u "java/lang/Object"), (0, .class_ 3)] 3

/-- java/io/Serializable -/
def k4 : Class := { plain "java/io/Serializable" (some 0) with
  accessFlags := 1537
  interfaces := #[]
  cf := some (fileOf pool4 2 #[] #[] 1537 4 #[] #[])
  fields := #[]
  methods := #[]
  instanceTypes := #[]
  staticTypes := #[]
  resolved := Array.replicate 8 none
  statics := none }

/-- the primitive byte -/
def k5 : Class := { plain "byte" none with kind := .primitive 'B', accessFlags := 0x411 }
/-- [B -/
def k6 : Class := { plain "[B" (some 0) with kind := .array 5 .byte, interfaces := #[3, 4], accessFlags := 1041 }

/-- the primitive int -/
def k7 : Class := { plain "int" none with kind := .primitive 'I', accessFlags := 0x411 }
/-- [I -/
def k8 : Class := { plain "[I" (some 0) with kind := .array 7 .int, interfaces := #[3, 4], accessFlags := 1041 }

def heap : Heap := #[]
def classes : Array Class := #[k0, k1, k2, k3, k4, k5, k6, k7, k8]
def interned : List (Array UInt16 × Addr) := []
def slotsUsed : Nat := 0
def theMethod : MethodId := ⟨1, 6⟩
def args0 : Array Value := #[.long 97, .int 3, .int 5]
def aboutOver (below : List Frame) : State where
  vm := { classes := classes, interned := interned.toArray }
  heap := heap
  slotsUsed := slotsUsed
  threads := #[{ frames := .invoking theMethod args0 :: below }]
def below0 : List Frame := [.native { method := ⟨0, 0⟩, args := #[] }]
def about1 : State := aboutOver below0
def p0 : Program := .bare "" "" ""
def e0 : Env := launch0.env 0 0 0
theorem w_frames : about1.frames = Frame.invoking theMethod args0 :: below0 := rfl
set_option maxRecDepth 65536 in
theorem w_args : argsFit about1.vm theMethod args0 = true := by decide +kernel
set_option maxRecDepth 65536 in
theorem w_heap : heapFits about1 = true := by decide +kernel
set_option maxRecDepth 65536 in
theorem w_runnable : about1.curStatus? = some .runnable := by decide +kernel
set_option maxRecDepth 65536 in
theorem w_alone : about1.alone = true := by decide +kernel
set_option maxRecDepth 65536 in
theorem w_named : about1.methodNamed? x = some theMethod := by decide +kernel
set_option maxRecDepth 65536 in
theorem w_hears : about1.hears theMethod below0 = true := by decide +kernel
set_option maxRecDepth 65536 in
theorem w_ripe : about1.ripe theMethod args0 below0 = true := by decide +kernel
theorem w_running : about1.status = .running := rfl
set_option maxRecDepth 65536 in
theorem w_room : about1.hasRoom e0.platform room_1 = true :=
  launch0.hasRoom_least _ room_1 (by decide +kernel) (by decide +kernel) (by decide +kernel) (by decide +kernel) (by decide +kernel) (by decide +kernel)
theorem allAtoms_all (ts : List Jvm.Cond) (a : Array Jvm.Value) (st : Jvm.State) : (allAtoms ts).before a st = ts.all (fun c => c.before a st) := by
  induction ts with
  | nil => rfl
  | cons c t ih =>
    show (Jvm.Cond.and c (allAtoms t)).before a st = _
    rw [Jvm.Cond.before_and, ih, List.all_cons]
def words1 : List Jvm.Cond := Jvm.Cond.code x code maxLocals ret :: tables_1
/-- a 'code' word, met by the world's own term for the bytes: nothing is compared byte by byte -/
theorem code_word {y : MethodName} {bytes : ByteArray} {mx : Nat} {rt : Option FieldType} {a : Array Value} {s : State} {m : MethodId} {meth : Method} {c : Code} (h1 : s.methodNamed? y = some m) (h2 : s.vm.method? m = some meth) (h3 : meth.code = some c) (h4 : c.code = bytes)
    (h5 : (c.maxLocals == mx && c.exceptionTable.isEmpty && decide (c.maxStack ≤ mostOperands) && decide (meth.sig.returnType = rt) && !meth.locks && decide (parseMethodDescriptor y.desc = some meth.sig)) = true) : (Jvm.Cond.code y bytes mx rt).before a s = true := by
  simp only [Bool.and_eq_true, beq_iff_eq, Bool.not_eq_true', decide_eq_true_eq] at h5
  obtain ⟨⟨⟨⟨⟨g1, g2⟩, g3⟩, g4⟩, g5⟩, g6⟩ := h5
  simp [Cond.before, Cond.holds, Cond.value, h1, h2, h3, h4, g1, g2, g3, g4, g5, g6]
def isCode : Jvm.Cond → Bool
  | .code _ _ _ _ => true
  | _ => false
theorem all_split {L : List Jvm.Cond} {P : Jvm.Cond → Bool} (h1 : L.all (fun c => isCode c || P c) = true) (h2 : ∀ c ∈ L.filter isCode, P c = true) : L.all P = true := by
  refine List.all_eq_true.mpr fun c hc => ?_
  have h := List.all_eq_true.mp h1 c hc
  rcases Bool.eq_false_or_eq_true (isCode c) with hi | hi
  · exact h2 c (List.mem_filter.mpr ⟨hc, hi⟩)
  · simpa [hi] using h
set_option maxRecDepth 65536 in
theorem w_c0 : (Jvm.Cond.code x code maxLocals ret).before args0 about1 = true := code_word (m := ⟨1, 6⟩) (meth := k1m6) (c := k1c6) (by decide +kernel) rfl rfl rfl (by decide +kernel)
set_option maxRecDepth 65536 in
theorem w_c1 : (Jvm.Cond.code ({ cls := "com/example/vez/vez/gateway/http/HeadEndFindPinLaw", name := "pick", desc := "(J)B" } : Jvm.MethodName) method_2_code (4 : Nat) (Option.some Jvm.ClassFile.FieldType.byte)).before args0 about1 = true := code_word (m := ⟨1, 1⟩) (meth := k1m1) (c := k1c1) (by decide +kernel) rfl rfl rfl (by decide +kernel)
set_option maxRecDepth 65536 in
theorem w_c2 : (Jvm.Cond.code ({ cls := "com/example/vez/vez/gateway/http/HeadEndFindPinLaw", name := "keep", desc := "(BZ)B" } : Jvm.MethodName) method_4_code (2 : Nat) (Option.some Jvm.ClassFile.FieldType.byte)).before args0 about1 = true := code_word (m := ⟨1, 3⟩) (meth := k1m3) (c := k1c3) (by decide +kernel) rfl rfl rfl (by decide +kernel)
set_option maxRecDepth 65536 in
theorem w_c3 : (Jvm.Cond.code ({ cls := "com/example/vez/vez/gateway/http/HeadEndFindPinLaw", name := "opp", desc := "(B)B" } : Jvm.MethodName) method_3_code (1 : Nat) (Option.some Jvm.ClassFile.FieldType.byte)).before args0 about1 = true := code_word (m := ⟨1, 2⟩) (meth := k1m2) (c := k1c2) (by decide +kernel) rfl rfl rfl (by decide +kernel)
set_option maxRecDepth 65536 in
theorem w_c4 : (Jvm.Cond.code ({ cls := "com/example/vez/vez/gateway/http/HeadEndFindPinLaw", name := "ne", desc := "([BI)Z" } : Jvm.MethodName) method_6_code (2 : Nat) (Option.some Jvm.ClassFile.FieldType.boolean)).before args0 about1 = true := code_word (m := ⟨1, 5⟩) (meth := k1m5) (c := k1c5) (by decide +kernel) rfl rfl rfl (by decide +kernel)
set_option maxRecDepth 65536 in
theorem w_c5 : (Jvm.Cond.code ({ cls := "com/example/vez/vez/gateway/http/HeadEndFindPinLaw", name := "em", desc := "([BI)Z" } : Jvm.MethodName) method_5_code (2 : Nat) (Option.some Jvm.ClassFile.FieldType.boolean)).before args0 about1 = true := code_word (m := ⟨1, 4⟩) (meth := k1m4) (c := k1c4) (by decide +kernel) rfl rfl rfl (by decide +kernel)
set_option maxRecDepth 65536 in
theorem w_c6 : (Jvm.Cond.code ({ cls := "com/example/vez/vez/gateway/http/HeadEnd", name := "<init>", desc := "()V" } : Jvm.MethodName) prog_32_method_1_code (1 : Nat) (Option.none : Option Jvm.ClassFile.FieldType)).before args0 about1 = true := code_word (m := ⟨2, 0⟩) (meth := k2m0) (c := k2c0) (by decide +kernel) rfl rfl rfl (by decide +kernel)
set_option maxRecDepth 65536 in
theorem w_c7 : (Jvm.Cond.code ({ cls := "java/lang/Object", name := "<init>", desc := "()V" } : Jvm.MethodName) object_method_1_code (1 : Nat) (Option.none : Option Jvm.ClassFile.FieldType)).before args0 about1 = true := code_word (m := ⟨0, 0⟩) (meth := k0m0) (c := k0c0) (by decide +kernel) rfl rfl rfl (by decide +kernel)
set_option maxRecDepth 65536 in
theorem w_c8 : (Jvm.Cond.code ({ cls := "com/example/vez/vez/gateway/http/HeadEnd", name := "find", desc := "([BII)Z" } : Jvm.MethodName) prog_32_method_3_code (7 : Nat) (Option.some Jvm.ClassFile.FieldType.boolean)).before args0 about1 = true := code_word (m := ⟨2, 2⟩) (meth := k2m2) (c := k2c2) (by decide +kernel) rfl rfl rfl (by decide +kernel)
set_option maxRecDepth 65536 in
theorem w_c9 : (Jvm.Cond.code ({ cls := "com/example/vez/vez/gateway/http/HeadEnd", name := "reset", desc := "(I)V" } : Jvm.MethodName) prog_32_method_2_code (2 : Nat) (Option.none : Option Jvm.ClassFile.FieldType)).before args0 about1 = true := code_word (m := ⟨2, 1⟩) (meth := k2m1) (c := k2c1) (by decide +kernel) rfl rfl rfl (by decide +kernel)
set_option maxRecDepth 65536 in
theorem w_c10 : (Jvm.Cond.code ({ cls := "com/example/vez/vez/gateway/http/HeadEnd", name := "getScanned", desc := "()I" } : Jvm.MethodName) prog_32_method_4_code (1 : Nat) (Option.some Jvm.ClassFile.FieldType.int)).before args0 about1 = true := code_word (m := ⟨2, 3⟩) (meth := k2m3) (c := k2c3) (by decide +kernel) rfl rfl rfl (by decide +kernel)
set_option maxRecDepth 65536 in
theorem w_c11 : (Jvm.Cond.code ({ cls := "com/example/vez/vez/gateway/http/HeadEnd", name := "isWhole", desc := "()Z" } : Jvm.MethodName) prog_32_method_5_code (1 : Nat) (Option.some Jvm.ClassFile.FieldType.boolean)).before args0 about1 = true := code_word (m := ⟨2, 4⟩) (meth := k2m4) (c := k2c4) (by decide +kernel) rfl rfl rfl (by decide +kernel)
set_option maxRecDepth 65536 in
theorem w_c12 : (Jvm.Cond.code ({ cls := "com/example/vez/vez/gateway/http/HeadEnd", name := "getEnd", desc := "()I" } : Jvm.MethodName) prog_32_method_6_code (1 : Nat) (Option.some Jvm.ClassFile.FieldType.int)).before args0 about1 = true := code_word (m := ⟨2, 5⟩) (meth := k2m5) (c := k2c5) (by decide +kernel) rfl rfl rfl (by decide +kernel)
def codes1 : List Jvm.Cond := [Jvm.Cond.code x code maxLocals ret, Jvm.Cond.code ({ cls := "com/example/vez/vez/gateway/http/HeadEndFindPinLaw", name := "pick", desc := "(J)B" } : Jvm.MethodName) method_2_code (4 : Nat) (Option.some Jvm.ClassFile.FieldType.byte), Jvm.Cond.code ({ cls := "com/example/vez/vez/gateway/http/HeadEndFindPinLaw", name := "keep", desc := "(BZ)B" } : Jvm.MethodName) method_4_code (2 : Nat) (Option.some Jvm.ClassFile.FieldType.byte), Jvm.Cond.code ({ cls := "com/example/vez/vez/gateway/http/HeadEndFindPinLaw", name := "opp", desc := "(B)B" } : Jvm.MethodName) method_3_code (1 : Nat) (Option.some Jvm.ClassFile.FieldType.byte), Jvm.Cond.code ({ cls := "com/example/vez/vez/gateway/http/HeadEndFindPinLaw", name := "ne", desc := "([BI)Z" } : Jvm.MethodName) method_6_code (2 : Nat) (Option.some Jvm.ClassFile.FieldType.boolean), Jvm.Cond.code ({ cls := "com/example/vez/vez/gateway/http/HeadEndFindPinLaw", name := "em", desc := "([BI)Z" } : Jvm.MethodName) method_5_code (2 : Nat) (Option.some Jvm.ClassFile.FieldType.boolean), Jvm.Cond.code ({ cls := "com/example/vez/vez/gateway/http/HeadEnd", name := "<init>", desc := "()V" } : Jvm.MethodName) prog_32_method_1_code (1 : Nat) (Option.none : Option Jvm.ClassFile.FieldType), Jvm.Cond.code ({ cls := "java/lang/Object", name := "<init>", desc := "()V" } : Jvm.MethodName) object_method_1_code (1 : Nat) (Option.none : Option Jvm.ClassFile.FieldType), Jvm.Cond.code ({ cls := "com/example/vez/vez/gateway/http/HeadEnd", name := "find", desc := "([BII)Z" } : Jvm.MethodName) prog_32_method_3_code (7 : Nat) (Option.some Jvm.ClassFile.FieldType.boolean), Jvm.Cond.code ({ cls := "com/example/vez/vez/gateway/http/HeadEnd", name := "reset", desc := "(I)V" } : Jvm.MethodName) prog_32_method_2_code (2 : Nat) (Option.none : Option Jvm.ClassFile.FieldType), Jvm.Cond.code ({ cls := "com/example/vez/vez/gateway/http/HeadEnd", name := "getScanned", desc := "()I" } : Jvm.MethodName) prog_32_method_4_code (1 : Nat) (Option.some Jvm.ClassFile.FieldType.int), Jvm.Cond.code ({ cls := "com/example/vez/vez/gateway/http/HeadEnd", name := "isWhole", desc := "()Z" } : Jvm.MethodName) prog_32_method_5_code (1 : Nat) (Option.some Jvm.ClassFile.FieldType.boolean), Jvm.Cond.code ({ cls := "com/example/vez/vez/gateway/http/HeadEnd", name := "getEnd", desc := "()I" } : Jvm.MethodName) prog_32_method_6_code (1 : Nat) (Option.some Jvm.ClassFile.FieldType.int)]
set_option maxRecDepth 65536 in
theorem codes_eq : words1.filter isCode = codes1 := rfl
theorem w_codes : ∀ c ∈ words1.filter isCode, c.before args0 about1 = true := by
  rw [codes_eq]
  intro c hc
  simp only [codes1, List.mem_cons, List.not_mem_nil, or_false] at hc
  rcases hc with rfl | rfl | rfl | rfl | rfl | rfl | rfl | rfl | rfl | rfl | rfl | rfl | rfl
  · exact w_c0
  · exact w_c1
  · exact w_c2
  · exact w_c3
  · exact w_c4
  · exact w_c5
  · exact w_c6
  · exact w_c7
  · exact w_c8
  · exact w_c9
  · exact w_c10
  · exact w_c11
  · exact w_c12
set_option maxRecDepth 65536 in
theorem w_t1 : (words1.take 24).all (fun c => isCode c || c.before args0 about1) = true := by decide +kernel
set_option maxRecDepth 65536 in
theorem w_t2 : ((words1.drop 24).take 24).all (fun c => isCode c || c.before args0 about1) = true := by decide +kernel
set_option maxRecDepth 65536 in
theorem w_t3 : ((words1.drop 24).drop 24).all (fun c => isCode c || c.before args0 about1) = true := by decide +kernel
theorem w_tables : (allAtoms (Jvm.Cond.code x code maxLocals ret :: tables_1)).before args0 about1 = true := by
  rw [allAtoms_all]
  show words1.all (fun c => c.before args0 about1) = true
  refine all_split ?_ w_codes
  rw [← List.take_append_drop 24 words1, List.all_append, w_t1, ← List.take_append_drop 24 (words1.drop 24), List.all_append, w_t2, w_t3]
  rfl
set_option maxRecDepth 65536 in
theorem w_case : (Jvm.Cond.and given_1 narrow_1).before args0 about1 = true := by decide +kernel
theorem w_applies : (headSpec (Jvm.Cond.code x code maxLocals ret :: tables_1) room_1).applies x e0.platform about1 = true :=
  (Spec.applies_iff w_frames).mpr ⟨w_running, w_runnable, w_alone, w_named, w_hears, w_ripe, w_room, w_tables⟩
theorem atStart : AtStart classFile x code maxLocals ret World_1 tables_1 room_1 Calls_1 rest_1 Pre_1 launch0 p0 e0 about1 theMethod args0 below0 :=
  ⟨lists_1, trivial, launch0.admits_env _ _ _, launch0.least_env, fairChoices_fair.cas, fairChoices_fair.clock, w_frames, w_args, w_heap, w_applies, trivial, trivial, w_case⟩
end start1
theorem witness_1 : WitnessClaimed_1 := ⟨start1.p0, start1.e0, start1.about1, start1.theMethod, start1.args0, start1.below0, start1.atStart⟩
end Jvm.Pilot.@@N@@
