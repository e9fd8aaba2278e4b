import JvmDerived
import JvmDerived.Pilot.@@N@@Statement
import JvmDerived.Pilot.@@N@@Code
set_option linter.unusedVariables false
set_option linter.unusedSimpArgs false
namespace Jvm.OwnRun
open Sem ClassFile Op Lib Jvm.Stand Jvm.Free Jvm.LawKit Jvm.RoadKit
/-- from T with the top frame g the method's run ends as Φ says -/
def Run (tb : Tables) (e : Env) (below : List Frame) (Φ : Outcome → State → Prop) (T : State) (g : JFrame) : Prop := ∃ s₂ o, Steps tb e below (T.setTop g) s₂ ∧ s₂.status = .running ∧ Ended s₂ below o ∧ Φ o s₂
/-- what a contract asks of the end -/
def FinR (s : State) (K N : Nat) (Q : Option Value → Heap → List Loc → Prop) : Outcome → State → Prop := fun o u => ∃ v L, o = .returned v ∧ Q v u.heap L ∧ FrameEnd s o u L K N
/-- a contract's word on its end, kept in one piece -/
abbrev Say (Q : Option Value → Heap → List Loc → Prop) (v : Option Value) (h : Heap) (L : List Loc) : Prop := Q v h L
section Steps
variable {p : Program} {l : Launch} {e : Env} {R : Room} {s : State} {m : MethodId} {args : Array Value} {below : List Frame} {meth : Method} {c : Code} {T : State} {locs : List Loc} {cells slots : Nat} {Φ : Outcome → State → Prop} {pc pc' : Nat} {Ls : Array Slot} {rest : List Value}
theorem Run.back {tb : Tables} {T' : State} {g g' : JFrame} (h : ∀ t, Steps tb e below (T'.setTop g') t → Steps tb e below (T.setTop g) t) (k : Run tb e below Φ T' g') : Run tb e below Φ T g := by
  obtain ⟨s₂, o, h1, h2⟩ := k
  exact ⟨s₂, o, h _ h1, h2⟩
theorem Run.fwd {tb : Tables} {T' : State} {g g' : JFrame} (h : Steps tb e below (T.setTop g) (T'.setTop g')) (k : Run tb e below Φ T' g') : Run tb e below Φ T g := k.back fun _ kt => h.trans kt
theorem Run.iload (X : Stand p l e R s m args below meth c T locs cells slots) (hx : p.tables.exec = Jvm.exec) {k : Nat} {v : Int32} (hd : decode c.code pc = .ok (.iload k, 2)) (hl : Ls[k]? = some (.val (.int v))) (hp : pc + 2 = pc') (k : Run p.tables e below Φ T (mkF m pc' Ls (.int v :: rest))) : Run p.tables e below Φ T (mkF m pc Ls rest) := by
  subst hp
  exact k.back fun _ kt => XS.iload X.here hx rfl hd hl kt
theorem Run.iloadN (X : Stand p l e R s m args below meth c T locs cells slots) (hx : p.tables.exec = Jvm.exec) {k : Fin 4} {v : Int32} (hd : decode c.code pc = .ok (.iload_n k, 1)) (hl : Ls[k.val]? = some (.val (.int v))) (hp : pc + 1 = pc') (k : Run p.tables e below Φ T (mkF m pc' Ls (.int v :: rest))) : Run p.tables e below Φ T (mkF m pc Ls rest) := by
  subst hp
  exact k.back fun _ kt => XS.iloadN X.here hx rfl hd hl kt
theorem Run.istore (X : Stand p l e R s m args below meth c T locs cells slots) (hx : p.tables.exec = Jvm.exec) {k : Nat} {v : Int32} {l' : Array Slot} (hd : decode c.code pc = .ok (.istore k, 2)) (hl : storeLocals Ls k (.int v) = some l') (hp : pc + 2 = pc') (k : Run p.tables e below Φ T (mkF m pc' l' rest)) : Run p.tables e below Φ T (mkF m pc Ls (.int v :: rest)) := by
  subst hp
  exact k.back fun _ kt => XS.istore X.here hx rfl hd rfl hl kt
theorem Run.istoreN (X : Stand p l e R s m args below meth c T locs cells slots) (hx : p.tables.exec = Jvm.exec) {k : Fin 4} {v : Int32} {l' : Array Slot} (hd : decode c.code pc = .ok (.istore_n k, 1)) (hl : storeLocals Ls k.val (.int v) = some l') (hp : pc + 1 = pc') (k : Run p.tables e below Φ T (mkF m pc' l' rest)) : Run p.tables e below Φ T (mkF m pc Ls (.int v :: rest)) := by
  subst hp
  exact k.back fun _ kt => XS.istoreN X.here hx rfl hd rfl hl kt
theorem Run.lload (X : Stand p l e R s m args below meth c T locs cells slots) (hx : p.tables.exec = Jvm.exec) {k : Nat} {v : Int64} (hd : decode c.code pc = .ok (.lload k, 2)) (hl : Ls[k]? = some (.val (.long v))) (hp : pc + 2 = pc') (k : Run p.tables e below Φ T (mkF m pc' Ls (.long v :: rest))) : Run p.tables e below Φ T (mkF m pc Ls rest) := by
  subst hp
  exact k.back fun _ kt => XS.lload X.here hx rfl hd hl kt
theorem Run.lloadN (X : Stand p l e R s m args below meth c T locs cells slots) (hx : p.tables.exec = Jvm.exec) {k : Fin 4} {v : Int64} (hd : decode c.code pc = .ok (.lload_n k, 1)) (hl : Ls[k.val]? = some (.val (.long v))) (hp : pc + 1 = pc') (k : Run p.tables e below Φ T (mkF m pc' Ls (.long v :: rest))) : Run p.tables e below Φ T (mkF m pc Ls rest) := by
  subst hp
  exact k.back fun _ kt => XS.lloadN X.here hx rfl hd hl kt
theorem Run.lstore (X : Stand p l e R s m args below meth c T locs cells slots) (hx : p.tables.exec = Jvm.exec) {k : Nat} {v : Int64} {l' : Array Slot} (hd : decode c.code pc = .ok (.lstore k, 2)) (hl : storeLocals Ls k (.long v) = some l') (hp : pc + 2 = pc') (k : Run p.tables e below Φ T (mkF m pc' l' rest)) : Run p.tables e below Φ T (mkF m pc Ls (.long v :: rest)) := by
  subst hp
  exact k.back fun _ kt => XS.lstore X.here hx rfl hd rfl hl kt
theorem Run.lstoreN (X : Stand p l e R s m args below meth c T locs cells slots) (hx : p.tables.exec = Jvm.exec) {k : Fin 4} {v : Int64} {l' : Array Slot} (hd : decode c.code pc = .ok (.lstore_n k, 1)) (hl : storeLocals Ls k.val (.long v) = some l') (hp : pc + 1 = pc') (k : Run p.tables e below Φ T (mkF m pc' l' rest)) : Run p.tables e below Φ T (mkF m pc Ls (.long v :: rest)) := by
  subst hp
  exact k.back fun _ kt => XS.lstoreN X.here hx rfl hd rfl hl kt
theorem Run.aload (X : Stand p l e R s m args below meth c T locs cells slots) (hx : p.tables.exec = Jvm.exec) {k : Nat} {v : Addr} (hd : decode c.code pc = .ok (.aload k, 2)) (hl : Ls[k]? = some (.val (.ref v))) (hp : pc + 2 = pc') (k : Run p.tables e below Φ T (mkF m pc' Ls (.ref v :: rest))) : Run p.tables e below Φ T (mkF m pc Ls rest) := by
  subst hp
  exact k.back fun _ kt => XS.aload X.here hx rfl hd hl rfl kt
theorem Run.aloadN (X : Stand p l e R s m args below meth c T locs cells slots) (hx : p.tables.exec = Jvm.exec) {k : Fin 4} {v : Addr} (hd : decode c.code pc = .ok (.aload_n k, 1)) (hl : Ls[k.val]? = some (.val (.ref v))) (hp : pc + 1 = pc') (k : Run p.tables e below Φ T (mkF m pc' Ls (.ref v :: rest))) : Run p.tables e below Φ T (mkF m pc Ls rest) := by
  subst hp
  exact k.back fun _ kt => XS.aloadN X.here hx rfl hd hl rfl kt
theorem Run.astore (X : Stand p l e R s m args below meth c T locs cells slots) (hx : p.tables.exec = Jvm.exec) {k : Nat} {v : Addr} {l' : Array Slot} (hd : decode c.code pc = .ok (.astore k, 2)) (hl : storeLocals Ls k (.ref v) = some l') (hp : pc + 2 = pc') (k : Run p.tables e below Φ T (mkF m pc' l' rest)) : Run p.tables e below Φ T (mkF m pc Ls (.ref v :: rest)) := by
  subst hp
  exact k.back fun _ kt => XS.astore X.here hx rfl hd rfl rfl hl kt
theorem Run.astoreN (X : Stand p l e R s m args below meth c T locs cells slots) (hx : p.tables.exec = Jvm.exec) {k : Fin 4} {v : Addr} {l' : Array Slot} (hd : decode c.code pc = .ok (.astore_n k, 1)) (hl : storeLocals Ls k.val (.ref v) = some l') (hp : pc + 1 = pc') (k : Run p.tables e below Φ T (mkF m pc' l' rest)) : Run p.tables e below Φ T (mkF m pc Ls (.ref v :: rest)) := by
  subst hp
  exact k.back fun _ kt => XS.astoreN X.here hx rfl hd rfl rfl hl kt
theorem Run.iconst (X : Stand p l e R s m args below meth c T locs cells slots) (hx : p.tables.exec = Jvm.exec) {i : Int} {v : Int32} (hd : decode c.code pc = .ok (.iconst i, 1)) (hv : Int32.ofInt i = v) (hp : pc + 1 = pc') (k : Run p.tables e below Φ T (mkF m pc' Ls (.int v :: rest))) : Run p.tables e below Φ T (mkF m pc Ls rest) := by
  subst hp
  exact k.back fun _ kt => XS.iconst X.here hx rfl hd (by rw [hv]; exact kt)
theorem Run.bipush (X : Stand p l e R s m args below meth c T locs cells slots) (hx : p.tables.exec = Jvm.exec) {i : Int} {v : Int32} (hd : decode c.code pc = .ok (.bipush i, 2)) (hv : (Int8.ofInt i).toInt32 = v) (hp : pc + 2 = pc') (k : Run p.tables e below Φ T (mkF m pc' Ls (.int v :: rest))) : Run p.tables e below Φ T (mkF m pc Ls rest) := by
  subst hp
  exact k.back fun _ kt => XS.bipush X.here hx rfl hd (by rw [hv]; exact kt)
theorem Run.sipush (X : Stand p l e R s m args below meth c T locs cells slots) (hx : p.tables.exec = Jvm.exec) {i : Int} {v : Int32} (hd : decode c.code pc = .ok (.sipush i, 3)) (hv : (Int16.ofInt i).toInt32 = v) (hp : pc + 3 = pc') (k : Run p.tables e below Φ T (mkF m pc' Ls (.int v :: rest))) : Run p.tables e below Φ T (mkF m pc Ls rest) := by
  subst hp
  exact k.back fun _ kt => XS.sipush X.here hx rfl hd (by rw [hv]; exact kt)
theorem Run.lconst (X : Stand p l e R s m args below meth c T locs cells slots) (hx : p.tables.exec = Jvm.exec) {i : Fin 2} {v : Int64} (hd : decode c.code pc = .ok (.lconst i, 1)) (hv : Int64.ofNat i = v) (hp : pc + 1 = pc') (k : Run p.tables e below Φ T (mkF m pc' Ls (.long v :: rest))) : Run p.tables e below Φ T (mkF m pc Ls rest) := by
  subst hp
  exact k.back fun _ kt => XS.lconst X.here hx rfl hd (by first | (rw [hv]; exact kt) | (rw [← hv] at kt; exact kt))
theorem Run.aconstNull (X : Stand p l e R s m args below meth c T locs cells slots) (hx : p.tables.exec = Jvm.exec) (hd : decode c.code pc = .ok (.aconst_null, 1)) (hp : pc + 1 = pc') (k : Run p.tables e below Φ T (mkF m pc' Ls (.null :: rest))) : Run p.tables e below Φ T (mkF m pc Ls rest) := by
  subst hp
  exact k.back fun _ kt => XS.aconstNull X.here hx rfl hd kt
theorem Run.iadd (X : Stand p l e R s m args below meth c T locs cells slots) (hx : p.tables.exec = Jvm.exec) {x y : Int32} (hd : decode c.code pc = .ok (.iadd, 1)) (hp : pc + 1 = pc') (k : Run p.tables e below Φ T (mkF m pc' Ls (.int (x + y) :: rest))) : Run p.tables e below Φ T (mkF m pc Ls (.int y :: .int x :: rest)) := by
  subst hp
  exact k.back fun _ kt => XS.iadd X.here hx rfl hd rfl kt
theorem Run.isub (X : Stand p l e R s m args below meth c T locs cells slots) (hx : p.tables.exec = Jvm.exec) {x y : Int32} (hd : decode c.code pc = .ok (.isub, 1)) (hp : pc + 1 = pc') (k : Run p.tables e below Φ T (mkF m pc' Ls (.int (x - y) :: rest))) : Run p.tables e below Φ T (mkF m pc Ls (.int y :: .int x :: rest)) := by
  subst hp
  exact k.back fun _ kt => XS.isub X.here hx rfl hd rfl kt
theorem Run.imul (X : Stand p l e R s m args below meth c T locs cells slots) (hx : p.tables.exec = Jvm.exec) {x y : Int32} (hd : decode c.code pc = .ok (.imul, 1)) (hp : pc + 1 = pc') (k : Run p.tables e below Φ T (mkF m pc' Ls (.int (x * y) :: rest))) : Run p.tables e below Φ T (mkF m pc Ls (.int y :: .int x :: rest)) := by
  subst hp
  exact k.back fun _ kt => XS.imul X.here hx rfl hd rfl kt
theorem Run.iand (X : Stand p l e R s m args below meth c T locs cells slots) (hx : p.tables.exec = Jvm.exec) {x y : Int32} (hd : decode c.code pc = .ok (.iand, 1)) (hp : pc + 1 = pc') (k : Run p.tables e below Φ T (mkF m pc' Ls (.int (x &&& y) :: rest))) : Run p.tables e below Φ T (mkF m pc Ls (.int y :: .int x :: rest)) := by
  subst hp
  exact k.back fun _ kt => XS.iand X.here hx rfl hd rfl kt
theorem Run.ior (X : Stand p l e R s m args below meth c T locs cells slots) (hx : p.tables.exec = Jvm.exec) {x y : Int32} (hd : decode c.code pc = .ok (.ior, 1)) (hp : pc + 1 = pc') (k : Run p.tables e below Φ T (mkF m pc' Ls (.int (x ||| y) :: rest))) : Run p.tables e below Φ T (mkF m pc Ls (.int y :: .int x :: rest)) := by
  subst hp
  exact k.back fun _ kt => XS.ior X.here hx rfl hd rfl kt
theorem Run.ixor (X : Stand p l e R s m args below meth c T locs cells slots) (hx : p.tables.exec = Jvm.exec) {x y : Int32} (hd : decode c.code pc = .ok (.ixor, 1)) (hp : pc + 1 = pc') (k : Run p.tables e below Φ T (mkF m pc' Ls (.int (x ^^^ y) :: rest))) : Run p.tables e below Φ T (mkF m pc Ls (.int y :: .int x :: rest)) := by
  subst hp
  exact k.back fun _ kt => XS.ixor X.here hx rfl hd rfl kt
theorem Run.idiv (X : Stand p l e R s m args below meth c T locs cells slots) (hx : p.tables.exec = Jvm.exec) {x y : Int32} (hd : decode c.code pc = .ok (.idiv, 1)) (hy : y ≠ 0) (hp : pc + 1 = pc') (k : Run p.tables e below Φ T (mkF m pc' Ls (.int (x / y) :: rest))) : Run p.tables e below Φ T (mkF m pc Ls (.int y :: .int x :: rest)) := by
  subst hp
  exact k.back fun _ kt => XS.idiv X.here hx rfl hd rfl hy kt
theorem Run.ladd (X : Stand p l e R s m args below meth c T locs cells slots) (hx : p.tables.exec = Jvm.exec) {x y : Int64} (hd : decode c.code pc = .ok (.ladd, 1)) (hp : pc + 1 = pc') (k : Run p.tables e below Φ T (mkF m pc' Ls (.long (x + y) :: rest))) : Run p.tables e below Φ T (mkF m pc Ls (.long y :: .long x :: rest)) := by
  subst hp
  exact k.back fun _ kt => XS.ladd X.here hx rfl hd rfl kt
theorem Run.lsub (X : Stand p l e R s m args below meth c T locs cells slots) (hx : p.tables.exec = Jvm.exec) {x y : Int64} (hd : decode c.code pc = .ok (.lsub, 1)) (hp : pc + 1 = pc') (k : Run p.tables e below Φ T (mkF m pc' Ls (.long (x - y) :: rest))) : Run p.tables e below Φ T (mkF m pc Ls (.long y :: .long x :: rest)) := by
  subst hp
  exact k.back fun _ kt => XS.lsub X.here hx rfl hd rfl kt
theorem Run.lmul (X : Stand p l e R s m args below meth c T locs cells slots) (hx : p.tables.exec = Jvm.exec) {x y : Int64} (hd : decode c.code pc = .ok (.lmul, 1)) (hp : pc + 1 = pc') (k : Run p.tables e below Φ T (mkF m pc' Ls (.long (x * y) :: rest))) : Run p.tables e below Φ T (mkF m pc Ls (.long y :: .long x :: rest)) := by
  subst hp
  exact k.back fun _ kt => XS.lmul X.here hx rfl hd rfl kt
theorem Run.land (X : Stand p l e R s m args below meth c T locs cells slots) (hx : p.tables.exec = Jvm.exec) {x y : Int64} (hd : decode c.code pc = .ok (.land, 1)) (hp : pc + 1 = pc') (k : Run p.tables e below Φ T (mkF m pc' Ls (.long (x &&& y) :: rest))) : Run p.tables e below Φ T (mkF m pc Ls (.long y :: .long x :: rest)) := by
  subst hp
  exact k.back fun _ kt => XS.land X.here hx rfl hd rfl kt
theorem Run.lor (X : Stand p l e R s m args below meth c T locs cells slots) (hx : p.tables.exec = Jvm.exec) {x y : Int64} (hd : decode c.code pc = .ok (.lor, 1)) (hp : pc + 1 = pc') (k : Run p.tables e below Φ T (mkF m pc' Ls (.long (x ||| y) :: rest))) : Run p.tables e below Φ T (mkF m pc Ls (.long y :: .long x :: rest)) := by
  subst hp
  exact k.back fun _ kt => XS.lor X.here hx rfl hd rfl kt
theorem Run.lxor (X : Stand p l e R s m args below meth c T locs cells slots) (hx : p.tables.exec = Jvm.exec) {x y : Int64} (hd : decode c.code pc = .ok (.lxor, 1)) (hp : pc + 1 = pc') (k : Run p.tables e below Φ T (mkF m pc' Ls (.long (x ^^^ y) :: rest))) : Run p.tables e below Φ T (mkF m pc Ls (.long y :: .long x :: rest)) := by
  subst hp
  exact k.back fun _ kt => XS.lxor X.here hx rfl hd rfl kt
theorem Run.ldiv (X : Stand p l e R s m args below meth c T locs cells slots) (hx : p.tables.exec = Jvm.exec) {x y : Int64} (hd : decode c.code pc = .ok (.ldiv, 1)) (hy : y ≠ 0) (hp : pc + 1 = pc') (k : Run p.tables e below Φ T (mkF m pc' Ls (.long (x / y) :: rest))) : Run p.tables e below Φ T (mkF m pc Ls (.long y :: .long x :: rest)) := by
  subst hp
  exact k.back fun _ kt => XS.ldiv X.here hx rfl hd rfl hy kt
theorem Run.irem (X : Stand p l e R s m args below meth c T locs cells slots) (hx : p.tables.exec = Jvm.exec) {x y : Int32} (hd : decode c.code pc = .ok (.irem, 1)) (hy : y ≠ 0) (hp : pc + 1 = pc') (k : Run p.tables e below Φ T (mkF m pc' Ls (.int (x % y) :: rest))) : Run p.tables e below Φ T (mkF m pc Ls (.int y :: .int x :: rest)) := by
  subst hp
  exact k.back fun _ kt => iremM X hx rfl hd rfl hy kt
theorem Run.ishl (X : Stand p l e R s m args below meth c T locs cells slots) (hx : p.tables.exec = Jvm.exec) {x : Int32} {y : Int32} (hd : decode c.code pc = .ok (.ishl, 1)) (hp : pc + 1 = pc') (k : Run p.tables e below Φ T (mkF m pc' Ls (.int (x <<< (y &&& 31)) :: rest))) : Run p.tables e below Φ T (mkF m pc Ls (.int y :: .int x :: rest)) := by
  subst hp
  exact k.back fun _ kt => XS.ishl X.here hx rfl hd rfl kt
theorem Run.ishr (X : Stand p l e R s m args below meth c T locs cells slots) (hx : p.tables.exec = Jvm.exec) {x : Int32} {y : Int32} (hd : decode c.code pc = .ok (.ishr, 1)) (hp : pc + 1 = pc') (k : Run p.tables e below Φ T (mkF m pc' Ls (.int (x >>> (y &&& 31)) :: rest))) : Run p.tables e below Φ T (mkF m pc Ls (.int y :: .int x :: rest)) := by
  subst hp
  exact k.back fun _ kt => XS.ishr X.here hx rfl hd rfl kt
theorem Run.iushr (X : Stand p l e R s m args below meth c T locs cells slots) (hx : p.tables.exec = Jvm.exec) {x : Int32} {y : Int32} (hd : decode c.code pc = .ok (.iushr, 1)) (hp : pc + 1 = pc') (k : Run p.tables e below Φ T (mkF m pc' Ls (.int ((x.toUInt32 >>> (y &&& 31).toUInt32).toInt32) :: rest))) : Run p.tables e below Φ T (mkF m pc Ls (.int y :: .int x :: rest)) := by
  subst hp
  exact k.back fun _ kt => XS.iushr X.here hx rfl hd rfl kt
theorem Run.lshl (X : Stand p l e R s m args below meth c T locs cells slots) (hx : p.tables.exec = Jvm.exec) {x : Int64} {y : Int32} (hd : decode c.code pc = .ok (.lshl, 1)) (hp : pc + 1 = pc') (k : Run p.tables e below Φ T (mkF m pc' Ls (.long (x <<< (y &&& 0x3f).toInt64) :: rest))) : Run p.tables e below Φ T (mkF m pc Ls (.int y :: .long x :: rest)) := by
  subst hp
  exact k.back fun _ kt => XS.lshl X.here hx rfl hd rfl kt
theorem Run.lshr (X : Stand p l e R s m args below meth c T locs cells slots) (hx : p.tables.exec = Jvm.exec) {x : Int64} {y : Int32} (hd : decode c.code pc = .ok (.lshr, 1)) (hp : pc + 1 = pc') (k : Run p.tables e below Φ T (mkF m pc' Ls (.long (x >>> (y &&& 0x3f).toInt64) :: rest))) : Run p.tables e below Φ T (mkF m pc Ls (.int y :: .long x :: rest)) := by
  subst hp
  exact k.back fun _ kt => XS.lshr X.here hx rfl hd rfl kt
theorem Run.lushr (X : Stand p l e R s m args below meth c T locs cells slots) (hx : p.tables.exec = Jvm.exec) {x : Int64} {y : Int32} (hd : decode c.code pc = .ok (.lushr, 1)) (hp : pc + 1 = pc') (k : Run p.tables e below Φ T (mkF m pc' Ls (.long ((x.toUInt64 >>> (y &&& 0x3f).toInt64.toUInt64).toInt64) :: rest))) : Run p.tables e below Φ T (mkF m pc Ls (.int y :: .long x :: rest)) := by
  subst hp
  exact k.back fun _ kt => XS.lushr X.here hx rfl hd rfl kt
theorem Run.i2l (X : Stand p l e R s m args below meth c T locs cells slots) (hx : p.tables.exec = Jvm.exec) {x : Int32} (hd : decode c.code pc = .ok (.i2l, 1)) (hp : pc + 1 = pc') (k : Run p.tables e below Φ T (mkF m pc' Ls (.long (x.toInt64) :: rest))) : Run p.tables e below Φ T (mkF m pc Ls (.int x :: rest)) := by
  subst hp
  exact k.back fun _ kt => XS.i2l X.here hx rfl hd rfl kt
theorem Run.l2i (X : Stand p l e R s m args below meth c T locs cells slots) (hx : p.tables.exec = Jvm.exec) {x : Int64} (hd : decode c.code pc = .ok (.l2i, 1)) (hp : pc + 1 = pc') (k : Run p.tables e below Φ T (mkF m pc' Ls (.int (x.toInt32) :: rest))) : Run p.tables e below Φ T (mkF m pc Ls (.long x :: rest)) := by
  subst hp
  exact k.back fun _ kt => XS.l2i X.here hx rfl hd rfl kt
theorem Run.i2b (X : Stand p l e R s m args below meth c T locs cells slots) (hx : p.tables.exec = Jvm.exec) {x : Int32} (hd : decode c.code pc = .ok (.i2b, 1)) (hp : pc + 1 = pc') (k : Run p.tables e below Φ T (mkF m pc' Ls (.int (x.toInt8.toInt32) :: rest))) : Run p.tables e below Φ T (mkF m pc Ls (.int x :: rest)) := by
  subst hp
  exact k.back fun _ kt => XS.i2b X.here hx rfl hd rfl kt
theorem Run.i2s (X : Stand p l e R s m args below meth c T locs cells slots) (hx : p.tables.exec = Jvm.exec) {x : Int32} (hd : decode c.code pc = .ok (.i2s, 1)) (hp : pc + 1 = pc') (k : Run p.tables e below Φ T (mkF m pc' Ls (.int (x.toInt16.toInt32) :: rest))) : Run p.tables e below Φ T (mkF m pc Ls (.int x :: rest)) := by
  subst hp
  exact k.back fun _ kt => XS.i2s X.here hx rfl hd rfl kt
theorem Run.i2c (X : Stand p l e R s m args below meth c T locs cells slots) (hx : p.tables.exec = Jvm.exec) {x : Int32} (hd : decode c.code pc = .ok (.i2c, 1)) (hp : pc + 1 = pc') (k : Run p.tables e below Φ T (mkF m pc' Ls (.int (x.toUInt32.toUInt16.toUInt32.toInt32) :: rest))) : Run p.tables e below Φ T (mkF m pc Ls (.int x :: rest)) := by
  subst hp
  exact k.back fun _ kt => XS.i2c X.here hx rfl hd rfl kt
theorem Run.ineg (X : Stand p l e R s m args below meth c T locs cells slots) (hx : p.tables.exec = Jvm.exec) {x : Int32} (hd : decode c.code pc = .ok (.ineg, 1)) (hp : pc + 1 = pc') (k : Run p.tables e below Φ T (mkF m pc' Ls (.int (-x) :: rest))) : Run p.tables e below Φ T (mkF m pc Ls (.int x :: rest)) := by
  subst hp
  exact k.back fun _ kt => XS.ineg X.here hx rfl hd rfl kt
theorem Run.lcmp (X : Stand p l e R s m args below meth c T locs cells slots) (hx : p.tables.exec = Jvm.exec) {x y : Int64} (hd : decode c.code pc = .ok (.lcmp, 1)) (hp : pc + 1 = pc') (k : Run p.tables e below Φ T (mkF m pc' Ls (.int (lcmpW x y) :: rest))) : Run p.tables e below Φ T (mkF m pc Ls (.long y :: .long x :: rest)) := by
  subst hp
  exact k.back fun _ kt => XS.lcmp X.here hx rfl hd rfl kt
theorem Run.dup (X : Stand p l e R s m args below meth c T locs cells slots) (hx : p.tables.exec = Jvm.exec) {x : Value} (hd : decode c.code pc = .ok (.dup, 1)) (hc : x.category = 1) (hp : pc + 1 = pc') (k : Run p.tables e below Φ T (mkF m pc' Ls (x :: x :: rest))) : Run p.tables e below Φ T (mkF m pc Ls (x :: rest)) := by
  subst hp
  exact k.back fun _ kt => XS.dup X.here hx rfl hd rfl hc kt
theorem Run.dupX1 (X : Stand p l e R s m args below meth c T locs cells slots) (hx : p.tables.exec = Jvm.exec) {x y : Value} (hd : decode c.code pc = .ok (.dup_x1, 1)) (hc : x.category = 1) (hc2 : y.category = 1) (hp : pc + 1 = pc') (k : Run p.tables e below Φ T (mkF m pc' Ls (x :: y :: x :: rest))) : Run p.tables e below Φ T (mkF m pc Ls (x :: y :: rest)) := by
  subst hp
  exact k.back fun _ kt => XS.dupX1 X.here hx rfl hd rfl hc hc2 kt
theorem Run.pop (X : Stand p l e R s m args below meth c T locs cells slots) (hx : p.tables.exec = Jvm.exec) {x : Value} (hd : decode c.code pc = .ok (.pop, 1)) (hc : x.category = 1) (hp : pc + 1 = pc') (k : Run p.tables e below Φ T (mkF m pc' Ls rest)) : Run p.tables e below Φ T (mkF m pc Ls (x :: rest)) := by
  subst hp
  exact k.back fun _ kt => XS.pop X.here hx rfl hd rfl hc kt
theorem Run.iinc (X : Stand p l e R s m args below meth c T locs cells slots) (hx : p.tables.exec = Jvm.exec) {n : Nat} {i : Int} {v w : Int32} {l' : Array Slot} (hd : decode c.code pc = .ok (.iinc n i, 3)) (hl : Ls[n]? = some (.val (.int v))) (hv : Int32.ofInt i = w) (hl' : storeLocals Ls n (.int (v + w)) = some l') (hp : pc + 3 = pc') (k : Run p.tables e below Φ T (mkF m pc' l' rest)) : Run p.tables e below Φ T (mkF m pc Ls rest) := by
  subst hp
  exact k.back fun _ kt => XS.iinc X.here hx rfl hd hl (by rw [hv]; exact hl') kt
theorem Run.goto (X : Stand p l e R s m args below meth c T locs cells slots) (hx : p.tables.exec = Jvm.exec) {o : Int} (hd : decode c.code pc = .ok (.goto o, 3)) (ho : 0 ≤ (pc : Int) + o) (hp : ((pc : Int) + o).toNat = pc') (k : Run p.tables e below Φ T (mkF m pc' Ls rest)) : Run p.tables e below Φ T (mkF m pc Ls rest) := k.back fun _ kt => XS.goto X.here hx rfl rfl hd ho hp kt
theorem Run.ifYes (X : Stand p l e R s m args below meth c T locs cells slots) (hx : p.tables.exec = Jvm.exec) {cd : ClassFile.Cond} {o : Int} {x : Int32} (hd : decode c.code pc = .ok (.ifCond cd o, 3)) (hc : ifCond.holds cd x = true) (ho : 0 ≤ (pc : Int) + o) (hp : ((pc : Int) + o).toNat = pc') (k : Run p.tables e below Φ T (mkF m pc' Ls rest)) : Run p.tables e below Φ T (mkF m pc Ls (.int x :: rest)) := k.back fun _ kt => XS.ifYes X.here hx rfl rfl hd rfl hc ho hp kt
theorem Run.ifNo (X : Stand p l e R s m args below meth c T locs cells slots) (hx : p.tables.exec = Jvm.exec) {cd : ClassFile.Cond} {o : Int} {x : Int32} (hd : decode c.code pc = .ok (.ifCond cd o, 3)) (hc : ifCond.holds cd x = false) (hp : pc + 3 = pc') (k : Run p.tables e below Φ T (mkF m pc' Ls rest)) : Run p.tables e below Φ T (mkF m pc Ls (.int x :: rest)) := by
  subst hp
  exact k.back fun _ kt => XS.ifNo X.here hx rfl hd rfl hc kt
theorem Run.icmpYes (X : Stand p l e R s m args below meth c T locs cells slots) (hx : p.tables.exec = Jvm.exec) {cd : ClassFile.Cond} {o : Int} {x y : Int32} (hd : decode c.code pc = .ok (.if_icmp cd o, 3)) (hc : if_icmp.holds cd x y = true) (ho : 0 ≤ (pc : Int) + o) (hp : ((pc : Int) + o).toNat = pc') (k : Run p.tables e below Φ T (mkF m pc' Ls rest)) : Run p.tables e below Φ T (mkF m pc Ls (.int y :: .int x :: rest)) := k.back fun _ kt => XS.icmpYes X.here hx rfl rfl hd rfl hc ho hp kt
theorem Run.icmpNo (X : Stand p l e R s m args below meth c T locs cells slots) (hx : p.tables.exec = Jvm.exec) {cd : ClassFile.Cond} {o : Int} {x y : Int32} (hd : decode c.code pc = .ok (.if_icmp cd o, 3)) (hc : if_icmp.holds cd x y = false) (hp : pc + 3 = pc') (k : Run p.tables e below Φ T (mkF m pc' Ls rest)) : Run p.tables e below Φ T (mkF m pc Ls (.int y :: .int x :: rest)) := by
  subst hp
  exact k.back fun _ kt => XS.icmpNo X.here hx rfl hd rfl hc kt
theorem Run.acmpYes (X : Stand p l e R s m args below meth c T locs cells slots) (hx : p.tables.exec = Jvm.exec) {cd : ACond} {o : Int} {a b : Addr} (hd : decode c.code pc = .ok (.if_acmp cd o, 3)) (hc : if_acmp.holds cd (some a) (some b) = true) (ho : 0 ≤ (pc : Int) + o) (hp : ((pc : Int) + o).toNat = pc') (k : Run p.tables e below Φ T (mkF m pc' Ls rest)) : Run p.tables e below Φ T (mkF m pc Ls (.ref b :: .ref a :: rest)) := k.back fun _ kt => XS.acmpYes X.here hx rfl rfl hd rfl hc ho hp kt
theorem Run.acmpNo (X : Stand p l e R s m args below meth c T locs cells slots) (hx : p.tables.exec = Jvm.exec) {cd : ACond} {o : Int} {a b : Addr} (hd : decode c.code pc = .ok (.if_acmp cd o, 3)) (hc : if_acmp.holds cd (some a) (some b) = false) (hp : pc + 3 = pc') (k : Run p.tables e below Φ T (mkF m pc' Ls rest)) : Run p.tables e below Φ T (mkF m pc Ls (.ref b :: .ref a :: rest)) := by
  subst hp
  exact k.back fun _ kt => XS.acmpNo X.here hx rfl hd rfl hc kt
theorem own_acmpEqT {a b : Addr} (h : a = b) : if_acmp.holds .eq (some a) (some b) = true := by subst h; simp [if_acmp.holds]
theorem own_acmpEqF {a b : Addr} (h : ¬ a = b) : if_acmp.holds .eq (some a) (some b) = false := by simp [if_acmp.holds, h]
theorem own_acmpNeT {a b : Addr} (h : a = b) : if_acmp.holds .ne (some a) (some b) = false := by subst h; simp [if_acmp.holds]
theorem own_acmpNeF {a b : Addr} (h : ¬ a = b) : if_acmp.holds .ne (some a) (some b) = true := by simp [if_acmp.holds, h]
theorem Run.ldcInt (X : Stand p l e R s m args below meth c T locs cells slots) (hx : p.tables.exec = Jvm.exec) {own : String} {index : Nat} {v : Int32} (hown : s.vm.findClass own = some m.cls) (hconst : (Cond.constant own index v).before args s = true) (hd : decode c.code pc = .ok (.ldc index, 2)) (hp : pc + 2 = pc') (k : Run p.tables e below Φ T (mkF m pc' Ls (.int v :: rest))) : Run p.tables e below Φ T (mkF m pc Ls rest) := by
  subst hp
  exact k.back fun _ kt => X.ldcInt hx hown hconst (g := mkF m pc Ls rest) rfl hd _ kt
theorem Run.ldc2Long (X : Stand p l e R s m args below meth c T locs cells slots) (hx : p.tables.exec = Jvm.exec) {own : String} {index : Nat} {v : Int64} (hown : s.vm.findClass own = some m.cls) (hconst : (Cond.constantLong own index v).before args s = true) (hd : decode c.code pc = .ok (.ldc2_w index, 3)) (hp : pc + 3 = pc') (k : Run p.tables e below Φ T (mkF m pc' Ls (.long v :: rest))) : Run p.tables e below Φ T (mkF m pc Ls rest) := by
  subst hp
  exact k.back fun _ kt => X.ldc2Long hx hown hconst (g := mkF m pc Ls rest) rfl hd _ kt
theorem Run.switchHit (X : Stand p l e R s m args below meth c T locs cells slots) (hx : p.tables.exec = Jvm.exec) {default : Int} {pairs : Array (Int × Int)} {len : Nat} {a off : Int} {z : Int32} (hd : decode c.code pc = .ok (.lookupswitch default pairs, len)) (hs : (pairs.toList.zip (pairs.toList.drop 1)).all (fun (a, next) => a.1 < next.1) = true) (hf : pairs.find? (·.1 == z.toInt) = some (a, off)) (ho : 0 ≤ (pc : Int) + off) (hp : ((pc : Int) + off).toNat = pc') (k : Run p.tables e below Φ T (mkF m pc' Ls rest)) : Run p.tables e below Φ T (mkF m pc Ls (.int z :: rest)) := by
  subst hp
  exact k.back fun _ kt => X.lookupswitchHit hx (g := mkF m pc Ls (.int z :: rest)) rfl rfl hd hs hf ho _ kt
theorem Run.switchMiss (X : Stand p l e R s m args below meth c T locs cells slots) (hx : p.tables.exec = Jvm.exec) {default : Int} {pairs : Array (Int × Int)} {len : Nat} {z : Int32} (hd : decode c.code pc = .ok (.lookupswitch default pairs, len)) (hs : (pairs.toList.zip (pairs.toList.drop 1)).all (fun (a, next) => a.1 < next.1) = true) (hf : pairs.find? (·.1 == z.toInt) = none) (ho : 0 ≤ (pc : Int) + default) (hp : ((pc : Int) + default).toNat = pc') (k : Run p.tables e below Φ T (mkF m pc' Ls rest)) : Run p.tables e below Φ T (mkF m pc Ls (.int z :: rest)) := by
  subst hp
  exact k.back fun _ kt => X.lookupswitchMiss hx (g := mkF m pc Ls (.int z :: rest)) rfl rfl hd hs hf ho _ kt
/-- a body that writes nothing returns r -/
abbrev QPure (n0 : Nat) (h0 : Heap) (r : Value) : Option Value → Heap → List Loc → Prop := fun v h L => v = some r ∧ Fr n0 L ∧ h = h0
theorem Run.retInt (X : Stand p l e R s m args below meth c T locs cells slots) (hx : p.tables.exec = Jvm.exec) {K N : Nat} {Q : Option Value → Heap → List Loc → Prop} {z : Int32} (hlk : meth.locks = false) (hret : meth.sig.returnType = some .int) (hd : decode c.code pc = .ok (.ireturn, 1)) (hQ : Q (some (.int z)) T.heap locs) (hc : cells ≤ K) (hn : slots ≤ N) : Run p.tables e below (FinR s K N Q) T (mkF m pc Ls (.int z :: rest)) := by
  obtain ⟨fs, hr, hrun, hended, hW, hsame⟩ := X.leave (v := (some (.int z))) (fun h => by rw [hret] at h; cases h) hlk
  exact ⟨_, _, retOut X hx hret rfl (Or.inl ⟨rfl, Or.inl rfl, z, rfl⟩) hd hr, hrun, hended, _, _, rfl, hQ, ⟨_, rfl⟩, hW, hsame.mono hc hn⟩
theorem Run.retLong (X : Stand p l e R s m args below meth c T locs cells slots) (hx : p.tables.exec = Jvm.exec) {K N : Nat} {Q : Option Value → Heap → List Loc → Prop} {z : Int64} (hlk : meth.locks = false) (hret : meth.sig.returnType = some .long) (hd : decode c.code pc = .ok (.lreturn, 1)) (hQ : Q (some (.long z)) T.heap locs) (hc : cells ≤ K) (hn : slots ≤ N) : Run p.tables e below (FinR s K N Q) T (mkF m pc Ls (.long z :: rest)) := by
  obtain ⟨fs, hr, hrun, hended, hW, hsame⟩ := X.leave (v := (some (.long z))) (fun h => by rw [hret] at h; cases h) hlk
  exact ⟨_, _, retOut X hx hret rfl (Or.inr (Or.inl ⟨rfl, rfl, z, rfl⟩)) hd hr, hrun, hended, _, _, rfl, hQ, ⟨_, rfl⟩, hW, hsame.mono hc hn⟩
theorem Run.retRef (X : Stand p l e R s m args below meth c T locs cells slots) (hx : p.tables.exec = Jvm.exec) {K N : Nat} {Q : Option Value → Heap → List Loc → Prop} {z : Addr} {t : FieldType} (hlk : meth.locks = false) (hret : meth.sig.returnType = some t) (ht : t.isReference = true) (hnr : narrow t (.ref z) = .ref z) (hd : decode c.code pc = .ok (.areturn, 1)) (hQ : Q (some (.ref z)) T.heap locs) (hc : cells ≤ K) (hn : slots ≤ N) : Run p.tables e below (FinR s K N Q) T (mkF m pc Ls (.ref z :: rest)) := by
  obtain ⟨fs, hr, hrun, hended, hW, hsame⟩ := X.leave (v := (some (.ref z))) (fun h => by rw [hret] at h; cases h) hlk
  exact ⟨_, _, retOut X hx hret hnr (Or.inr (Or.inr (Or.inr (Or.inr ⟨rfl, ht, rfl⟩)))) hd hr, hrun, hended, _, _, rfl, hQ, ⟨_, rfl⟩, hW, hsame.mono hc hn⟩
theorem Run.retSmall (X : Stand p l e R s m args below meth c T locs cells slots) (hx : p.tables.exec = Jvm.exec) {K N : Nat} {Q : Option Value → Heap → List Loc → Prop} {z z' : Int32} {t : FieldType} (hlk : meth.locks = false) (hret : meth.sig.returnType = some t) (ht : t = .boolean ∨ t = .byte ∨ t = .char ∨ t = .short) (hz : nar t z = z') (hd : decode c.code pc = .ok (.ireturn, 1)) (hQ : Q (some (.int z')) T.heap locs) (hc : cells ≤ K) (hn : slots ≤ N) : Run p.tables e below (FinR s K N Q) T (mkF m pc Ls (.int z :: rest)) := by
  obtain ⟨fs, hr, hrun, hended, hW, hsame⟩ := X.leave (v := (some (.int z'))) (fun h => by rw [hret] at h; cases h) hlk
  exact ⟨_, _, RoadKit.retN X hx hret ht hd (by rw [hz]; exact hr), hrun, hended, _, _, rfl, hQ, ⟨_, rfl⟩, hW, hsame.mono hc hn⟩
theorem Run.retVoid (X : Stand p l e R s m args below meth c T locs cells slots) (hx : p.tables.exec = Jvm.exec) {K N : Nat} {Q : Option Value → Heap → List Loc → Prop} (hlk : meth.locks = false) (hret : meth.sig.returnType = none) (hd : decode c.code pc = .ok (.return_, 1)) (hQ : Q none T.heap locs) (hc : cells ≤ K) (hn : slots ≤ N) : Run p.tables e below (FinR s K N Q) T (mkF m pc Ls []) := by
  obtain ⟨fs, hr, hrun, hended, hW, hsame⟩ := X.leave (v := none) (fun _ => rfl) hlk
  exact ⟨_, _, X.returnOut hx hret hd hr, hrun, hended, _, _, rfl, hQ, ⟨_, rfl⟩, hW, hsame.mono hc hn⟩
theorem callStatic (X : Stand p l e R s m args below meth c T locs cells slots) (hx : p.tables.exec = Jvm.exec) {a0 : Array Value} {Z : State} {h : Heap} {own : String} {index : Nat} {bytes : ByteArray} {maxL : Nat} {ret : Option FieldType} {rm : Room} {W : Nat} {Qc : Option Value → Heap → List Loc → Prop} {y : MethodName} {argsL : List Value} (hZ : Z.Warmed39 s.vm) (hown : s.vm.findClass own = some m.cls) (w1 : (Cond.methodLink own index y).before a0 Z = true) (w2 : (Cond.static y).before a0 Z = true) (w3 : (Cond.initialized y.cls).before a0 Z = true) (w4 : (Cond.code y bytes maxL ret).before a0 Z = true) (hy : y.cls ≠ "java/lang/invoke/MethodHandle" ∧ y.cls ≠ "java/lang/invoke/VarHandle") (eT : T.heap = h) (hM : MetFree l y (head1 [Cond.code y bytes maxL ret] rm) (fun av U => av = argsL.toArray ∧ Z.Warmed39 U.vm ∧ U.heap = h) (fun _ _ _ _ _ => True) (fun _ U o U' => ∃ v L, o = .returned v ∧ Qc v U'.heap L ∧ FrameEnd U o U' L rm.cells rm.slots)) (hd : decode c.code pc = .ok (.invokestatic index, 3)) (hlen : ∀ sig, parseMethodDescriptor y.desc = some sig → argsL.length = sig.parameters.length) (hf : rm.frames + 1 ≤ R.frames) (hl : W + (maxL + 11) + rm.locals ≤ R.locals) (hsize : Ls.size = c.maxLocals) (hW : (rest.map fun v => v.category).sum ≤ W) (hcs : cells + rm.cells ≤ R.cells) (hss : slots + rm.slots ≤ R.slots) :
    ∃ (T' : State) (L : List Loc) (v : Option Value), Stand p l e R s m args below meth c T' (locs ++ L) (cells + rm.cells) (slots + rm.slots) ∧ Qc v T'.heap L ∧ ∀ t, Steps p.tables e below (T'.setTop (mkF m (pc + 3) Ls (v.toList ++ rest))) t → Steps p.tables e below (T.setTop (mkF m pc Ls (argsL.reverse ++ rest))) t := by
  obtain ⟨v, vm, ⟨T', L', k', n'⟩, -, X', ⟨L, hQ, l1, l2, l3⟩, st⟩ := Jvm.LawKit.callS X hx (y := y) hown (mvT hZ w1) (mvT hZ w2) (mvT hZ w3) (mvT hZ w4) hy (backOf (W := W) hM hZ w4 w3 hf hl) (g := mkF m pc Ls (argsL.reverse ++ rest)) rfl hsize (argsL := argsL) (rest := rest) hlen rfl (by show 2 * 0 + _ ≤ _; omega) hd (fun _ _ => ⟨rfl, eT, hcs, hss⟩)
  dsimp only [Pt.U, Pt.locs, Pt.cells, Pt.slots] at X' hQ l1 l2 l3 st
  subst l1 l2 l3
  exact ⟨T', L, v, X', hQ, st⟩
theorem callSpecial (X : Stand p l e R s m args below meth c T locs cells slots) (hx : p.tables.exec = Jvm.exec) {a0 : Array Value} {Z : State} {h : Heap} {own : String} {index : Nat} {bytes : ByteArray} {maxL : Nat} {rm : Room} {W : Nat} {Qc : Option Value → Heap → List Loc → Prop} {y : MethodName} {a : Addr} {argsL : List Value} (hy1 : y.name = "<init>") (hZ : Z.Warmed39 s.vm) (hown : s.vm.findClass own = some m.cls) (w1 : (Cond.methodLink own index y).before a0 Z = true) (w2 : (Cond.instanceMethod y).before a0 Z = true) (w3 : (Cond.initialized y.cls).before a0 Z = true) (w4 : (Cond.code y bytes maxL none).before a0 Z = true) (hy : y.cls ≠ "java/lang/invoke/MethodHandle" ∧ y.cls ≠ "java/lang/invoke/VarHandle") (eT : T.heap = h) (hM : MetFree l y (head1 [Cond.code y bytes maxL none] rm) (fun av U => av = (.ref a :: argsL).toArray ∧ Z.Warmed39 U.vm ∧ U.heap = h) (fun _ _ _ _ _ => True) (fun _ U o U' => ∃ v L, o = .returned v ∧ Qc v U'.heap L ∧ FrameEnd U o U' L rm.cells rm.slots)) (hd : decode c.code pc = .ok (.invokespecial index, 3)) (hlen : ∀ sig, parseMethodDescriptor y.desc = some sig → argsL.length = sig.parameters.length) (hf : rm.frames + 1 ≤ R.frames) (hl : W + (maxL + 11) + rm.locals ≤ R.locals) (hsize : Ls.size = c.maxLocals) (hW : (rest.map fun v => v.category).sum ≤ W) (hcs : cells + rm.cells ≤ R.cells) (hss : slots + rm.slots ≤ R.slots) :
    ∃ (T' : State) (L : List Loc) (v : Option Value), Stand p l e R s m args below meth c T' (locs ++ L) (cells + rm.cells) (slots + rm.slots) ∧ Qc v T'.heap L ∧ ∀ t, Steps p.tables e below (T'.setTop (mkF m (pc + 3) Ls (v.toList ++ rest))) t → Steps p.tables e below (T.setTop (mkF m pc Ls (argsL.reverse ++ .ref a :: rest))) t := by
  obtain ⟨v, vm, ⟨T', L', k', n'⟩, -, X', ⟨L, hQ, l1, l2, l3⟩, st⟩ := X.specialBack hx (y := y) hy1 hown (mvT hZ w1) (mvT hZ w2) (mvT hZ w4) hy (backOf (W := W) hM hZ w4 w3 hf hl) (g := mkF m pc Ls (argsL.reverse ++ .ref a :: rest)) rfl hsize (Steps.refl _) (a := a) (argsL := argsL) (rest := rest) hlen rfl (by show 2 * 0 + _ ≤ _; omega) hd (fun _ _ => ⟨rfl, eT, hcs, hss⟩)
  dsimp only [Pt.U, Pt.locs, Pt.cells, Pt.slots] at X' hQ l1 l2 l3 st
  subst l1 l2 l3
  exact ⟨T', L, v, X', hQ, fun t kt => st.trans kt⟩
theorem callVirtual (X : Stand p l e R s m args below meth c T locs cells slots) (hx : p.tables.exec = Jvm.exec) {a0 : Array Value} {Z : State} {h : Heap} {own : String} {index : Nat} {bytes : ByteArray} {maxL : Nat} {ret : Option FieldType} {rm : Room} {W : Nat} {Qc : Option Value → Heap → List Loc → Prop} {y z : MethodName} {C : String} {a : Addr} {argsL : List Value} (hZ : Z.Warmed39 s.vm) (hown : s.vm.findClass own = some m.cls) (w1 : (Cond.methodLink own index y).before a0 Z = true) (w2 : (Cond.declares y).before a0 Z = true) (hnf : NotFace s y) (w5 : (Cond.selects C y z).before a0 Z = true) (w6 : (Cond.instanceMethod z).before a0 Z = true) (w3 : (Cond.initialized z.cls).before a0 Z = true) (w4 : (Cond.code z bytes maxL ret).before a0 Z = true) (hy : y.cls ≠ "java/lang/invoke/MethodHandle" ∧ y.cls ≠ "java/lang/invoke/VarHandle") (eT : T.heap = h) (E : Exa Z h a C) (hM : MetFree l z (head1 [Cond.code z bytes maxL ret] rm) (fun av U => av = (.ref a :: argsL).toArray ∧ Z.Warmed39 U.vm ∧ U.heap = h) (fun _ _ _ _ _ => True) (fun _ U o U' => ∃ v L, o = .returned v ∧ Qc v U'.heap L ∧ FrameEnd U o U' L rm.cells rm.slots)) (hd : decode c.code pc = .ok (.invokevirtual index, 3)) (hlen : ∀ sig, parseMethodDescriptor y.desc = some sig → argsL.length = sig.parameters.length) (hf : rm.frames + 1 ≤ R.frames) (hl : W + (maxL + 11) + rm.locals ≤ R.locals) (hsize : Ls.size = c.maxLocals) (hW : (rest.map fun v => v.category).sum ≤ W) (hcs : cells + rm.cells ≤ R.cells) (hss : slots + rm.slots ≤ R.slots) :
    ∃ (T' : State) (L : List Loc) (v : Option Value), Stand p l e R s m args below meth c T' (locs ++ L) (cells + rm.cells) (slots + rm.slots) ∧ Qc v T'.heap L ∧ ∀ t, Steps p.tables e below (T'.setTop (mkF m (pc + 3) Ls (v.toList ++ rest))) t → Steps p.tables e below (T.setTop (mkF m pc Ls (argsL.reverse ++ .ref a :: rest))) t := by
  obtain ⟨cB, kB, qa, -, qc⟩ := isOf hZ eT E
  obtain ⟨v, vm, ⟨T', L', k', n'⟩, -, X', ⟨L, hQ, l1, l2, l3⟩, st⟩ := X.virtualBack hx (y := y) (z := z) hown (mvT hZ w1) (mvT hZ w2) hnf (mvT hZ w5) (mvT hZ w6) hy (backOf (W := W) hM hZ w4 w3 hf hl) qa qc (g := mkF m pc Ls (argsL.reverse ++ .ref a :: rest)) rfl hsize (Steps.refl _) (argsL := argsL) (rest := rest) hlen rfl (by show 2 * 0 + _ ≤ _; omega) hd (fun _ _ => ⟨rfl, eT, hcs, hss⟩)
  dsimp only [Pt.U, Pt.locs, Pt.cells, Pt.slots] at X' hQ l1 l2 l3 st
  subst l1 l2 l3
  exact ⟨T', L, v, X', hQ, fun t kt => st.trans kt⟩
end Steps
section Arrays
variable {Z : State} {h h' : Heap} {a b : Addr} {ty : FieldType} {n : Int32} {f : Int32 → Int32} {sl : Nat} {v : Value} {ws : List Addr}
/-- the array at a: of kind ty, n places, the place j holds the int f j -/
def Ints (Z : State) (h : Heap) (a : Addr) (ty : FieldType) (n : Int32) (f : Int32 → Int32) : Prop := ∃ cl : Cell, Arr Z h a cl ty ∧ cl.slots.size = n.toNatClampNeg ∧ ¬ n < 0 ∧ ∀ j : Int32, ¬ j < 0 → j < n → cl.slots[j.toNatClampNeg]? = some (.int (f j))
theorem Ints.lt (F : Ints Z h a ty n f) : a < h.size := by obtain ⟨_, A, -⟩ := F; exact A.lt
theorem Ints.ext (E : Ext h h') (F : Ints Z h a ty n f) : Ints Z h' a ty n f := by obtain ⟨c, A, r⟩ := F; exact ⟨c, A.ext E, r⟩
theorem Ints.other (W : Wr h h' b sl v) (F : Ints Z h a ty n f) (q : a ≠ b) : Ints Z h' a ty n f := by obtain ⟨c, A, r⟩ := F; exact ⟨c, A.other W q, r⟩
theorem Ints.keep (F : Ints Z h a ty n f) (K : Keep h h' ws) (q : a ∉ ws) : Ints Z h' a ty n f := by obtain ⟨c, A, r⟩ := F; exact ⟨c, ⟨K.2.1 a c A.1 q, A.2⟩, r⟩
theorem Ints.inb {cl : Cell} (S : cl.slots.size = n.toNatClampNeg) {j : Int32} (h1 : ¬ j < 0) (h2 : j < n) : ¬ (j < 0 ∨ cl.slots.size ≤ j.toNatClampNeg) := inb_of S ⟨h1, h2⟩
theorem nat_inj {i j : Int32} (hi : ¬ i < 0) (hj : ¬ j < 0) (q : i.toNatClampNeg = j.toNatClampNeg) : i = j := Int32.toInt_inj.mp (by rw [nat_of hi, nat_of hj, q])
theorem Ints.set {j : Int32} {x : Int32} {cl : Cell} (A : Arr Z h a cl ty) (S : cl.slots.size = n.toNatClampNeg) (hn : ¬ n < 0) (H : ∀ j : Int32, ¬ j < 0 → j < n → cl.slots[j.toNatClampNeg]? = some (.int (f j))) (h1 : ¬ j < 0) (h2 : j < n) (W : Wr h h' a j.toNatClampNeg (.int x)) : Ints Z h' a ty n (fun i => if i = j then x else f i) := by
  refine ⟨_, A.same W, by rw [← S]; simp [Cell.setSlot], hn, fun i hi hi2 => ?_⟩
  have hlt : i.toNatClampNeg < cl.slots.size := Nat.lt_of_not_le fun q => inb_of S ⟨hi, hi2⟩ (Or.inr q)
  by_cases e : i = j
  · subst e; simp [Cell.setSlot, hlt]
  · have hne : j.toNatClampNeg ≠ i.toNatClampNeg := fun q => e (nat_inj hi h1 q.symm)
    simp only [if_neg e]
    rw [← H i hi hi2]
    simp [Cell.setSlot, Array.getElem?_setIfInBounds_ne hne]
theorem Ints.new {k : ClassId} (A : Arr Z h a (newA k ty n) ty) (hn : ¬ n < 0) (hd : defaultValue ty = .int 0) : Ints Z h a ty n (fun _ => 0) := by
  obtain ⟨cl, A', -, S, -, H, -⟩ := Arv.new A hn
  exact ⟨cl, A', S, hn, fun j h1 h2 => by rw [H _ (Nat.lt_of_not_le fun q => inb_of S ⟨h1, h2⟩ (Or.inr q))]; simp [hd]⟩
theorem Ints.congr {g : Int32 → Int32} (F : Ints Z h a ty n f) (q : ∀ j : Int32, ¬ j < 0 → j < n → f j = g j) : Ints Z h a ty n g := by
  obtain ⟨cl, A, S, hn, H⟩ := F
  exact ⟨cl, A, S, hn, fun j h1 h2 => by rw [← q j h1 h2]; exact H j h1 h2⟩
end Arrays
section ArraySteps
variable {p : Program} {l : Launch} {e : Env} {R : Room} {s : State} {m : MethodId} {args : Array Value} {below : List Frame} {meth : Method} {c : Code} {T : State} {locs : List Loc} {cells slots : Nat} {Φ : Outcome → State → Prop} {pc pc' : Nat} {Ls : Array Slot} {rest : List Value} {Z : State} {h : Heap} {a : Addr} {n j : Int32} {f : Int32 → Int32}
theorem Run.iaload (X : Stand p l e R s m args below meth c T locs cells slots) (hx : p.tables.exec = Jvm.exec) (hZ : Z.Warmed39 s.vm) (eT : T.heap = h) (F : Ints Z h a .int n f) (h1 : ¬ j < 0) (h2 : j < n) (hd : decode c.code pc = .ok (.iaload, 1)) (hp : pc + 1 = pc') (k : Run p.tables e below Φ T (mkF m pc' Ls (.int (f j) :: rest))) : Run p.tables e below Φ T (mkF m pc Ls (.int j :: .ref a :: rest)) := by
  subst hp
  obtain ⟨cl, A, S, hn, H⟩ := F
  exact k.back fun _ kt => X.iaload hx (by rw [eT]; exact A.1) (State.isArrayOf_alike hZ.alike A.2.1) A.2.2 (inb_of S ⟨h1, h2⟩) (H j h1 h2) (g := mkF m pc Ls (.int j :: .ref a :: rest)) rfl rfl hd _ kt
theorem Run.baload (X : Stand p l e R s m args below meth c T locs cells slots) (hx : p.tables.exec = Jvm.exec) (hZ : Z.Warmed39 s.vm) (eT : T.heap = h) (F : Ints Z h a .byte n f) (h1 : ¬ j < 0) (h2 : j < n) (hd : decode c.code pc = .ok (.baload, 1)) (hp : pc + 1 = pc') (k : Run p.tables e below Φ T (mkF m pc' Ls (.int (f j) :: rest))) : Run p.tables e below Φ T (mkF m pc Ls (.int j :: .ref a :: rest)) := by
  subst hp
  obtain ⟨cl, A, S, hn, H⟩ := F
  exact k.back fun _ kt => X.baloadBytes hx (by rw [eT]; exact A.1) (State.isArrayOf_alike hZ.alike A.2.1) A.2.2 (inb_of S ⟨h1, h2⟩) (H j h1 h2) (g := mkF m pc Ls (.int j :: .ref a :: rest)) rfl rfl hd _ kt
theorem Run.zaload (X : Stand p l e R s m args below meth c T locs cells slots) (hx : p.tables.exec = Jvm.exec) (hZ : Z.Warmed39 s.vm) (eT : T.heap = h) (F : Ints Z h a .boolean n f) (h1 : ¬ j < 0) (h2 : j < n) (hd : decode c.code pc = .ok (.baload, 1)) (hp : pc + 1 = pc') (k : Run p.tables e below Φ T (mkF m pc' Ls (.int (f j) :: rest))) : Run p.tables e below Φ T (mkF m pc Ls (.int j :: .ref a :: rest)) := by
  subst hp
  obtain ⟨cl, A, S, hn, H⟩ := F
  exact k.back fun _ kt => X.baloadBooleans hx (by rw [eT]; exact A.1) (State.isArrayOf_alike hZ.alike A.2.1) A.2.2 (inb_of S ⟨h1, h2⟩) (H j h1 h2) (g := mkF m pc Ls (.int j :: .ref a :: rest)) rfl rfl hd _ kt
theorem Run.arraylength (X : Stand p l e R s m args below meth c T locs cells slots) (hx : p.tables.exec = Jvm.exec) {ty : FieldType} (hZ : Z.Warmed39 s.vm) (eT : T.heap = h) (F : Ints Z h a ty n f) (hd : decode c.code pc = .ok (.arraylength, 1)) (hp : pc + 1 = pc') (k : Run p.tables e below Φ T (mkF m pc' Ls (.int n :: rest))) : Run p.tables e below Φ T (mkF m pc Ls (.ref a :: rest)) := by
  subst hp
  obtain ⟨cl, A, S, hn, H⟩ := F
  rw [← len_of S hn] at k
  exact k.back fun _ kt => X.arraylength hx (by rw [eT]; exact A.1) (State.isArrayOf_alike hZ.alike A.2.1) (g := mkF m pc Ls (.ref a :: rest)) rfl rfl hd _ kt
theorem st_iastore (X : Stand p l e R s m args below meth c T locs cells slots) (hx : p.tables.exec = Jvm.exec) {x : Int32} (hZ : Z.Warmed39 s.vm) (eT : T.heap = h) (F : Ints Z h a .int n f) (h1 : ¬ j < 0) (h2 : j < n) (hd : decode c.code pc = .ok (.iastore, 1)) : ∃ T' h' sl v, Stand p l e R s m args below meth c T' (locs ++ [⟨a, sl⟩]) cells slots ∧ T'.heap = h' ∧ Wr h h' a sl v ∧ Ints Z h' a .int n (fun i => if i = j then x else f i) ∧ ∀ t, Steps p.tables e below (T'.setTop (mkF m (pc + 1) Ls rest)) t → Steps p.tables e below (T.setTop (mkF m pc Ls (.int x :: .int j :: .ref a :: rest))) t := by
  obtain ⟨cl, A, S, hn, H⟩ := F
  obtain ⟨T', h', X', e', W, st⟩ := stI X hx hZ eT A (j := j) (x := x) (inb_of S ⟨h1, h2⟩) (g := mkF m pc Ls (.int x :: .int j :: .ref a :: rest)) rfl rfl hd
  exact ⟨T', h', _, _, X', e', W, Ints.set A S hn H h1 h2 W, st⟩
theorem st_bastore (X : Stand p l e R s m args below meth c T locs cells slots) (hx : p.tables.exec = Jvm.exec) {x : Int32} (hZ : Z.Warmed39 s.vm) (eT : T.heap = h) (F : Ints Z h a .byte n f) (h1 : ¬ j < 0) (h2 : j < n) (hd : decode c.code pc = .ok (.bastore, 1)) : ∃ T' h' sl v, Stand p l e R s m args below meth c T' (locs ++ [⟨a, sl⟩]) cells slots ∧ T'.heap = h' ∧ Wr h h' a sl v ∧ Ints Z h' a .byte n (fun i => if i = j then x.toInt8.toInt32 else f i) ∧ ∀ t, Steps p.tables e below (T'.setTop (mkF m (pc + 1) Ls rest)) t → Steps p.tables e below (T.setTop (mkF m pc Ls (.int x :: .int j :: .ref a :: rest))) t := by
  obtain ⟨cl, A, S, hn, H⟩ := F
  obtain ⟨T', h', X', e', W, st⟩ := stB X hx hZ eT A (j := j) (x := x) (inb_of S ⟨h1, h2⟩) (g := mkF m pc Ls (.int x :: .int j :: .ref a :: rest)) rfl rfl hd
  exact ⟨T', h', _, _, X', e', W, Ints.set A S hn H h1 h2 W, st⟩
theorem st_zastore (X : Stand p l e R s m args below meth c T locs cells slots) (hx : p.tables.exec = Jvm.exec) {x : Int32} (hZ : Z.Warmed39 s.vm) (eT : T.heap = h) (F : Ints Z h a .boolean n f) (h1 : ¬ j < 0) (h2 : j < n) (hd : decode c.code pc = .ok (.bastore, 1)) : ∃ T' h' sl v, Stand p l e R s m args below meth c T' (locs ++ [⟨a, sl⟩]) cells slots ∧ T'.heap = h' ∧ Wr h h' a sl v ∧ Ints Z h' a .boolean n (fun i => if i = j then x &&& 1 else f i) ∧ ∀ t, Steps p.tables e below (T'.setTop (mkF m (pc + 1) Ls rest)) t → Steps p.tables e below (T.setTop (mkF m pc Ls (.int x :: .int j :: .ref a :: rest))) t := by
  obtain ⟨cl, A, S, hn, H⟩ := F
  obtain ⟨T', h', X', e', W, st⟩ := stZ X hx hZ eT A (j := j) (x := x) (inb_of S ⟨h1, h2⟩) (g := mkF m pc Ls (.int x :: .int j :: .ref a :: rest)) rfl rfl hd
  exact ⟨T', h', _, _, X', e', W, Ints.set A S hn H h1 h2 W, st⟩
theorem st_newarray (X : Stand p l e R s m args below meth c T locs cells slots) (hx : p.tables.exec = Jvm.exec) {aty : ArrayType} {a0 : Array Value} (hZ : Z.Warmed39 s.vm) (w : (Cond.arrayClass (newarray.typeOf aty)).before a0 Z = true) (eT : T.heap = h) (hd : decode c.code pc = .ok (.newarray aty, 2)) (hn : ¬ n < 0) {cap : Nat} (hcap : n.toNatClampNeg ≤ cap) (hb : cap * 8 ≤ 536870912) (hc : cells + 1 ≤ R.cells) (hl : slots + cap ≤ R.slots) (hdef : defaultValue (newarray.typeOf aty) = .int 0) : ∃ T' h' b, Stand p l e R s m args below meth c T' locs (cells + 1) (slots + cap) ∧ T'.heap = h' ∧ Ext h h' ∧ b = h.size ∧ Ints Z h' b (newarray.typeOf aty) n (fun _ => 0) ∧ ∀ t, Steps p.tables e below (T'.setTop (mkF m (pc + 2) Ls (.ref b :: rest))) t → Steps p.tables e below (T.setTop (mkF m pc Ls (.int n :: rest))) t := by
  obtain ⟨T', h', cA, X', e', E, A, st⟩ := newP X hx hZ w eT (g := mkF m pc Ls (.int n :: rest)) rfl hd rfl hn hcap hb hc hl
  exact ⟨T', h', _, X', e', E, rfl, Ints.new A hn hdef, st⟩
end ArraySteps
section Table
variable {Z : State} {args : Array Value} {t : Term} {a : Addr} {c : Cell} {ty : FieldType} {n j : Int32}
theorem tab_ints {h : Heap} (F : Tab Z h a c ty n) : Ints Z h a ty n (atv c) := ⟨c, F.1, F.2.1, F.2.2.1, fun j h1 h2 => F.2.2.2 j (inb_of F.2.1 ⟨h1, h2⟩)⟩
theorem tab_all {q : Jvm.Cond} (et : ∀ idx, t.eval args Z none idx Z = some (.ref a)) (F : Tab Z Z.heap a c ty n) (h : (Jvm.Cond.all t q).value args Z none Z [] = some true) (h1 : ¬ j < 0) (h2 : j < n) : q.value args Z none Z [j.toNatClampNeg] = some true :=
  Jvm.Cond.all_elim (et []) (F.1.fin (Vm.Alike.refl _)) h _ (Nat.lt_of_not_le fun y => inb_of F.2.1 ⟨h1, h2⟩ (Or.inr y))
theorem tab_elem (et : ∀ idx, t.eval args Z none idx Z = some (.ref a)) (F : Tab Z Z.heap a c ty n) (h1 : ¬ j < 0) (h2 : j < n) : (Term.elem t (.index 0)).eval args Z none [j.toNatClampNeg] Z = some (.int (atv c j)) :=
  (elem_f (et _) (idx_at h1) (F.1.fin (Vm.Alike.refl _)) h1).trans (F.2.2.2 j (inb_of F.2.1 ⟨h1, h2⟩))
theorem tab_le {x v : Int32} (et : ∀ idx, t.eval args Z none idx Z = some (.ref a)) (F : Tab Z Z.heap a c ty n) (h : (Jvm.Cond.all t (.or (.le (.int x) (.index 0)) (.eq (.elem t (.index 0)) (.int v)))).value args Z none Z [] = some true) (j : Int32) (h1 : ¬ j < 0) (h2 : j < n) : x ≤ j ∨ atv c j = v :=
  or_e2 (Jvm.Cond.le_ints (Term.int_eval x) (idx_at h1)) (Jvm.Cond.eq_ints (tab_elem et F h1 h2) (Term.int_eval v)) (tab_all et F h h1 h2)
theorem tab_in {x y v : Int32} (et : ∀ idx, t.eval args Z none idx Z = some (.ref a)) (F : Tab Z Z.heap a c ty n) (h : (Jvm.Cond.all t (.or (.lt (.index 0) (.int x)) (.or (.le (.int y) (.index 0)) (.eq (.elem t (.index 0)) (.int v))))).value args Z none Z [] = some true) (j : Int32) (h1 : ¬ j < 0) (h2 : j < n) : j < x ∨ ¬ j < y ∨ atv c j = v :=
  or3 (tab_all et F h h1 h2) (Jvm.Cond.lt_ints (idx_at h1) (Term.int_eval x)) (Jvm.Cond.le_ints (Term.int_eval y) (idx_at h1)) (Jvm.Cond.eq_ints (tab_elem et F h1 h2) (Term.int_eval v))
theorem tab_one {k v : Int32} (et : ∀ idx, t.eval args Z none idx Z = some (.ref a)) (F : Tab Z Z.heap a c ty n) (h1 : ¬ k < 0) (h2 : k < n) (h : (Jvm.Cond.eq (.elem t (.int k)) (.int v)).value args Z none Z [] = some true) : atv c k = v := by
  have e := (elem_f (et []) (Term.int_eval (args := args) (first := Z) (o := none) (idx := []) (s := Z) k) (F.1.fin (Vm.Alike.refl _)) h1).trans (F.2.2.2 k (inb_of F.2.1 ⟨h1, h2⟩))
  have q := (Jvm.Cond.eq_ints e (Term.int_eval v)).symm.trans h
  simpa using q
theorem tab_ge {x v : Int32} (et : ∀ idx, t.eval args Z none idx Z = some (.ref a)) (F : Tab Z Z.heap a c ty n) (h : (Jvm.Cond.all t (.or (.lt (.index 0) (.int x)) (.eq (.elem t (.index 0)) (.int v)))).value args Z none Z [] = some true) (j : Int32) (h1 : ¬ j < 0) (h2 : j < n) : j < x ∨ atv c j = v :=
  or_e2 (Jvm.Cond.lt_ints (idx_at h1) (Term.int_eval x)) (Jvm.Cond.eq_ints (tab_elem et F h1 h2) (Term.int_eval v)) (tab_all et F h h1 h2)
theorem tab_start (hf : Fit Z) (et : t.eval args Z none [] Z = some (.ref a)) (A : Arr Z Z.heap a c ty) (hl : (Jvm.Cond.eq (Term.length t) (.int n)).value args Z none Z [] = some true) (ht : ty = .int ∨ ty = .boolean ∨ ty = .byte ∨ ty = .char ∨ ty = .short) (hn : ¬ n < 0) : Tab Z Z.heap a c ty n := by
  have e := eqv_i (Term.int_eval n) hl
  have ha : Z.arrayAt? a = some c := A.fin (Vm.Alike.refl _)
  by_cases q : c.slots.size < 2 ^ 31
  · have e2 := len_f et ha q
    exact Tab.start hf A ht q (by simpa using Option.some.inj (e2.symm.trans e)) hn
  · simp [Term.eval, et, ha, q] at e
theorem small_int (N : Nat) (hN : N < 2147483648) (P : Int32 → Prop) (H : ∀ k : Fin N, P (Int32.ofNat k.val)) (c : Int32) (h1 : ¬ c < 0) (h2 : c < Int32.ofNat N) : P c := by
  have e : c.toInt = (c.toNatClampNeg : Int) := nat_of h1
  have hc : Int32.ofNat c.toNatClampNeg = c := by
    apply Int32.toInt_inj.mp
    rw [Int32.toInt_ofNat_of_lt (by have := c.toInt_lt; omega), e]
  have h3 : c.toInt < (Int32.ofNat N).toInt := Int32.lt_iff_toInt_lt.mp h2
  rw [Int32.toInt_ofNat_of_lt (by omega)] at h3
  rw [← hc]
  exact H ⟨c.toNatClampNeg, by omega⟩
end Table
end Jvm.OwnRun

namespace Jvm.Pilot.@@N@@
open Jvm Jvm.ClassFile Sem Op Lib Jvm.Free Jvm.Stand Jvm.LawKit Jvm.RoadKit Jvm.OwnRun Bundle Jvm.Pilot.@@N@@.Jvm.D
theorem own_pd0 : parseMethodDescriptor "(I)B" = some ⟨[.int], some .byte⟩ := by decide +kernel
theorem own_pd1 : parseMethodDescriptor "()V" = some ⟨[], none⟩ := by decide +kernel
theorem own_pd2 : parseMethodDescriptor "([BII)Z" = some ⟨[(.array .byte), .int, .int], some .boolean⟩ := by decide +kernel
theorem own_pd3 : parseMethodDescriptor "(I)V" = some ⟨[.int], none⟩ := by decide +kernel
theorem own_pd4 : parseMethodDescriptor "()I" = some ⟨[], some .int⟩ := by decide +kernel
theorem own_pd5 : parseMethodDescriptor "()Z" = some ⟨[], some .boolean⟩ := by decide +kernel
theorem own_pn0 : plainName "com/example/vez/vez/gateway/http/HeadEnd" = true := by first | (simp [plainName, overriddenIn]; done) | decide +kernel
theorem own_pn1 : plainName "com/example/vez/vez/gateway/http/HeadEndResetPinLaw" = true := by first | (simp [plainName, overriddenIn]; done) | decide +kernel
abbrev own_S : Type := Int32 × Int32 × Int32 × Int32 × Int32
def own_line (sc bg wh t : Int32) : own_S := if (0 : Int32) < t then (sc, 0, 0, 1, wh) else if bg = (0 : Int32) then (sc, 0, 0, bg, wh) else (sc, 0, 0, bg, 1)
def own_step (sc ll cr bg wh v : Int32) : own_S := if v = (10 : Int32) then (if cr = (0 : Int32) then own_line (sc + (1 : Int32)) bg wh (ll - (0 : Int32)) else own_line (sc + (1 : Int32)) bg wh (ll - (1 : Int32))) else (if v = (13 : Int32) then (sc + (1 : Int32), ll + (1 : Int32), 1, bg, wh) else (sc + (1 : Int32), ll + (1 : Int32), 0, bg, wh))
def own_go : Nat → (Int32 → Int32) → Int32 → own_S → own_S
  | 0, _, _, s => s
  | k + 1, f, i, s => if s.2.2.2.2 = (0 : Int32) then own_go k f (i + (1 : Int32)) (own_step s.1 s.2.1 s.2.2.1 s.2.2.2.1 s.2.2.2.2 (f i)) else s
theorem own_up {i p : Int32} {k : Nat} (h : i.toInt + (k + 1 : Nat) = p.toInt) (h0 : 0 ≤ i.toInt) : (i + (1 : Int32)).toInt = i.toInt + 1 := by
  have h1 := c_iadd i 1
  have h2 := rng32 (i + 1)
  have h3 := rng32 p
  have e1 : (1 : Int32).toInt = 1 := rfl
  rw [e1] at h1
  omega

theorem own_di_0 : decode prog_32_method_1_code 0 = .ok (.aload_n 0, 1) := by decide +kernel
theorem own_di_1 : decode prog_32_method_1_code 1 = .ok (.invokespecial 1, 3) := by decide +kernel
theorem own_di_4 : decode prog_32_method_1_code 4 = .ok (.return_, 1) := by decide +kernel
theorem own_efi (m : MethodId) (x0 : Addr) : entryFrame m #[(.ref x0)] 1 = mkF m 0 #[.val (.ref x0)] [] := by first | (simp [entryFrame, mkF, argsToLocals, Value.category]; done) | rfl
set_option maxRecDepth 65536 in
set_option maxHeartbeats 40000000 in
theorem rm_i (l : Launch) (Z : State) (a0 : Array Value) (hw : ∀ d ∈ tables_1, d.before a0 Z = true) (ws : List Jvm.Cond) (o0 : Addr) (h0 : Heap) (n0 : Nat) (Z0 : n0 ≤ h0.size) :
    MetFree l (⟨"com/example/vez/vez/gateway/http/HeadEnd", "<init>", "()V"⟩ : MethodName) (head1 (Jvm.Cond.code (⟨"com/example/vez/vez/gateway/http/HeadEnd", "<init>", "()V"⟩ : MethodName) prog_32_method_1_code 1 none :: ws) ({ frames := 1, cells := 0, slots := 0, locals := 12 } : Room)) (fun a U => a = #[(.ref o0)] ∧ Z.Warmed39 U.vm ∧ U.heap = h0) (fun _ _ _ _ _ => True) (fun _ U o U' => ∃ v L, o = .returned v ∧ (Say (fun v h L => v = none ∧ Fr n0 L ∧ h = h0)) v U'.heap L ∧ FrameEnd U o U' L ({ frames := 1, cells := 0, slots := 0, locals := 12 } : Room).cells ({ frames := 1, cells := 0, slots := 0, locals := 12 } : Room).slots) := by
  refine MetFree.of_bodySF (plainFor_of_name own_pn0) hisR ?_
  intro p e s m args below meth c s₁ Bd hml0 hP hK
  obtain ⟨rfl, hZ, hh⟩ := hP
  have hx := Bd.exec
  have hby := Bd.bytes
  have hml : c.maxLocals = 1 := hml0
  have hown : s.vm.findClass "com/example/vez/vez/gateway/http/HeadEnd" = some m.cls := findClass_of_methodNamed Bd.named
  have hnm := (name_of_methodNamed Bd.named Bd.method).1
  have X0 : Stand p l e ({ frames := 1, cells := 0, slots := 0, locals := 12 } : Room) s m #[(.ref o0)] below meth c s₁ [] 0 0 := Stand.of_body Bd
  have e0 : s₁.heap = h0 := by rw [← hh, Bd.state]; rfl
  have N0 := Fr.nil n0
  suffices H : Run p.tables e below (FinR s ({ frames := 1, cells := 0, slots := 0, locals := 12 } : Room).cells ({ frames := 1, cells := 0, slots := 0, locals := 12 } : Room).slots (Say (fun v h L => v = none ∧ Fr n0 L ∧ h = h0))) s₁ (mkF m 0 #[.val (.ref o0)] []) by
    obtain ⟨s₂, o, k1, k2, k3, k4⟩ := H
    exact ⟨s₂, o, castTop (own_efi m o0) k1, k2, k3, k4⟩
  refine Run.aloadN (pc' := 1) X0 hx (hb hby own_di_0) rfl rfl ?_
  obtain ⟨T1, X1, e1, st1⟩ := initO X0 hx hZ hown (hw _ (List.mem_of_getElem? (i := 11) rfl)) (hw _ (List.mem_of_getElem? (i := 12) rfl)) (hw _ (List.mem_of_getElem? (i := 13) rfl)) e0 (g := (mkF m 1 #[.val (.ref o0)] [(.ref o0)])) rfl (by rw [hml]; rfl) rfl (hb hby own_di_1) (by decide) (W := 0) (by show 2 * 0 + _ ≤ _; exact Nat.le_of_eq rfl) (by decide)
  refine Run.back (g' := (mkF m 4 #[.val (.ref o0)] [])) st1 ?_
  exact Run.retVoid X1 hx Bd.notSynchronized Bd.returns (hb hby own_di_4) ⟨rfl, N0, e1⟩ (by decide) (by decide)
theorem own_df_0 : decode prog_32_method_3_code 0 = .ok (.iload_n 2, 1) := by decide +kernel
theorem own_df_1 : decode prog_32_method_3_code 1 = .ok (.istore 4, 2) := by decide +kernel
theorem own_df_3 : decode prog_32_method_3_code 3 = .ok (.aload_n 0, 1) := by decide +kernel
theorem own_df_4 : decode prog_32_method_3_code 4 = .ok (.getfield 23, 3) := by decide +kernel
theorem own_df_7 : decode prog_32_method_3_code 7 = .ok (.ifCond .ne 121, 3) := by decide +kernel
theorem own_df_10 : decode prog_32_method_3_code 10 = .ok (.iload 4, 2) := by decide +kernel
theorem own_df_12 : decode prog_32_method_3_code 12 = .ok (.iload_n 3, 1) := by decide +kernel
theorem own_df_13 : decode prog_32_method_3_code 13 = .ok (.if_icmp .ge 115, 3) := by decide +kernel
theorem own_df_16 : decode prog_32_method_3_code 16 = .ok (.aload_n 1, 1) := by decide +kernel
theorem own_df_17 : decode prog_32_method_3_code 17 = .ok (.iload 4, 2) := by decide +kernel
theorem own_df_19 : decode prog_32_method_3_code 19 = .ok (.baload, 1) := by decide +kernel
theorem own_df_20 : decode prog_32_method_3_code 20 = .ok (.istore 5, 2) := by decide +kernel
theorem own_df_22 : decode prog_32_method_3_code 22 = .ok (.aload_n 0, 1) := by decide +kernel
theorem own_df_23 : decode prog_32_method_3_code 23 = .ok (.dup, 1) := by decide +kernel
theorem own_df_24 : decode prog_32_method_3_code 24 = .ok (.getfield 7, 3) := by decide +kernel
theorem own_df_27 : decode prog_32_method_3_code 27 = .ok (.iconst 1, 1) := by decide +kernel
theorem own_df_28 : decode prog_32_method_3_code 28 = .ok (.iadd, 1) := by decide +kernel
theorem own_df_29 : decode prog_32_method_3_code 29 = .ok (.putfield 7, 3) := by decide +kernel
theorem own_df_32 : decode prog_32_method_3_code 32 = .ok (.iload 5, 2) := by decide +kernel
theorem own_df_34 : decode prog_32_method_3_code 34 = .ok (.bipush 10, 2) := by decide +kernel
theorem own_df_36 : decode prog_32_method_3_code 36 = .ok (.if_icmp .eq 32, 3) := by decide +kernel
theorem own_df_39 : decode prog_32_method_3_code 39 = .ok (.aload_n 0, 1) := by decide +kernel
theorem own_df_40 : decode prog_32_method_3_code 40 = .ok (.dup, 1) := by decide +kernel
theorem own_df_41 : decode prog_32_method_3_code 41 = .ok (.getfield 13, 3) := by decide +kernel
theorem own_df_44 : decode prog_32_method_3_code 44 = .ok (.iconst 1, 1) := by decide +kernel
theorem own_df_45 : decode prog_32_method_3_code 45 = .ok (.iadd, 1) := by decide +kernel
theorem own_df_46 : decode prog_32_method_3_code 46 = .ok (.putfield 13, 3) := by decide +kernel
theorem own_df_49 : decode prog_32_method_3_code 49 = .ok (.aload_n 0, 1) := by decide +kernel
theorem own_df_50 : decode prog_32_method_3_code 50 = .ok (.iload 5, 2) := by decide +kernel
theorem own_df_52 : decode prog_32_method_3_code 52 = .ok (.bipush 13, 2) := by decide +kernel
theorem own_df_54 : decode prog_32_method_3_code 54 = .ok (.if_icmp .ne 7, 3) := by decide +kernel
theorem own_df_57 : decode prog_32_method_3_code 57 = .ok (.iconst 1, 1) := by decide +kernel
theorem own_df_58 : decode prog_32_method_3_code 58 = .ok (.goto 4, 3) := by decide +kernel
theorem own_df_61 : decode prog_32_method_3_code 61 = .ok (.iconst 0, 1) := by decide +kernel
theorem own_df_62 : decode prog_32_method_3_code 62 = .ok (.putfield 16, 3) := by decide +kernel
theorem own_df_65 : decode prog_32_method_3_code 65 = .ok (.goto 57, 3) := by decide +kernel
theorem own_df_68 : decode prog_32_method_3_code 68 = .ok (.aload_n 0, 1) := by decide +kernel
theorem own_df_69 : decode prog_32_method_3_code 69 = .ok (.getfield 13, 3) := by decide +kernel
theorem own_df_72 : decode prog_32_method_3_code 72 = .ok (.aload_n 0, 1) := by decide +kernel
theorem own_df_73 : decode prog_32_method_3_code 73 = .ok (.getfield 16, 3) := by decide +kernel
theorem own_df_76 : decode prog_32_method_3_code 76 = .ok (.ifCond .eq 7, 3) := by decide +kernel
theorem own_df_79 : decode prog_32_method_3_code 79 = .ok (.iconst 1, 1) := by decide +kernel
theorem own_df_80 : decode prog_32_method_3_code 80 = .ok (.goto 4, 3) := by decide +kernel
theorem own_df_83 : decode prog_32_method_3_code 83 = .ok (.iconst 0, 1) := by decide +kernel
theorem own_df_84 : decode prog_32_method_3_code 84 = .ok (.isub, 1) := by decide +kernel
theorem own_df_85 : decode prog_32_method_3_code 85 = .ok (.istore 6, 2) := by decide +kernel
theorem own_df_87 : decode prog_32_method_3_code 87 = .ok (.iload 6, 2) := by decide +kernel
theorem own_df_89 : decode prog_32_method_3_code 89 = .ok (.ifCond .le 11, 3) := by decide +kernel
theorem own_df_92 : decode prog_32_method_3_code 92 = .ok (.aload_n 0, 1) := by decide +kernel
theorem own_df_93 : decode prog_32_method_3_code 93 = .ok (.iconst 1, 1) := by decide +kernel
theorem own_df_94 : decode prog_32_method_3_code 94 = .ok (.putfield 20, 3) := by decide +kernel
theorem own_df_97 : decode prog_32_method_3_code 97 = .ok (.goto 15, 3) := by decide +kernel
theorem own_df_100 : decode prog_32_method_3_code 100 = .ok (.aload_n 0, 1) := by decide +kernel
theorem own_df_101 : decode prog_32_method_3_code 101 = .ok (.getfield 20, 3) := by decide +kernel
theorem own_df_104 : decode prog_32_method_3_code 104 = .ok (.ifCond .eq 8, 3) := by decide +kernel
theorem own_df_107 : decode prog_32_method_3_code 107 = .ok (.aload_n 0, 1) := by decide +kernel
theorem own_df_108 : decode prog_32_method_3_code 108 = .ok (.iconst 1, 1) := by decide +kernel
theorem own_df_109 : decode prog_32_method_3_code 109 = .ok (.putfield 23, 3) := by decide +kernel
theorem own_df_112 : decode prog_32_method_3_code 112 = .ok (.aload_n 0, 1) := by decide +kernel
theorem own_df_113 : decode prog_32_method_3_code 113 = .ok (.iconst 0, 1) := by decide +kernel
theorem own_df_114 : decode prog_32_method_3_code 114 = .ok (.putfield 13, 3) := by decide +kernel
theorem own_df_117 : decode prog_32_method_3_code 117 = .ok (.aload_n 0, 1) := by decide +kernel
theorem own_df_118 : decode prog_32_method_3_code 118 = .ok (.iconst 0, 1) := by decide +kernel
theorem own_df_119 : decode prog_32_method_3_code 119 = .ok (.putfield 16, 3) := by decide +kernel
theorem own_df_122 : decode prog_32_method_3_code 122 = .ok (.iinc 4 1, 3) := by decide +kernel
theorem own_df_125 : decode prog_32_method_3_code 125 = .ok (.goto (-122), 3) := by decide +kernel
theorem own_df_128 : decode prog_32_method_3_code 128 = .ok (.aload_n 0, 1) := by decide +kernel
theorem own_df_129 : decode prog_32_method_3_code 129 = .ok (.getfield 23, 3) := by decide +kernel
theorem own_df_132 : decode prog_32_method_3_code 132 = .ok (.ireturn, 1) := by decide +kernel
theorem own_eff (m : MethodId) (x0 : Addr) (x1 : Addr) (x2 : Int32) (x3 : Int32) : entryFrame m #[(.ref x0), (.ref x1), (.int x2), (.int x3)] 7 = mkF m 0 #[.val (.ref x0), .val (.ref x1), .val (.int x2), .val (.int x3), .unset, .unset, .unset] [] := by first | (simp [entryFrame, mkF, argsToLocals, Value.category]; done) | rfl
set_option maxRecDepth 65536 in
set_option maxHeartbeats 40000000 in
theorem rm_f (l : Launch) (Z : State) (a0 : Array Value) (hw : ∀ d ∈ tables_1, d.before a0 Z = true) (ws : List Jvm.Cond) (o0 : Addr) (o1 : Addr) (p2 : Int32) (p3 : Int32) (sc : Int32) (ll : Int32) (cr : Int32) (bg : Int32) (wh : Int32) (k : Nat) (n : Int32) (f : Int32 → Int32) (h0 : Heap) (n0 : Nat) (Z0 : n0 ≤ h0.size) (E_o : Exa Z h0 o0 "com/example/vez/vez/gateway/http/HeadEnd") (F_scanned : Fld Z h0 o0 "com/example/vez/vez/gateway/http/HeadEnd" "scanned" "I" (.int sc)) (F_lineLength : Fld Z h0 o0 "com/example/vez/vez/gateway/http/HeadEnd" "lineLength" "I" (.int ll)) (F_cr : Fld Z h0 o0 "com/example/vez/vez/gateway/http/HeadEnd" "cr" "Z" (.int cr)) (F_begun : Fld Z h0 o0 "com/example/vez/vez/gateway/http/HeadEnd" "begun" "Z" (.int bg)) (F_whole : Fld Z h0 o0 "com/example/vez/vez/gateway/http/HeadEnd" "whole" "Z" (.int wh)) (g_o : n0 ≤ o0) (A_t : Ints Z h0 o1 .byte n f) (ne_o : o1 ≠ o0) (hk : p2.toInt + k = p3.toInt) (hk0 : 0 ≤ p2.toInt) (hkn : p3.toInt ≤ n.toInt) :
    MetFree l (⟨"com/example/vez/vez/gateway/http/HeadEnd", "find", "([BII)Z"⟩ : MethodName) (head1 (Jvm.Cond.code (⟨"com/example/vez/vez/gateway/http/HeadEnd", "find", "([BII)Z"⟩ : MethodName) prog_32_method_3_code 7 (some .boolean) :: ws) ({ frames := 0, cells := 0, slots := 0, locals := 0 } : Room)) (fun a U => a = #[(.ref o0), (.ref o1), (.int p2), (.int p3)] ∧ Z.Warmed39 U.vm ∧ U.heap = h0) (fun _ _ _ _ _ => True) (fun _ U o U' => ∃ v L, o = .returned v ∧ (Say (fun v h L => v = some (.int ((own_go k f p2 (sc, ll, cr, bg, wh)).2.2.2.2 &&& 1)) ∧ Fr n0 L ∧ Keep h0 h [o0] ∧ Exa Z h o0 "com/example/vez/vez/gateway/http/HeadEnd" ∧ Fld Z h o0 "com/example/vez/vez/gateway/http/HeadEnd" "scanned" "I" (.int (own_go k f p2 (sc, ll, cr, bg, wh)).1) ∧ Fld Z h o0 "com/example/vez/vez/gateway/http/HeadEnd" "lineLength" "I" (.int (own_go k f p2 (sc, ll, cr, bg, wh)).2.1) ∧ Fld Z h o0 "com/example/vez/vez/gateway/http/HeadEnd" "cr" "Z" (.int (own_go k f p2 (sc, ll, cr, bg, wh)).2.2.1) ∧ Fld Z h o0 "com/example/vez/vez/gateway/http/HeadEnd" "begun" "Z" (.int (own_go k f p2 (sc, ll, cr, bg, wh)).2.2.2.1) ∧ Fld Z h o0 "com/example/vez/vez/gateway/http/HeadEnd" "whole" "Z" (.int (own_go k f p2 (sc, ll, cr, bg, wh)).2.2.2.2))) v U'.heap L ∧ FrameEnd U o U' L ({ frames := 0, cells := 0, slots := 0, locals := 0 } : Room).cells ({ frames := 0, cells := 0, slots := 0, locals := 0 } : Room).slots) := by
  refine MetFree.of_bodySF (plainFor_of_name own_pn0) hisR ?_
  intro p e s m args below meth c s₁ Bd hml0 hP hK
  obtain ⟨rfl, hZ, hh⟩ := hP
  have hx := Bd.exec
  have hby := Bd.bytes
  have hml : c.maxLocals = 7 := hml0
  have hown : s.vm.findClass "com/example/vez/vez/gateway/http/HeadEnd" = some m.cls := findClass_of_methodNamed Bd.named
  have hnm := (name_of_methodNamed Bd.named Bd.method).1
  have X0 : Stand p l e ({ frames := 0, cells := 0, slots := 0, locals := 0 } : Room) s m #[(.ref o0), (.ref o1), (.int p2), (.int p3)] below meth c s₁ [] 0 0 := Stand.of_body Bd
  have e0 : s₁.heap = h0 := by rw [← hh, Bd.state]; rfl
  have N0 := Fr.nil n0
  suffices H : Run p.tables e below (FinR s ({ frames := 0, cells := 0, slots := 0, locals := 0 } : Room).cells ({ frames := 0, cells := 0, slots := 0, locals := 0 } : Room).slots (Say (fun v h L => v = some (.int ((own_go k f p2 (sc, ll, cr, bg, wh)).2.2.2.2 &&& 1)) ∧ Fr n0 L ∧ Keep h0 h [o0] ∧ Exa Z h o0 "com/example/vez/vez/gateway/http/HeadEnd" ∧ Fld Z h o0 "com/example/vez/vez/gateway/http/HeadEnd" "scanned" "I" (.int (own_go k f p2 (sc, ll, cr, bg, wh)).1) ∧ Fld Z h o0 "com/example/vez/vez/gateway/http/HeadEnd" "lineLength" "I" (.int (own_go k f p2 (sc, ll, cr, bg, wh)).2.1) ∧ Fld Z h o0 "com/example/vez/vez/gateway/http/HeadEnd" "cr" "Z" (.int (own_go k f p2 (sc, ll, cr, bg, wh)).2.2.1) ∧ Fld Z h o0 "com/example/vez/vez/gateway/http/HeadEnd" "begun" "Z" (.int (own_go k f p2 (sc, ll, cr, bg, wh)).2.2.2.1) ∧ Fld Z h o0 "com/example/vez/vez/gateway/http/HeadEnd" "whole" "Z" (.int (own_go k f p2 (sc, ll, cr, bg, wh)).2.2.2.2)))) s₁ (mkF m 0 #[.val (.ref o0), .val (.ref o1), .val (.int p2), .val (.int p3), .unset, .unset, .unset] []) by
    obtain ⟨s₂, o, k1, k2, k3, k4⟩ := H
    exact ⟨s₂, o, castTop (own_eff m o0 o1 p2 p3) k1, k2, k3, k4⟩
  obtain ⟨R, hR⟩ : ∃ R, R = own_go k f p2 (sc, ll, cr, bg, wh) := ⟨_, rfl⟩
  rw [← hR]
  have LOOP : ∀ (k : Nat) (i sc ll cr bg wh : Int32) (s5 s6 : Slot) (T : State) (h : Heap) (locs : List Loc) (R : own_S), R = own_go k f i (sc, ll, cr, bg, wh) → One s5 → One s6 → i.toInt + k = p3.toInt → 0 ≤ i.toInt → Stand p l e ({ frames := 0, cells := 0, slots := 0, locals := 0 } : Room) s m #[(.ref o0), (.ref o1), (.int p2), (.int p3)] below meth c T locs 0 0 → T.heap = h → Fr n0 locs → Keep h0 h [o0] → Exa Z h o0 "com/example/vez/vez/gateway/http/HeadEnd" → Fld Z h o0 "com/example/vez/vez/gateway/http/HeadEnd" "scanned" "I" (.int sc) → Fld Z h o0 "com/example/vez/vez/gateway/http/HeadEnd" "lineLength" "I" (.int ll) → Fld Z h o0 "com/example/vez/vez/gateway/http/HeadEnd" "cr" "Z" (.int cr) → Fld Z h o0 "com/example/vez/vez/gateway/http/HeadEnd" "begun" "Z" (.int bg) → Fld Z h o0 "com/example/vez/vez/gateway/http/HeadEnd" "whole" "Z" (.int wh) → Ints Z h o1 .byte n f → n0 ≤ h.size → Run p.tables e below (FinR s ({ frames := 0, cells := 0, slots := 0, locals := 0 } : Room).cells ({ frames := 0, cells := 0, slots := 0, locals := 0 } : Room).slots (Say (fun v h L => v = some (.int ((R).2.2.2.2 &&& 1)) ∧ Fr n0 L ∧ Keep h0 h [o0] ∧ Exa Z h o0 "com/example/vez/vez/gateway/http/HeadEnd" ∧ Fld Z h o0 "com/example/vez/vez/gateway/http/HeadEnd" "scanned" "I" (.int (R).1) ∧ Fld Z h o0 "com/example/vez/vez/gateway/http/HeadEnd" "lineLength" "I" (.int (R).2.1) ∧ Fld Z h o0 "com/example/vez/vez/gateway/http/HeadEnd" "cr" "Z" (.int (R).2.2.1) ∧ Fld Z h o0 "com/example/vez/vez/gateway/http/HeadEnd" "begun" "Z" (.int (R).2.2.2.1) ∧ Fld Z h o0 "com/example/vez/vez/gateway/http/HeadEnd" "whole" "Z" (.int (R).2.2.2.2)))) T (mkF m 3 #[.val (.ref o0), .val (.ref o1), .val (.int p2), .val (.int p3), .val (.int i), s5, s6] []) := by
    clear hR
    intro k
    induction k with
    | zero =>
      intro i sc ll cr bg wh s5 s6 T h locs R hR hs5 hs6 hik hi0 X eT N K0 E1 F_sc F_ll F_cr F_bg F_wh A1 Zs
      have hlt : ¬ i < p3 := fun q => by have := Int32.lt_iff_toInt_lt.mp q; omega
      have hR2 : R = (sc, ll, cr, bg, wh) := hR
      refine Run.aloadN (pc' := 4) X hx (hb hby own_df_3) rfl rfl ?_
      obtain ⟨T1, X1, e1, st1⟩ := getF X hx hZ hown (host := "") (Or.inl (hw _ (List.mem_of_getElem? (i := 19) rfl))) Via.refl eT F_wh (g := (mkF m 4 #[.val (.ref o0), .val (.ref o1), .val (.int p2), .val (.int p3), .val (.int i), s5, s6] [(.ref o0)])) rfl rfl (hb hby own_df_4)
      refine Run.back (g' := (mkF m 7 #[.val (.ref o0), .val (.ref o1), .val (.int p2), .val (.int p3), .val (.int i), s5, s6] [(.int wh)])) st1 ?_
      by_cases hc7 : wh = (0 : Int32)
      · skip
        refine Run.ifNo (pc' := 10) X1 hx (hb hby own_df_7) ((if0 _ _).trans (teq hc7).2) rfl ?_
        refine Run.iload (pc' := 12) X1 hx (hb hby own_df_10) rfl rfl ?_
        refine Run.iloadN (pc' := 13) X1 hx (hb hby own_df_12) rfl rfl ?_
        refine Run.icmpYes (pc' := 128) X1 hx (hb hby own_df_13) (flt hlt).2.1 (by decide) (by decide) ?_
        refine Run.aloadN (pc' := 129) X1 hx (hb hby own_df_128) rfl rfl ?_
        obtain ⟨T2, X2, e2, st2⟩ := getF X1 hx hZ hown (host := "") (Or.inl (hw _ (List.mem_of_getElem? (i := 19) rfl))) Via.refl e1 F_wh (g := (mkF m 129 #[.val (.ref o0), .val (.ref o1), .val (.int p2), .val (.int p3), .val (.int i), s5, s6] [(.ref o0)])) rfl rfl (hb hby own_df_129)
        refine Run.back (g' := (mkF m 132 #[.val (.ref o0), .val (.ref o1), .val (.int p2), .val (.int p3), .val (.int i), s5, s6] [(.int wh)])) st2 ?_
        exact Run.retSmall X2 hx (t := .boolean) (z' := (wh &&& 1)) Bd.notSynchronized Bd.returns (by simp) rfl (hb hby own_df_132) (by rw [hR2]; exact ⟨rfl, N, by rw [e2]; exact K0, by rw [e2]; exact E1, by rw [e2]; exact F_sc, by rw [e2]; exact F_ll, by rw [e2]; exact F_cr, by rw [e2]; exact F_bg, by rw [e2]; exact F_wh⟩) (by decide) (by decide)
      · skip
        refine Run.ifYes (pc' := 128) X1 hx (hb hby own_df_7) ((if0 _ _).trans (feq hc7).2) (by decide) (by decide) ?_
        refine Run.aloadN (pc' := 129) X1 hx (hb hby own_df_128) rfl rfl ?_
        obtain ⟨T3, X3, e3, st3⟩ := getF X1 hx hZ hown (host := "") (Or.inl (hw _ (List.mem_of_getElem? (i := 19) rfl))) Via.refl e1 F_wh (g := (mkF m 129 #[.val (.ref o0), .val (.ref o1), .val (.int p2), .val (.int p3), .val (.int i), s5, s6] [(.ref o0)])) rfl rfl (hb hby own_df_129)
        refine Run.back (g' := (mkF m 132 #[.val (.ref o0), .val (.ref o1), .val (.int p2), .val (.int p3), .val (.int i), s5, s6] [(.int wh)])) st3 ?_
        exact Run.retSmall X3 hx (t := .boolean) (z' := (wh &&& 1)) Bd.notSynchronized Bd.returns (by simp) rfl (hb hby own_df_132) (by rw [hR2]; exact ⟨rfl, N, by rw [e3]; exact K0, by rw [e3]; exact E1, by rw [e3]; exact F_sc, by rw [e3]; exact F_ll, by rw [e3]; exact F_cr, by rw [e3]; exact F_bg, by rw [e3]; exact F_wh⟩) (by decide) (by decide)
    | succ k ih =>
      intro i sc ll cr bg wh s5 s6 T h locs R hR hs5 hs6 hik hi0 X eT N K0 E1 F_sc F_ll F_cr F_bg F_wh A1 Zs
      have hlt : i < p3 := Int32.lt_iff_toInt_lt.mpr (by omega)
      have hup := own_up hik hi0
      have hge : ¬ i < 0 := fun q => by have := Int32.lt_iff_toInt_lt.mp q; have e0 : (0 : Int32).toInt = 0 := rfl; omega
      have hin : i < n := Int32.lt_iff_toInt_lt.mpr (by have := Int32.lt_iff_toInt_lt.mp hlt; omega)
      have hR2 : R = if wh = (0 : Int32) then own_go k f (i + (1 : Int32)) (own_step sc ll cr bg wh (f i)) else (sc, ll, cr, bg, wh) := hR
      refine Run.aloadN (pc' := 4) X hx (hb hby own_df_3) rfl rfl ?_
      obtain ⟨T4, X4, e4, st4⟩ := getF X hx hZ hown (host := "") (Or.inl (hw _ (List.mem_of_getElem? (i := 19) rfl))) Via.refl eT F_wh (g := (mkF m 4 #[.val (.ref o0), .val (.ref o1), .val (.int p2), .val (.int p3), .val (.int i), s5, s6] [(.ref o0)])) rfl rfl (hb hby own_df_4)
      refine Run.back (g' := (mkF m 7 #[.val (.ref o0), .val (.ref o1), .val (.int p2), .val (.int p3), .val (.int i), s5, s6] [(.int wh)])) st4 ?_
      by_cases hc7 : wh = (0 : Int32)
      · skip
        refine Run.ifNo (pc' := 10) X4 hx (hb hby own_df_7) ((if0 _ _).trans (teq hc7).2) rfl ?_
        refine Run.iload (pc' := 12) X4 hx (hb hby own_df_10) rfl rfl ?_
        refine Run.iloadN (pc' := 13) X4 hx (hb hby own_df_12) rfl rfl ?_
        refine Run.icmpNo (pc' := 16) X4 hx (hb hby own_df_13) (tlt hlt).2.1 rfl ?_
        refine Run.aloadN (pc' := 17) X4 hx (hb hby own_df_16) rfl rfl ?_
        refine Run.iload (pc' := 19) X4 hx (hb hby own_df_17) rfl rfl ?_
        refine Run.baload (pc' := 20) X4 hx hZ e4 A1 hge hin (hb hby own_df_19) rfl ?_
        refine Run.istore (pc' := 22) X4 hx (l' := #[.val (.ref o0), .val (.ref o1), .val (.int p2), .val (.int p3), .val (.int i), .val (.int (f i)), s6]) (hb hby own_df_20) (XS.store1 (o := s5) rfl hs5 rfl) rfl ?_
        refine Run.aloadN (pc' := 23) X4 hx (hb hby own_df_22) rfl rfl ?_
        refine Run.dup (pc' := 24) X4 hx (hb hby own_df_23) rfl rfl ?_
        obtain ⟨T5, X5, e5, st5⟩ := getF X4 hx hZ hown (host := "") (Or.inl (hw _ (List.mem_of_getElem? (i := 21) rfl))) Via.refl e4 F_sc (g := (mkF m 24 #[.val (.ref o0), .val (.ref o1), .val (.int p2), .val (.int p3), .val (.int i), .val (.int (f i)), s6] [(.ref o0), (.ref o0)])) rfl rfl (hb hby own_df_24)
        refine Run.back (g' := (mkF m 27 #[.val (.ref o0), .val (.ref o1), .val (.int p2), .val (.int p3), .val (.int i), .val (.int (f i)), s6] [(.int sc), (.ref o0)])) st5 ?_
        refine Run.iconst (pc' := 28) (v := (1 : Int32)) X5 hx (hb hby own_df_27) rfl rfl ?_
        refine Run.iadd (pc' := 29) X5 hx (hb hby own_df_28) rfl ?_
        obtain ⟨T6, h6, X6, e6, W6, st6⟩ := putF X5 hx hZ hown (host := "") (Or.inl (hw _ (List.mem_of_getElem? (i := 21) rfl))) Via.refl e5 F_sc E1 (Or.inl (hw _ (List.mem_of_getElem? (i := 22) rfl))) (hw _ (List.mem_of_getElem? (i := 6) rfl)) (ty := .int) (by decide) rfl rfl (g := (mkF m 29 #[.val (.ref o0), .val (.ref o1), .val (.int p2), .val (.int p3), .val (.int i), .val (.int (f i)), s6] [(.int (sc + (1 : Int32))), (.ref o0)])) rfl rfl (hb hby own_df_29)
        have N6 := Fr.snoc X6 N g_o
        have fq7 := Exa.wr W6 E1
        have fq8 := Ints.other W6 A1 ne_o
        have fq9 := Fld.same W6 F_sc
        have fq10 := Fld.other W6 F_ll (Or.inr (slot_ne (Or.inl (hw _ (List.mem_of_getElem? (i := 24) rfl))) (Or.inl (hw _ (List.mem_of_getElem? (i := 22) rfl))) (by decide) (t := .int) (t' := .int) (by decide) (by decide)))
        have fq11 := Fld.other W6 F_cr (Or.inr (slot_ne (Or.inl (hw _ (List.mem_of_getElem? (i := 26) rfl))) (Or.inl (hw _ (List.mem_of_getElem? (i := 22) rfl))) (by decide) (t := .boolean) (t' := .int) (by decide) (by decide)))
        have fq12 := Fld.other W6 F_bg (Or.inr (slot_ne (Or.inl (hw _ (List.mem_of_getElem? (i := 28) rfl))) (Or.inl (hw _ (List.mem_of_getElem? (i := 22) rfl))) (by decide) (t := .boolean) (t' := .int) (by decide) (by decide)))
        have fq13 := Fld.other W6 F_wh (Or.inr (slot_ne (Or.inl (hw _ (List.mem_of_getElem? (i := 20) rfl))) (Or.inl (hw _ (List.mem_of_getElem? (i := 22) rfl))) (by decide) (t := .boolean) (t' := .int) (by decide) (by decide)))
        have Z6 : n0 ≤ h6.size := Nat.le_trans Zs (Keep.of_wr W6).1
        have K6 := K0.wr W6 (Or.inl (List.mem_of_getElem? (i := 0) rfl))
        refine Run.back (g' := (mkF m 32 #[.val (.ref o0), .val (.ref o1), .val (.int p2), .val (.int p3), .val (.int i), .val (.int (f i)), s6] [])) st6 ?_
        refine Run.iload (pc' := 34) X6 hx (hb hby own_df_32) rfl rfl ?_
        refine Run.bipush (pc' := 36) (v := (10 : Int32)) X6 hx (hb hby own_df_34) rfl rfl ?_
        by_cases hc36 : (f i) = (10 : Int32)
        · skip
          refine Run.icmpYes (pc' := 68) X6 hx (hb hby own_df_36) (teq hc36).1 (by decide) (by decide) ?_
          refine Run.aloadN (pc' := 69) X6 hx (hb hby own_df_68) rfl rfl ?_
          obtain ⟨T14, X14, e14, st14⟩ := getF X6 hx hZ hown (host := "") (Or.inl (hw _ (List.mem_of_getElem? (i := 23) rfl))) Via.refl e6 fq10 (g := (mkF m 69 #[.val (.ref o0), .val (.ref o1), .val (.int p2), .val (.int p3), .val (.int i), .val (.int (f i)), s6] [(.ref o0)])) rfl rfl (hb hby own_df_69)
          refine Run.back (g' := (mkF m 72 #[.val (.ref o0), .val (.ref o1), .val (.int p2), .val (.int p3), .val (.int i), .val (.int (f i)), s6] [(.int ll)])) st14 ?_
          refine Run.aloadN (pc' := 73) X14 hx (hb hby own_df_72) rfl rfl ?_
          obtain ⟨T15, X15, e15, st15⟩ := getF X14 hx hZ hown (host := "") (Or.inl (hw _ (List.mem_of_getElem? (i := 25) rfl))) Via.refl e14 fq11 (g := (mkF m 73 #[.val (.ref o0), .val (.ref o1), .val (.int p2), .val (.int p3), .val (.int i), .val (.int (f i)), s6] [(.ref o0), (.int ll)])) rfl rfl (hb hby own_df_73)
          refine Run.back (g' := (mkF m 76 #[.val (.ref o0), .val (.ref o1), .val (.int p2), .val (.int p3), .val (.int i), .val (.int (f i)), s6] [(.int cr), (.int ll)])) st15 ?_
          by_cases hc76 : cr = (0 : Int32)
          · skip
            refine Run.ifYes (pc' := 83) X15 hx (hb hby own_df_76) ((if0 _ _).trans (teq hc76).1) (by decide) (by decide) ?_
            refine Run.iconst (pc' := 84) (v := (0 : Int32)) X15 hx (hb hby own_df_83) rfl rfl ?_
            refine Run.isub (pc' := 85) X15 hx (hb hby own_df_84) rfl ?_
            refine Run.istore (pc' := 87) X15 hx (l' := #[.val (.ref o0), .val (.ref o1), .val (.int p2), .val (.int p3), .val (.int i), .val (.int (f i)), .val (.int (ll - (0 : Int32)))]) (hb hby own_df_85) (XS.store1 (o := s6) rfl hs6 rfl) rfl ?_
            refine Run.iload (pc' := 89) X15 hx (hb hby own_df_87) rfl rfl ?_
            by_cases hc89 : (0 : Int32) < (ll - (0 : Int32))
            · skip
              refine Run.ifNo (pc' := 92) X15 hx (hb hby own_df_89) ((if0 _ _).trans (tlt hc89).2.2.2) rfl ?_
              refine Run.aloadN (pc' := 93) X15 hx (hb hby own_df_92) rfl rfl ?_
              refine Run.iconst (pc' := 94) (v := (1 : Int32)) X15 hx (hb hby own_df_93) rfl rfl ?_
              obtain ⟨T16, h16, X16, e16, W16, st16⟩ := putFN X15 hx hZ hown (hw _ (List.mem_of_getElem? (i := 27) rfl)) Via.refl e15 fq12 fq7 (Or.inl (hw _ (List.mem_of_getElem? (i := 28) rfl))) (hw _ (List.mem_of_getElem? (i := 6) rfl)) (ty := .boolean) (v' := .int (1 : Int32)) (by decide) rfl rfl (g := (mkF m 94 #[.val (.ref o0), .val (.ref o1), .val (.int p2), .val (.int p3), .val (.int i), .val (.int (f i)), .val (.int (ll - (0 : Int32)))] [(.int (1 : Int32)), (.ref o0)])) rfl rfl (hb hby own_df_94)
              have N16 := Fr.snoc X16 N6 g_o
              have fq17 := Exa.wr W16 fq7
              have fq18 := Ints.other W16 fq8 ne_o
              have fq19 := Fld.other W16 fq9 (Or.inr (slot_ne (Or.inl (hw _ (List.mem_of_getElem? (i := 22) rfl))) (Or.inl (hw _ (List.mem_of_getElem? (i := 28) rfl))) (by decide) (t := .int) (t' := .boolean) (by decide) (by decide)))
              have fq20 := Fld.other W16 fq10 (Or.inr (slot_ne (Or.inl (hw _ (List.mem_of_getElem? (i := 24) rfl))) (Or.inl (hw _ (List.mem_of_getElem? (i := 28) rfl))) (by decide) (t := .int) (t' := .boolean) (by decide) (by decide)))
              have fq21 := Fld.other W16 fq11 (Or.inr (slot_ne (Or.inl (hw _ (List.mem_of_getElem? (i := 26) rfl))) (Or.inl (hw _ (List.mem_of_getElem? (i := 28) rfl))) (by decide) (t := .boolean) (t' := .boolean) (by decide) (by decide)))
              have fq22 := Fld.same W16 fq12
              have fq23 := Fld.other W16 fq13 (Or.inr (slot_ne (Or.inl (hw _ (List.mem_of_getElem? (i := 20) rfl))) (Or.inl (hw _ (List.mem_of_getElem? (i := 28) rfl))) (by decide) (t := .boolean) (t' := .boolean) (by decide) (by decide)))
              have Z16 : n0 ≤ h16.size := Nat.le_trans Z6 (Keep.of_wr W16).1
              have K16 := K6.wr W16 (Or.inl (List.mem_of_getElem? (i := 0) rfl))
              refine Run.back (g' := (mkF m 97 #[.val (.ref o0), .val (.ref o1), .val (.int p2), .val (.int p3), .val (.int i), .val (.int (f i)), .val (.int (ll - (0 : Int32)))] [])) st16 ?_
              refine Run.goto (pc' := 112) X16 hx (hb hby own_df_97) (by decide) (by decide) ?_
              refine Run.aloadN (pc' := 113) X16 hx (hb hby own_df_112) rfl rfl ?_
              refine Run.iconst (pc' := 114) (v := (0 : Int32)) X16 hx (hb hby own_df_113) rfl rfl ?_
              obtain ⟨T24, h24, X24, e24, W24, st24⟩ := putF X16 hx hZ hown (host := "") (Or.inl (hw _ (List.mem_of_getElem? (i := 23) rfl))) Via.refl e16 fq20 fq17 (Or.inl (hw _ (List.mem_of_getElem? (i := 24) rfl))) (hw _ (List.mem_of_getElem? (i := 6) rfl)) (ty := .int) (by decide) rfl rfl (g := (mkF m 114 #[.val (.ref o0), .val (.ref o1), .val (.int p2), .val (.int p3), .val (.int i), .val (.int (f i)), .val (.int (ll - (0 : Int32)))] [(.int (0 : Int32)), (.ref o0)])) rfl rfl (hb hby own_df_114)
              have N24 := Fr.snoc X24 N16 g_o
              have fq25 := Exa.wr W24 fq17
              have fq26 := Ints.other W24 fq18 ne_o
              have fq27 := Fld.other W24 fq19 (Or.inr (slot_ne (Or.inl (hw _ (List.mem_of_getElem? (i := 22) rfl))) (Or.inl (hw _ (List.mem_of_getElem? (i := 24) rfl))) (by decide) (t := .int) (t' := .int) (by decide) (by decide)))
              have fq28 := Fld.same W24 fq20
              have fq29 := Fld.other W24 fq21 (Or.inr (slot_ne (Or.inl (hw _ (List.mem_of_getElem? (i := 26) rfl))) (Or.inl (hw _ (List.mem_of_getElem? (i := 24) rfl))) (by decide) (t := .boolean) (t' := .int) (by decide) (by decide)))
              have fq30 := Fld.other W24 fq22 (Or.inr (slot_ne (Or.inl (hw _ (List.mem_of_getElem? (i := 28) rfl))) (Or.inl (hw _ (List.mem_of_getElem? (i := 24) rfl))) (by decide) (t := .boolean) (t' := .int) (by decide) (by decide)))
              have fq31 := Fld.other W24 fq23 (Or.inr (slot_ne (Or.inl (hw _ (List.mem_of_getElem? (i := 20) rfl))) (Or.inl (hw _ (List.mem_of_getElem? (i := 24) rfl))) (by decide) (t := .boolean) (t' := .int) (by decide) (by decide)))
              have Z24 : n0 ≤ h24.size := Nat.le_trans Z16 (Keep.of_wr W24).1
              have K24 := K16.wr W24 (Or.inl (List.mem_of_getElem? (i := 0) rfl))
              refine Run.back (g' := (mkF m 117 #[.val (.ref o0), .val (.ref o1), .val (.int p2), .val (.int p3), .val (.int i), .val (.int (f i)), .val (.int (ll - (0 : Int32)))] [])) st24 ?_
              refine Run.aloadN (pc' := 118) X24 hx (hb hby own_df_117) rfl rfl ?_
              refine Run.iconst (pc' := 119) (v := (0 : Int32)) X24 hx (hb hby own_df_118) rfl rfl ?_
              obtain ⟨T32, h32, X32, e32, W32, st32⟩ := putFN X24 hx hZ hown (hw _ (List.mem_of_getElem? (i := 25) rfl)) Via.refl e24 fq29 fq25 (Or.inl (hw _ (List.mem_of_getElem? (i := 26) rfl))) (hw _ (List.mem_of_getElem? (i := 6) rfl)) (ty := .boolean) (v' := .int (0 : Int32)) (by decide) rfl rfl (g := (mkF m 119 #[.val (.ref o0), .val (.ref o1), .val (.int p2), .val (.int p3), .val (.int i), .val (.int (f i)), .val (.int (ll - (0 : Int32)))] [(.int (0 : Int32)), (.ref o0)])) rfl rfl (hb hby own_df_119)
              have N32 := Fr.snoc X32 N24 g_o
              have fq33 := Exa.wr W32 fq25
              have fq34 := Ints.other W32 fq26 ne_o
              have fq35 := Fld.other W32 fq27 (Or.inr (slot_ne (Or.inl (hw _ (List.mem_of_getElem? (i := 22) rfl))) (Or.inl (hw _ (List.mem_of_getElem? (i := 26) rfl))) (by decide) (t := .int) (t' := .boolean) (by decide) (by decide)))
              have fq36 := Fld.other W32 fq28 (Or.inr (slot_ne (Or.inl (hw _ (List.mem_of_getElem? (i := 24) rfl))) (Or.inl (hw _ (List.mem_of_getElem? (i := 26) rfl))) (by decide) (t := .int) (t' := .boolean) (by decide) (by decide)))
              have fq37 := Fld.same W32 fq29
              have fq38 := Fld.other W32 fq30 (Or.inr (slot_ne (Or.inl (hw _ (List.mem_of_getElem? (i := 28) rfl))) (Or.inl (hw _ (List.mem_of_getElem? (i := 26) rfl))) (by decide) (t := .boolean) (t' := .boolean) (by decide) (by decide)))
              have fq39 := Fld.other W32 fq31 (Or.inr (slot_ne (Or.inl (hw _ (List.mem_of_getElem? (i := 20) rfl))) (Or.inl (hw _ (List.mem_of_getElem? (i := 26) rfl))) (by decide) (t := .boolean) (t' := .boolean) (by decide) (by decide)))
              have Z32 : n0 ≤ h32.size := Nat.le_trans Z24 (Keep.of_wr W32).1
              have K32 := K24.wr W32 (Or.inl (List.mem_of_getElem? (i := 0) rfl))
              refine Run.back (g' := (mkF m 122 #[.val (.ref o0), .val (.ref o1), .val (.int p2), .val (.int p3), .val (.int i), .val (.int (f i)), .val (.int (ll - (0 : Int32)))] [])) st32 ?_
              refine Run.iinc (pc' := 125) (w := (1 : Int32)) (l' := #[.val (.ref o0), .val (.ref o1), .val (.int p2), .val (.int p3), .val (.int (i + (1 : Int32))), .val (.int (f i)), .val (.int (ll - (0 : Int32)))]) X32 hx (hb hby own_df_122) rfl rfl rfl rfl ?_
              refine Run.goto (pc' := 3) X32 hx (hb hby own_df_125) (by decide) (by decide) ?_
              rw [if_pos hc7, own_step, if_pos hc36, if_pos hc76, own_line, if_pos hc89] at hR2
              exact ih _ _ _ _ _ _ _ _ _ _ _ R hR2 (One.val rfl) (One.val rfl) (by rw [hup]; omega) (by rw [hup]; omega) X32 e32 N32 K32 fq33 fq35 fq36 fq37 fq38 fq39 fq34 Z32
            · skip
              refine Run.ifYes (pc' := 100) X15 hx (hb hby own_df_89) ((if0 _ _).trans (flt hc89).2.2.2) (by decide) (by decide) ?_
              refine Run.aloadN (pc' := 101) X15 hx (hb hby own_df_100) rfl rfl ?_
              obtain ⟨T40, X40, e40, st40⟩ := getF X15 hx hZ hown (host := "") (Or.inl (hw _ (List.mem_of_getElem? (i := 27) rfl))) Via.refl e15 fq12 (g := (mkF m 101 #[.val (.ref o0), .val (.ref o1), .val (.int p2), .val (.int p3), .val (.int i), .val (.int (f i)), .val (.int (ll - (0 : Int32)))] [(.ref o0)])) rfl rfl (hb hby own_df_101)
              refine Run.back (g' := (mkF m 104 #[.val (.ref o0), .val (.ref o1), .val (.int p2), .val (.int p3), .val (.int i), .val (.int (f i)), .val (.int (ll - (0 : Int32)))] [(.int bg)])) st40 ?_
              by_cases hc104 : bg = (0 : Int32)
              · skip
                refine Run.ifYes (pc' := 112) X40 hx (hb hby own_df_104) ((if0 _ _).trans (teq hc104).1) (by decide) (by decide) ?_
                refine Run.aloadN (pc' := 113) X40 hx (hb hby own_df_112) rfl rfl ?_
                refine Run.iconst (pc' := 114) (v := (0 : Int32)) X40 hx (hb hby own_df_113) rfl rfl ?_
                obtain ⟨T41, h41, X41, e41, W41, st41⟩ := putF X40 hx hZ hown (host := "") (Or.inl (hw _ (List.mem_of_getElem? (i := 23) rfl))) Via.refl e40 fq10 fq7 (Or.inl (hw _ (List.mem_of_getElem? (i := 24) rfl))) (hw _ (List.mem_of_getElem? (i := 6) rfl)) (ty := .int) (by decide) rfl rfl (g := (mkF m 114 #[.val (.ref o0), .val (.ref o1), .val (.int p2), .val (.int p3), .val (.int i), .val (.int (f i)), .val (.int (ll - (0 : Int32)))] [(.int (0 : Int32)), (.ref o0)])) rfl rfl (hb hby own_df_114)
                have N41 := Fr.snoc X41 N6 g_o
                have fq42 := Exa.wr W41 fq7
                have fq43 := Ints.other W41 fq8 ne_o
                have fq44 := Fld.other W41 fq9 (Or.inr (slot_ne (Or.inl (hw _ (List.mem_of_getElem? (i := 22) rfl))) (Or.inl (hw _ (List.mem_of_getElem? (i := 24) rfl))) (by decide) (t := .int) (t' := .int) (by decide) (by decide)))
                have fq45 := Fld.same W41 fq10
                have fq46 := Fld.other W41 fq11 (Or.inr (slot_ne (Or.inl (hw _ (List.mem_of_getElem? (i := 26) rfl))) (Or.inl (hw _ (List.mem_of_getElem? (i := 24) rfl))) (by decide) (t := .boolean) (t' := .int) (by decide) (by decide)))
                have fq47 := Fld.other W41 fq12 (Or.inr (slot_ne (Or.inl (hw _ (List.mem_of_getElem? (i := 28) rfl))) (Or.inl (hw _ (List.mem_of_getElem? (i := 24) rfl))) (by decide) (t := .boolean) (t' := .int) (by decide) (by decide)))
                have fq48 := Fld.other W41 fq13 (Or.inr (slot_ne (Or.inl (hw _ (List.mem_of_getElem? (i := 20) rfl))) (Or.inl (hw _ (List.mem_of_getElem? (i := 24) rfl))) (by decide) (t := .boolean) (t' := .int) (by decide) (by decide)))
                have Z41 : n0 ≤ h41.size := Nat.le_trans Z6 (Keep.of_wr W41).1
                have K41 := K6.wr W41 (Or.inl (List.mem_of_getElem? (i := 0) rfl))
                refine Run.back (g' := (mkF m 117 #[.val (.ref o0), .val (.ref o1), .val (.int p2), .val (.int p3), .val (.int i), .val (.int (f i)), .val (.int (ll - (0 : Int32)))] [])) st41 ?_
                refine Run.aloadN (pc' := 118) X41 hx (hb hby own_df_117) rfl rfl ?_
                refine Run.iconst (pc' := 119) (v := (0 : Int32)) X41 hx (hb hby own_df_118) rfl rfl ?_
                obtain ⟨T49, h49, X49, e49, W49, st49⟩ := putFN X41 hx hZ hown (hw _ (List.mem_of_getElem? (i := 25) rfl)) Via.refl e41 fq46 fq42 (Or.inl (hw _ (List.mem_of_getElem? (i := 26) rfl))) (hw _ (List.mem_of_getElem? (i := 6) rfl)) (ty := .boolean) (v' := .int (0 : Int32)) (by decide) rfl rfl (g := (mkF m 119 #[.val (.ref o0), .val (.ref o1), .val (.int p2), .val (.int p3), .val (.int i), .val (.int (f i)), .val (.int (ll - (0 : Int32)))] [(.int (0 : Int32)), (.ref o0)])) rfl rfl (hb hby own_df_119)
                have N49 := Fr.snoc X49 N41 g_o
                have fq50 := Exa.wr W49 fq42
                have fq51 := Ints.other W49 fq43 ne_o
                have fq52 := Fld.other W49 fq44 (Or.inr (slot_ne (Or.inl (hw _ (List.mem_of_getElem? (i := 22) rfl))) (Or.inl (hw _ (List.mem_of_getElem? (i := 26) rfl))) (by decide) (t := .int) (t' := .boolean) (by decide) (by decide)))
                have fq53 := Fld.other W49 fq45 (Or.inr (slot_ne (Or.inl (hw _ (List.mem_of_getElem? (i := 24) rfl))) (Or.inl (hw _ (List.mem_of_getElem? (i := 26) rfl))) (by decide) (t := .int) (t' := .boolean) (by decide) (by decide)))
                have fq54 := Fld.same W49 fq46
                have fq55 := Fld.other W49 fq47 (Or.inr (slot_ne (Or.inl (hw _ (List.mem_of_getElem? (i := 28) rfl))) (Or.inl (hw _ (List.mem_of_getElem? (i := 26) rfl))) (by decide) (t := .boolean) (t' := .boolean) (by decide) (by decide)))
                have fq56 := Fld.other W49 fq48 (Or.inr (slot_ne (Or.inl (hw _ (List.mem_of_getElem? (i := 20) rfl))) (Or.inl (hw _ (List.mem_of_getElem? (i := 26) rfl))) (by decide) (t := .boolean) (t' := .boolean) (by decide) (by decide)))
                have Z49 : n0 ≤ h49.size := Nat.le_trans Z41 (Keep.of_wr W49).1
                have K49 := K41.wr W49 (Or.inl (List.mem_of_getElem? (i := 0) rfl))
                refine Run.back (g' := (mkF m 122 #[.val (.ref o0), .val (.ref o1), .val (.int p2), .val (.int p3), .val (.int i), .val (.int (f i)), .val (.int (ll - (0 : Int32)))] [])) st49 ?_
                refine Run.iinc (pc' := 125) (w := (1 : Int32)) (l' := #[.val (.ref o0), .val (.ref o1), .val (.int p2), .val (.int p3), .val (.int (i + (1 : Int32))), .val (.int (f i)), .val (.int (ll - (0 : Int32)))]) X49 hx (hb hby own_df_122) rfl rfl rfl rfl ?_
                refine Run.goto (pc' := 3) X49 hx (hb hby own_df_125) (by decide) (by decide) ?_
                rw [if_pos hc7, own_step, if_pos hc36, if_pos hc76, own_line, if_neg hc89, if_pos hc104] at hR2
                exact ih _ _ _ _ _ _ _ _ _ _ _ R hR2 (One.val rfl) (One.val rfl) (by rw [hup]; omega) (by rw [hup]; omega) X49 e49 N49 K49 fq50 fq52 fq53 fq54 fq55 fq56 fq51 Z49
              · skip
                refine Run.ifNo (pc' := 107) X40 hx (hb hby own_df_104) ((if0 _ _).trans (feq hc104).1) rfl ?_
                refine Run.aloadN (pc' := 108) X40 hx (hb hby own_df_107) rfl rfl ?_
                refine Run.iconst (pc' := 109) (v := (1 : Int32)) X40 hx (hb hby own_df_108) rfl rfl ?_
                obtain ⟨T57, h57, X57, e57, W57, st57⟩ := putFN X40 hx hZ hown (hw _ (List.mem_of_getElem? (i := 19) rfl)) Via.refl e40 fq13 fq7 (Or.inl (hw _ (List.mem_of_getElem? (i := 20) rfl))) (hw _ (List.mem_of_getElem? (i := 6) rfl)) (ty := .boolean) (v' := .int (1 : Int32)) (by decide) rfl rfl (g := (mkF m 109 #[.val (.ref o0), .val (.ref o1), .val (.int p2), .val (.int p3), .val (.int i), .val (.int (f i)), .val (.int (ll - (0 : Int32)))] [(.int (1 : Int32)), (.ref o0)])) rfl rfl (hb hby own_df_109)
                have N57 := Fr.snoc X57 N6 g_o
                have fq58 := Exa.wr W57 fq7
                have fq59 := Ints.other W57 fq8 ne_o
                have fq60 := Fld.other W57 fq9 (Or.inr (slot_ne (Or.inl (hw _ (List.mem_of_getElem? (i := 22) rfl))) (Or.inl (hw _ (List.mem_of_getElem? (i := 20) rfl))) (by decide) (t := .int) (t' := .boolean) (by decide) (by decide)))
                have fq61 := Fld.other W57 fq10 (Or.inr (slot_ne (Or.inl (hw _ (List.mem_of_getElem? (i := 24) rfl))) (Or.inl (hw _ (List.mem_of_getElem? (i := 20) rfl))) (by decide) (t := .int) (t' := .boolean) (by decide) (by decide)))
                have fq62 := Fld.other W57 fq11 (Or.inr (slot_ne (Or.inl (hw _ (List.mem_of_getElem? (i := 26) rfl))) (Or.inl (hw _ (List.mem_of_getElem? (i := 20) rfl))) (by decide) (t := .boolean) (t' := .boolean) (by decide) (by decide)))
                have fq63 := Fld.other W57 fq12 (Or.inr (slot_ne (Or.inl (hw _ (List.mem_of_getElem? (i := 28) rfl))) (Or.inl (hw _ (List.mem_of_getElem? (i := 20) rfl))) (by decide) (t := .boolean) (t' := .boolean) (by decide) (by decide)))
                have fq64 := Fld.same W57 fq13
                have Z57 : n0 ≤ h57.size := Nat.le_trans Z6 (Keep.of_wr W57).1
                have K57 := K6.wr W57 (Or.inl (List.mem_of_getElem? (i := 0) rfl))
                refine Run.back (g' := (mkF m 112 #[.val (.ref o0), .val (.ref o1), .val (.int p2), .val (.int p3), .val (.int i), .val (.int (f i)), .val (.int (ll - (0 : Int32)))] [])) st57 ?_
                refine Run.aloadN (pc' := 113) X57 hx (hb hby own_df_112) rfl rfl ?_
                refine Run.iconst (pc' := 114) (v := (0 : Int32)) X57 hx (hb hby own_df_113) rfl rfl ?_
                obtain ⟨T65, h65, X65, e65, W65, st65⟩ := putF X57 hx hZ hown (host := "") (Or.inl (hw _ (List.mem_of_getElem? (i := 23) rfl))) Via.refl e57 fq61 fq58 (Or.inl (hw _ (List.mem_of_getElem? (i := 24) rfl))) (hw _ (List.mem_of_getElem? (i := 6) rfl)) (ty := .int) (by decide) rfl rfl (g := (mkF m 114 #[.val (.ref o0), .val (.ref o1), .val (.int p2), .val (.int p3), .val (.int i), .val (.int (f i)), .val (.int (ll - (0 : Int32)))] [(.int (0 : Int32)), (.ref o0)])) rfl rfl (hb hby own_df_114)
                have N65 := Fr.snoc X65 N57 g_o
                have fq66 := Exa.wr W65 fq58
                have fq67 := Ints.other W65 fq59 ne_o
                have fq68 := Fld.other W65 fq60 (Or.inr (slot_ne (Or.inl (hw _ (List.mem_of_getElem? (i := 22) rfl))) (Or.inl (hw _ (List.mem_of_getElem? (i := 24) rfl))) (by decide) (t := .int) (t' := .int) (by decide) (by decide)))
                have fq69 := Fld.same W65 fq61
                have fq70 := Fld.other W65 fq62 (Or.inr (slot_ne (Or.inl (hw _ (List.mem_of_getElem? (i := 26) rfl))) (Or.inl (hw _ (List.mem_of_getElem? (i := 24) rfl))) (by decide) (t := .boolean) (t' := .int) (by decide) (by decide)))
                have fq71 := Fld.other W65 fq63 (Or.inr (slot_ne (Or.inl (hw _ (List.mem_of_getElem? (i := 28) rfl))) (Or.inl (hw _ (List.mem_of_getElem? (i := 24) rfl))) (by decide) (t := .boolean) (t' := .int) (by decide) (by decide)))
                have fq72 := Fld.other W65 fq64 (Or.inr (slot_ne (Or.inl (hw _ (List.mem_of_getElem? (i := 20) rfl))) (Or.inl (hw _ (List.mem_of_getElem? (i := 24) rfl))) (by decide) (t := .boolean) (t' := .int) (by decide) (by decide)))
                have Z65 : n0 ≤ h65.size := Nat.le_trans Z57 (Keep.of_wr W65).1
                have K65 := K57.wr W65 (Or.inl (List.mem_of_getElem? (i := 0) rfl))
                refine Run.back (g' := (mkF m 117 #[.val (.ref o0), .val (.ref o1), .val (.int p2), .val (.int p3), .val (.int i), .val (.int (f i)), .val (.int (ll - (0 : Int32)))] [])) st65 ?_
                refine Run.aloadN (pc' := 118) X65 hx (hb hby own_df_117) rfl rfl ?_
                refine Run.iconst (pc' := 119) (v := (0 : Int32)) X65 hx (hb hby own_df_118) rfl rfl ?_
                obtain ⟨T73, h73, X73, e73, W73, st73⟩ := putFN X65 hx hZ hown (hw _ (List.mem_of_getElem? (i := 25) rfl)) Via.refl e65 fq70 fq66 (Or.inl (hw _ (List.mem_of_getElem? (i := 26) rfl))) (hw _ (List.mem_of_getElem? (i := 6) rfl)) (ty := .boolean) (v' := .int (0 : Int32)) (by decide) rfl rfl (g := (mkF m 119 #[.val (.ref o0), .val (.ref o1), .val (.int p2), .val (.int p3), .val (.int i), .val (.int (f i)), .val (.int (ll - (0 : Int32)))] [(.int (0 : Int32)), (.ref o0)])) rfl rfl (hb hby own_df_119)
                have N73 := Fr.snoc X73 N65 g_o
                have fq74 := Exa.wr W73 fq66
                have fq75 := Ints.other W73 fq67 ne_o
                have fq76 := Fld.other W73 fq68 (Or.inr (slot_ne (Or.inl (hw _ (List.mem_of_getElem? (i := 22) rfl))) (Or.inl (hw _ (List.mem_of_getElem? (i := 26) rfl))) (by decide) (t := .int) (t' := .boolean) (by decide) (by decide)))
                have fq77 := Fld.other W73 fq69 (Or.inr (slot_ne (Or.inl (hw _ (List.mem_of_getElem? (i := 24) rfl))) (Or.inl (hw _ (List.mem_of_getElem? (i := 26) rfl))) (by decide) (t := .int) (t' := .boolean) (by decide) (by decide)))
                have fq78 := Fld.same W73 fq70
                have fq79 := Fld.other W73 fq71 (Or.inr (slot_ne (Or.inl (hw _ (List.mem_of_getElem? (i := 28) rfl))) (Or.inl (hw _ (List.mem_of_getElem? (i := 26) rfl))) (by decide) (t := .boolean) (t' := .boolean) (by decide) (by decide)))
                have fq80 := Fld.other W73 fq72 (Or.inr (slot_ne (Or.inl (hw _ (List.mem_of_getElem? (i := 20) rfl))) (Or.inl (hw _ (List.mem_of_getElem? (i := 26) rfl))) (by decide) (t := .boolean) (t' := .boolean) (by decide) (by decide)))
                have Z73 : n0 ≤ h73.size := Nat.le_trans Z65 (Keep.of_wr W73).1
                have K73 := K65.wr W73 (Or.inl (List.mem_of_getElem? (i := 0) rfl))
                refine Run.back (g' := (mkF m 122 #[.val (.ref o0), .val (.ref o1), .val (.int p2), .val (.int p3), .val (.int i), .val (.int (f i)), .val (.int (ll - (0 : Int32)))] [])) st73 ?_
                refine Run.iinc (pc' := 125) (w := (1 : Int32)) (l' := #[.val (.ref o0), .val (.ref o1), .val (.int p2), .val (.int p3), .val (.int (i + (1 : Int32))), .val (.int (f i)), .val (.int (ll - (0 : Int32)))]) X73 hx (hb hby own_df_122) rfl rfl rfl rfl ?_
                refine Run.goto (pc' := 3) X73 hx (hb hby own_df_125) (by decide) (by decide) ?_
                rw [if_pos hc7, own_step, if_pos hc36, if_pos hc76, own_line, if_neg hc89, if_neg hc104] at hR2
                exact ih _ _ _ _ _ _ _ _ _ _ _ R hR2 (One.val rfl) (One.val rfl) (by rw [hup]; omega) (by rw [hup]; omega) X73 e73 N73 K73 fq74 fq76 fq77 fq78 fq79 fq80 fq75 Z73
          · skip
            refine Run.ifNo (pc' := 79) X15 hx (hb hby own_df_76) ((if0 _ _).trans (feq hc76).1) rfl ?_
            refine Run.iconst (pc' := 80) (v := (1 : Int32)) X15 hx (hb hby own_df_79) rfl rfl ?_
            refine Run.goto (pc' := 84) X15 hx (hb hby own_df_80) (by decide) (by decide) ?_
            refine Run.isub (pc' := 85) X15 hx (hb hby own_df_84) rfl ?_
            refine Run.istore (pc' := 87) X15 hx (l' := #[.val (.ref o0), .val (.ref o1), .val (.int p2), .val (.int p3), .val (.int i), .val (.int (f i)), .val (.int (ll - (1 : Int32)))]) (hb hby own_df_85) (XS.store1 (o := s6) rfl hs6 rfl) rfl ?_
            refine Run.iload (pc' := 89) X15 hx (hb hby own_df_87) rfl rfl ?_
            by_cases hc89 : (0 : Int32) < (ll - (1 : Int32))
            · skip
              refine Run.ifNo (pc' := 92) X15 hx (hb hby own_df_89) ((if0 _ _).trans (tlt hc89).2.2.2) rfl ?_
              refine Run.aloadN (pc' := 93) X15 hx (hb hby own_df_92) rfl rfl ?_
              refine Run.iconst (pc' := 94) (v := (1 : Int32)) X15 hx (hb hby own_df_93) rfl rfl ?_
              obtain ⟨T81, h81, X81, e81, W81, st81⟩ := putFN X15 hx hZ hown (hw _ (List.mem_of_getElem? (i := 27) rfl)) Via.refl e15 fq12 fq7 (Or.inl (hw _ (List.mem_of_getElem? (i := 28) rfl))) (hw _ (List.mem_of_getElem? (i := 6) rfl)) (ty := .boolean) (v' := .int (1 : Int32)) (by decide) rfl rfl (g := (mkF m 94 #[.val (.ref o0), .val (.ref o1), .val (.int p2), .val (.int p3), .val (.int i), .val (.int (f i)), .val (.int (ll - (1 : Int32)))] [(.int (1 : Int32)), (.ref o0)])) rfl rfl (hb hby own_df_94)
              have N81 := Fr.snoc X81 N6 g_o
              have fq82 := Exa.wr W81 fq7
              have fq83 := Ints.other W81 fq8 ne_o
              have fq84 := Fld.other W81 fq9 (Or.inr (slot_ne (Or.inl (hw _ (List.mem_of_getElem? (i := 22) rfl))) (Or.inl (hw _ (List.mem_of_getElem? (i := 28) rfl))) (by decide) (t := .int) (t' := .boolean) (by decide) (by decide)))
              have fq85 := Fld.other W81 fq10 (Or.inr (slot_ne (Or.inl (hw _ (List.mem_of_getElem? (i := 24) rfl))) (Or.inl (hw _ (List.mem_of_getElem? (i := 28) rfl))) (by decide) (t := .int) (t' := .boolean) (by decide) (by decide)))
              have fq86 := Fld.other W81 fq11 (Or.inr (slot_ne (Or.inl (hw _ (List.mem_of_getElem? (i := 26) rfl))) (Or.inl (hw _ (List.mem_of_getElem? (i := 28) rfl))) (by decide) (t := .boolean) (t' := .boolean) (by decide) (by decide)))
              have fq87 := Fld.same W81 fq12
              have fq88 := Fld.other W81 fq13 (Or.inr (slot_ne (Or.inl (hw _ (List.mem_of_getElem? (i := 20) rfl))) (Or.inl (hw _ (List.mem_of_getElem? (i := 28) rfl))) (by decide) (t := .boolean) (t' := .boolean) (by decide) (by decide)))
              have Z81 : n0 ≤ h81.size := Nat.le_trans Z6 (Keep.of_wr W81).1
              have K81 := K6.wr W81 (Or.inl (List.mem_of_getElem? (i := 0) rfl))
              refine Run.back (g' := (mkF m 97 #[.val (.ref o0), .val (.ref o1), .val (.int p2), .val (.int p3), .val (.int i), .val (.int (f i)), .val (.int (ll - (1 : Int32)))] [])) st81 ?_
              refine Run.goto (pc' := 112) X81 hx (hb hby own_df_97) (by decide) (by decide) ?_
              refine Run.aloadN (pc' := 113) X81 hx (hb hby own_df_112) rfl rfl ?_
              refine Run.iconst (pc' := 114) (v := (0 : Int32)) X81 hx (hb hby own_df_113) rfl rfl ?_
              obtain ⟨T89, h89, X89, e89, W89, st89⟩ := putF X81 hx hZ hown (host := "") (Or.inl (hw _ (List.mem_of_getElem? (i := 23) rfl))) Via.refl e81 fq85 fq82 (Or.inl (hw _ (List.mem_of_getElem? (i := 24) rfl))) (hw _ (List.mem_of_getElem? (i := 6) rfl)) (ty := .int) (by decide) rfl rfl (g := (mkF m 114 #[.val (.ref o0), .val (.ref o1), .val (.int p2), .val (.int p3), .val (.int i), .val (.int (f i)), .val (.int (ll - (1 : Int32)))] [(.int (0 : Int32)), (.ref o0)])) rfl rfl (hb hby own_df_114)
              have N89 := Fr.snoc X89 N81 g_o
              have fq90 := Exa.wr W89 fq82
              have fq91 := Ints.other W89 fq83 ne_o
              have fq92 := Fld.other W89 fq84 (Or.inr (slot_ne (Or.inl (hw _ (List.mem_of_getElem? (i := 22) rfl))) (Or.inl (hw _ (List.mem_of_getElem? (i := 24) rfl))) (by decide) (t := .int) (t' := .int) (by decide) (by decide)))
              have fq93 := Fld.same W89 fq85
              have fq94 := Fld.other W89 fq86 (Or.inr (slot_ne (Or.inl (hw _ (List.mem_of_getElem? (i := 26) rfl))) (Or.inl (hw _ (List.mem_of_getElem? (i := 24) rfl))) (by decide) (t := .boolean) (t' := .int) (by decide) (by decide)))
              have fq95 := Fld.other W89 fq87 (Or.inr (slot_ne (Or.inl (hw _ (List.mem_of_getElem? (i := 28) rfl))) (Or.inl (hw _ (List.mem_of_getElem? (i := 24) rfl))) (by decide) (t := .boolean) (t' := .int) (by decide) (by decide)))
              have fq96 := Fld.other W89 fq88 (Or.inr (slot_ne (Or.inl (hw _ (List.mem_of_getElem? (i := 20) rfl))) (Or.inl (hw _ (List.mem_of_getElem? (i := 24) rfl))) (by decide) (t := .boolean) (t' := .int) (by decide) (by decide)))
              have Z89 : n0 ≤ h89.size := Nat.le_trans Z81 (Keep.of_wr W89).1
              have K89 := K81.wr W89 (Or.inl (List.mem_of_getElem? (i := 0) rfl))
              refine Run.back (g' := (mkF m 117 #[.val (.ref o0), .val (.ref o1), .val (.int p2), .val (.int p3), .val (.int i), .val (.int (f i)), .val (.int (ll - (1 : Int32)))] [])) st89 ?_
              refine Run.aloadN (pc' := 118) X89 hx (hb hby own_df_117) rfl rfl ?_
              refine Run.iconst (pc' := 119) (v := (0 : Int32)) X89 hx (hb hby own_df_118) rfl rfl ?_
              obtain ⟨T97, h97, X97, e97, W97, st97⟩ := putFN X89 hx hZ hown (hw _ (List.mem_of_getElem? (i := 25) rfl)) Via.refl e89 fq94 fq90 (Or.inl (hw _ (List.mem_of_getElem? (i := 26) rfl))) (hw _ (List.mem_of_getElem? (i := 6) rfl)) (ty := .boolean) (v' := .int (0 : Int32)) (by decide) rfl rfl (g := (mkF m 119 #[.val (.ref o0), .val (.ref o1), .val (.int p2), .val (.int p3), .val (.int i), .val (.int (f i)), .val (.int (ll - (1 : Int32)))] [(.int (0 : Int32)), (.ref o0)])) rfl rfl (hb hby own_df_119)
              have N97 := Fr.snoc X97 N89 g_o
              have fq98 := Exa.wr W97 fq90
              have fq99 := Ints.other W97 fq91 ne_o
              have fq100 := Fld.other W97 fq92 (Or.inr (slot_ne (Or.inl (hw _ (List.mem_of_getElem? (i := 22) rfl))) (Or.inl (hw _ (List.mem_of_getElem? (i := 26) rfl))) (by decide) (t := .int) (t' := .boolean) (by decide) (by decide)))
              have fq101 := Fld.other W97 fq93 (Or.inr (slot_ne (Or.inl (hw _ (List.mem_of_getElem? (i := 24) rfl))) (Or.inl (hw _ (List.mem_of_getElem? (i := 26) rfl))) (by decide) (t := .int) (t' := .boolean) (by decide) (by decide)))
              have fq102 := Fld.same W97 fq94
              have fq103 := Fld.other W97 fq95 (Or.inr (slot_ne (Or.inl (hw _ (List.mem_of_getElem? (i := 28) rfl))) (Or.inl (hw _ (List.mem_of_getElem? (i := 26) rfl))) (by decide) (t := .boolean) (t' := .boolean) (by decide) (by decide)))
              have fq104 := Fld.other W97 fq96 (Or.inr (slot_ne (Or.inl (hw _ (List.mem_of_getElem? (i := 20) rfl))) (Or.inl (hw _ (List.mem_of_getElem? (i := 26) rfl))) (by decide) (t := .boolean) (t' := .boolean) (by decide) (by decide)))
              have Z97 : n0 ≤ h97.size := Nat.le_trans Z89 (Keep.of_wr W97).1
              have K97 := K89.wr W97 (Or.inl (List.mem_of_getElem? (i := 0) rfl))
              refine Run.back (g' := (mkF m 122 #[.val (.ref o0), .val (.ref o1), .val (.int p2), .val (.int p3), .val (.int i), .val (.int (f i)), .val (.int (ll - (1 : Int32)))] [])) st97 ?_
              refine Run.iinc (pc' := 125) (w := (1 : Int32)) (l' := #[.val (.ref o0), .val (.ref o1), .val (.int p2), .val (.int p3), .val (.int (i + (1 : Int32))), .val (.int (f i)), .val (.int (ll - (1 : Int32)))]) X97 hx (hb hby own_df_122) rfl rfl rfl rfl ?_
              refine Run.goto (pc' := 3) X97 hx (hb hby own_df_125) (by decide) (by decide) ?_
              rw [if_pos hc7, own_step, if_pos hc36, if_neg hc76, own_line, if_pos hc89] at hR2
              exact ih _ _ _ _ _ _ _ _ _ _ _ R hR2 (One.val rfl) (One.val rfl) (by rw [hup]; omega) (by rw [hup]; omega) X97 e97 N97 K97 fq98 fq100 fq101 fq102 fq103 fq104 fq99 Z97
            · skip
              refine Run.ifYes (pc' := 100) X15 hx (hb hby own_df_89) ((if0 _ _).trans (flt hc89).2.2.2) (by decide) (by decide) ?_
              refine Run.aloadN (pc' := 101) X15 hx (hb hby own_df_100) rfl rfl ?_
              obtain ⟨T105, X105, e105, st105⟩ := getF X15 hx hZ hown (host := "") (Or.inl (hw _ (List.mem_of_getElem? (i := 27) rfl))) Via.refl e15 fq12 (g := (mkF m 101 #[.val (.ref o0), .val (.ref o1), .val (.int p2), .val (.int p3), .val (.int i), .val (.int (f i)), .val (.int (ll - (1 : Int32)))] [(.ref o0)])) rfl rfl (hb hby own_df_101)
              refine Run.back (g' := (mkF m 104 #[.val (.ref o0), .val (.ref o1), .val (.int p2), .val (.int p3), .val (.int i), .val (.int (f i)), .val (.int (ll - (1 : Int32)))] [(.int bg)])) st105 ?_
              by_cases hc104 : bg = (0 : Int32)
              · skip
                refine Run.ifYes (pc' := 112) X105 hx (hb hby own_df_104) ((if0 _ _).trans (teq hc104).1) (by decide) (by decide) ?_
                refine Run.aloadN (pc' := 113) X105 hx (hb hby own_df_112) rfl rfl ?_
                refine Run.iconst (pc' := 114) (v := (0 : Int32)) X105 hx (hb hby own_df_113) rfl rfl ?_
                obtain ⟨T106, h106, X106, e106, W106, st106⟩ := putF X105 hx hZ hown (host := "") (Or.inl (hw _ (List.mem_of_getElem? (i := 23) rfl))) Via.refl e105 fq10 fq7 (Or.inl (hw _ (List.mem_of_getElem? (i := 24) rfl))) (hw _ (List.mem_of_getElem? (i := 6) rfl)) (ty := .int) (by decide) rfl rfl (g := (mkF m 114 #[.val (.ref o0), .val (.ref o1), .val (.int p2), .val (.int p3), .val (.int i), .val (.int (f i)), .val (.int (ll - (1 : Int32)))] [(.int (0 : Int32)), (.ref o0)])) rfl rfl (hb hby own_df_114)
                have N106 := Fr.snoc X106 N6 g_o
                have fq107 := Exa.wr W106 fq7
                have fq108 := Ints.other W106 fq8 ne_o
                have fq109 := Fld.other W106 fq9 (Or.inr (slot_ne (Or.inl (hw _ (List.mem_of_getElem? (i := 22) rfl))) (Or.inl (hw _ (List.mem_of_getElem? (i := 24) rfl))) (by decide) (t := .int) (t' := .int) (by decide) (by decide)))
                have fq110 := Fld.same W106 fq10
                have fq111 := Fld.other W106 fq11 (Or.inr (slot_ne (Or.inl (hw _ (List.mem_of_getElem? (i := 26) rfl))) (Or.inl (hw _ (List.mem_of_getElem? (i := 24) rfl))) (by decide) (t := .boolean) (t' := .int) (by decide) (by decide)))
                have fq112 := Fld.other W106 fq12 (Or.inr (slot_ne (Or.inl (hw _ (List.mem_of_getElem? (i := 28) rfl))) (Or.inl (hw _ (List.mem_of_getElem? (i := 24) rfl))) (by decide) (t := .boolean) (t' := .int) (by decide) (by decide)))
                have fq113 := Fld.other W106 fq13 (Or.inr (slot_ne (Or.inl (hw _ (List.mem_of_getElem? (i := 20) rfl))) (Or.inl (hw _ (List.mem_of_getElem? (i := 24) rfl))) (by decide) (t := .boolean) (t' := .int) (by decide) (by decide)))
                have Z106 : n0 ≤ h106.size := Nat.le_trans Z6 (Keep.of_wr W106).1
                have K106 := K6.wr W106 (Or.inl (List.mem_of_getElem? (i := 0) rfl))
                refine Run.back (g' := (mkF m 117 #[.val (.ref o0), .val (.ref o1), .val (.int p2), .val (.int p3), .val (.int i), .val (.int (f i)), .val (.int (ll - (1 : Int32)))] [])) st106 ?_
                refine Run.aloadN (pc' := 118) X106 hx (hb hby own_df_117) rfl rfl ?_
                refine Run.iconst (pc' := 119) (v := (0 : Int32)) X106 hx (hb hby own_df_118) rfl rfl ?_
                obtain ⟨T114, h114, X114, e114, W114, st114⟩ := putFN X106 hx hZ hown (hw _ (List.mem_of_getElem? (i := 25) rfl)) Via.refl e106 fq111 fq107 (Or.inl (hw _ (List.mem_of_getElem? (i := 26) rfl))) (hw _ (List.mem_of_getElem? (i := 6) rfl)) (ty := .boolean) (v' := .int (0 : Int32)) (by decide) rfl rfl (g := (mkF m 119 #[.val (.ref o0), .val (.ref o1), .val (.int p2), .val (.int p3), .val (.int i), .val (.int (f i)), .val (.int (ll - (1 : Int32)))] [(.int (0 : Int32)), (.ref o0)])) rfl rfl (hb hby own_df_119)
                have N114 := Fr.snoc X114 N106 g_o
                have fq115 := Exa.wr W114 fq107
                have fq116 := Ints.other W114 fq108 ne_o
                have fq117 := Fld.other W114 fq109 (Or.inr (slot_ne (Or.inl (hw _ (List.mem_of_getElem? (i := 22) rfl))) (Or.inl (hw _ (List.mem_of_getElem? (i := 26) rfl))) (by decide) (t := .int) (t' := .boolean) (by decide) (by decide)))
                have fq118 := Fld.other W114 fq110 (Or.inr (slot_ne (Or.inl (hw _ (List.mem_of_getElem? (i := 24) rfl))) (Or.inl (hw _ (List.mem_of_getElem? (i := 26) rfl))) (by decide) (t := .int) (t' := .boolean) (by decide) (by decide)))
                have fq119 := Fld.same W114 fq111
                have fq120 := Fld.other W114 fq112 (Or.inr (slot_ne (Or.inl (hw _ (List.mem_of_getElem? (i := 28) rfl))) (Or.inl (hw _ (List.mem_of_getElem? (i := 26) rfl))) (by decide) (t := .boolean) (t' := .boolean) (by decide) (by decide)))
                have fq121 := Fld.other W114 fq113 (Or.inr (slot_ne (Or.inl (hw _ (List.mem_of_getElem? (i := 20) rfl))) (Or.inl (hw _ (List.mem_of_getElem? (i := 26) rfl))) (by decide) (t := .boolean) (t' := .boolean) (by decide) (by decide)))
                have Z114 : n0 ≤ h114.size := Nat.le_trans Z106 (Keep.of_wr W114).1
                have K114 := K106.wr W114 (Or.inl (List.mem_of_getElem? (i := 0) rfl))
                refine Run.back (g' := (mkF m 122 #[.val (.ref o0), .val (.ref o1), .val (.int p2), .val (.int p3), .val (.int i), .val (.int (f i)), .val (.int (ll - (1 : Int32)))] [])) st114 ?_
                refine Run.iinc (pc' := 125) (w := (1 : Int32)) (l' := #[.val (.ref o0), .val (.ref o1), .val (.int p2), .val (.int p3), .val (.int (i + (1 : Int32))), .val (.int (f i)), .val (.int (ll - (1 : Int32)))]) X114 hx (hb hby own_df_122) rfl rfl rfl rfl ?_
                refine Run.goto (pc' := 3) X114 hx (hb hby own_df_125) (by decide) (by decide) ?_
                rw [if_pos hc7, own_step, if_pos hc36, if_neg hc76, own_line, if_neg hc89, if_pos hc104] at hR2
                exact ih _ _ _ _ _ _ _ _ _ _ _ R hR2 (One.val rfl) (One.val rfl) (by rw [hup]; omega) (by rw [hup]; omega) X114 e114 N114 K114 fq115 fq117 fq118 fq119 fq120 fq121 fq116 Z114
              · skip
                refine Run.ifNo (pc' := 107) X105 hx (hb hby own_df_104) ((if0 _ _).trans (feq hc104).1) rfl ?_
                refine Run.aloadN (pc' := 108) X105 hx (hb hby own_df_107) rfl rfl ?_
                refine Run.iconst (pc' := 109) (v := (1 : Int32)) X105 hx (hb hby own_df_108) rfl rfl ?_
                obtain ⟨T122, h122, X122, e122, W122, st122⟩ := putFN X105 hx hZ hown (hw _ (List.mem_of_getElem? (i := 19) rfl)) Via.refl e105 fq13 fq7 (Or.inl (hw _ (List.mem_of_getElem? (i := 20) rfl))) (hw _ (List.mem_of_getElem? (i := 6) rfl)) (ty := .boolean) (v' := .int (1 : Int32)) (by decide) rfl rfl (g := (mkF m 109 #[.val (.ref o0), .val (.ref o1), .val (.int p2), .val (.int p3), .val (.int i), .val (.int (f i)), .val (.int (ll - (1 : Int32)))] [(.int (1 : Int32)), (.ref o0)])) rfl rfl (hb hby own_df_109)
                have N122 := Fr.snoc X122 N6 g_o
                have fq123 := Exa.wr W122 fq7
                have fq124 := Ints.other W122 fq8 ne_o
                have fq125 := Fld.other W122 fq9 (Or.inr (slot_ne (Or.inl (hw _ (List.mem_of_getElem? (i := 22) rfl))) (Or.inl (hw _ (List.mem_of_getElem? (i := 20) rfl))) (by decide) (t := .int) (t' := .boolean) (by decide) (by decide)))
                have fq126 := Fld.other W122 fq10 (Or.inr (slot_ne (Or.inl (hw _ (List.mem_of_getElem? (i := 24) rfl))) (Or.inl (hw _ (List.mem_of_getElem? (i := 20) rfl))) (by decide) (t := .int) (t' := .boolean) (by decide) (by decide)))
                have fq127 := Fld.other W122 fq11 (Or.inr (slot_ne (Or.inl (hw _ (List.mem_of_getElem? (i := 26) rfl))) (Or.inl (hw _ (List.mem_of_getElem? (i := 20) rfl))) (by decide) (t := .boolean) (t' := .boolean) (by decide) (by decide)))
                have fq128 := Fld.other W122 fq12 (Or.inr (slot_ne (Or.inl (hw _ (List.mem_of_getElem? (i := 28) rfl))) (Or.inl (hw _ (List.mem_of_getElem? (i := 20) rfl))) (by decide) (t := .boolean) (t' := .boolean) (by decide) (by decide)))
                have fq129 := Fld.same W122 fq13
                have Z122 : n0 ≤ h122.size := Nat.le_trans Z6 (Keep.of_wr W122).1
                have K122 := K6.wr W122 (Or.inl (List.mem_of_getElem? (i := 0) rfl))
                refine Run.back (g' := (mkF m 112 #[.val (.ref o0), .val (.ref o1), .val (.int p2), .val (.int p3), .val (.int i), .val (.int (f i)), .val (.int (ll - (1 : Int32)))] [])) st122 ?_
                refine Run.aloadN (pc' := 113) X122 hx (hb hby own_df_112) rfl rfl ?_
                refine Run.iconst (pc' := 114) (v := (0 : Int32)) X122 hx (hb hby own_df_113) rfl rfl ?_
                obtain ⟨T130, h130, X130, e130, W130, st130⟩ := putF X122 hx hZ hown (host := "") (Or.inl (hw _ (List.mem_of_getElem? (i := 23) rfl))) Via.refl e122 fq126 fq123 (Or.inl (hw _ (List.mem_of_getElem? (i := 24) rfl))) (hw _ (List.mem_of_getElem? (i := 6) rfl)) (ty := .int) (by decide) rfl rfl (g := (mkF m 114 #[.val (.ref o0), .val (.ref o1), .val (.int p2), .val (.int p3), .val (.int i), .val (.int (f i)), .val (.int (ll - (1 : Int32)))] [(.int (0 : Int32)), (.ref o0)])) rfl rfl (hb hby own_df_114)
                have N130 := Fr.snoc X130 N122 g_o
                have fq131 := Exa.wr W130 fq123
                have fq132 := Ints.other W130 fq124 ne_o
                have fq133 := Fld.other W130 fq125 (Or.inr (slot_ne (Or.inl (hw _ (List.mem_of_getElem? (i := 22) rfl))) (Or.inl (hw _ (List.mem_of_getElem? (i := 24) rfl))) (by decide) (t := .int) (t' := .int) (by decide) (by decide)))
                have fq134 := Fld.same W130 fq126
                have fq135 := Fld.other W130 fq127 (Or.inr (slot_ne (Or.inl (hw _ (List.mem_of_getElem? (i := 26) rfl))) (Or.inl (hw _ (List.mem_of_getElem? (i := 24) rfl))) (by decide) (t := .boolean) (t' := .int) (by decide) (by decide)))
                have fq136 := Fld.other W130 fq128 (Or.inr (slot_ne (Or.inl (hw _ (List.mem_of_getElem? (i := 28) rfl))) (Or.inl (hw _ (List.mem_of_getElem? (i := 24) rfl))) (by decide) (t := .boolean) (t' := .int) (by decide) (by decide)))
                have fq137 := Fld.other W130 fq129 (Or.inr (slot_ne (Or.inl (hw _ (List.mem_of_getElem? (i := 20) rfl))) (Or.inl (hw _ (List.mem_of_getElem? (i := 24) rfl))) (by decide) (t := .boolean) (t' := .int) (by decide) (by decide)))
                have Z130 : n0 ≤ h130.size := Nat.le_trans Z122 (Keep.of_wr W130).1
                have K130 := K122.wr W130 (Or.inl (List.mem_of_getElem? (i := 0) rfl))
                refine Run.back (g' := (mkF m 117 #[.val (.ref o0), .val (.ref o1), .val (.int p2), .val (.int p3), .val (.int i), .val (.int (f i)), .val (.int (ll - (1 : Int32)))] [])) st130 ?_
                refine Run.aloadN (pc' := 118) X130 hx (hb hby own_df_117) rfl rfl ?_
                refine Run.iconst (pc' := 119) (v := (0 : Int32)) X130 hx (hb hby own_df_118) rfl rfl ?_
                obtain ⟨T138, h138, X138, e138, W138, st138⟩ := putFN X130 hx hZ hown (hw _ (List.mem_of_getElem? (i := 25) rfl)) Via.refl e130 fq135 fq131 (Or.inl (hw _ (List.mem_of_getElem? (i := 26) rfl))) (hw _ (List.mem_of_getElem? (i := 6) rfl)) (ty := .boolean) (v' := .int (0 : Int32)) (by decide) rfl rfl (g := (mkF m 119 #[.val (.ref o0), .val (.ref o1), .val (.int p2), .val (.int p3), .val (.int i), .val (.int (f i)), .val (.int (ll - (1 : Int32)))] [(.int (0 : Int32)), (.ref o0)])) rfl rfl (hb hby own_df_119)
                have N138 := Fr.snoc X138 N130 g_o
                have fq139 := Exa.wr W138 fq131
                have fq140 := Ints.other W138 fq132 ne_o
                have fq141 := Fld.other W138 fq133 (Or.inr (slot_ne (Or.inl (hw _ (List.mem_of_getElem? (i := 22) rfl))) (Or.inl (hw _ (List.mem_of_getElem? (i := 26) rfl))) (by decide) (t := .int) (t' := .boolean) (by decide) (by decide)))
                have fq142 := Fld.other W138 fq134 (Or.inr (slot_ne (Or.inl (hw _ (List.mem_of_getElem? (i := 24) rfl))) (Or.inl (hw _ (List.mem_of_getElem? (i := 26) rfl))) (by decide) (t := .int) (t' := .boolean) (by decide) (by decide)))
                have fq143 := Fld.same W138 fq135
                have fq144 := Fld.other W138 fq136 (Or.inr (slot_ne (Or.inl (hw _ (List.mem_of_getElem? (i := 28) rfl))) (Or.inl (hw _ (List.mem_of_getElem? (i := 26) rfl))) (by decide) (t := .boolean) (t' := .boolean) (by decide) (by decide)))
                have fq145 := Fld.other W138 fq137 (Or.inr (slot_ne (Or.inl (hw _ (List.mem_of_getElem? (i := 20) rfl))) (Or.inl (hw _ (List.mem_of_getElem? (i := 26) rfl))) (by decide) (t := .boolean) (t' := .boolean) (by decide) (by decide)))
                have Z138 : n0 ≤ h138.size := Nat.le_trans Z130 (Keep.of_wr W138).1
                have K138 := K130.wr W138 (Or.inl (List.mem_of_getElem? (i := 0) rfl))
                refine Run.back (g' := (mkF m 122 #[.val (.ref o0), .val (.ref o1), .val (.int p2), .val (.int p3), .val (.int i), .val (.int (f i)), .val (.int (ll - (1 : Int32)))] [])) st138 ?_
                refine Run.iinc (pc' := 125) (w := (1 : Int32)) (l' := #[.val (.ref o0), .val (.ref o1), .val (.int p2), .val (.int p3), .val (.int (i + (1 : Int32))), .val (.int (f i)), .val (.int (ll - (1 : Int32)))]) X138 hx (hb hby own_df_122) rfl rfl rfl rfl ?_
                refine Run.goto (pc' := 3) X138 hx (hb hby own_df_125) (by decide) (by decide) ?_
                rw [if_pos hc7, own_step, if_pos hc36, if_neg hc76, own_line, if_neg hc89, if_neg hc104] at hR2
                exact ih _ _ _ _ _ _ _ _ _ _ _ R hR2 (One.val rfl) (One.val rfl) (by rw [hup]; omega) (by rw [hup]; omega) X138 e138 N138 K138 fq139 fq141 fq142 fq143 fq144 fq145 fq140 Z138
        · skip
          refine Run.icmpNo (pc' := 39) X6 hx (hb hby own_df_36) (feq hc36).1 rfl ?_
          refine Run.aloadN (pc' := 40) X6 hx (hb hby own_df_39) rfl rfl ?_
          refine Run.dup (pc' := 41) X6 hx (hb hby own_df_40) rfl rfl ?_
          obtain ⟨T146, X146, e146, st146⟩ := getF X6 hx hZ hown (host := "") (Or.inl (hw _ (List.mem_of_getElem? (i := 23) rfl))) Via.refl e6 fq10 (g := (mkF m 41 #[.val (.ref o0), .val (.ref o1), .val (.int p2), .val (.int p3), .val (.int i), .val (.int (f i)), s6] [(.ref o0), (.ref o0)])) rfl rfl (hb hby own_df_41)
          refine Run.back (g' := (mkF m 44 #[.val (.ref o0), .val (.ref o1), .val (.int p2), .val (.int p3), .val (.int i), .val (.int (f i)), s6] [(.int ll), (.ref o0)])) st146 ?_
          refine Run.iconst (pc' := 45) (v := (1 : Int32)) X146 hx (hb hby own_df_44) rfl rfl ?_
          refine Run.iadd (pc' := 46) X146 hx (hb hby own_df_45) rfl ?_
          obtain ⟨T147, h147, X147, e147, W147, st147⟩ := putF X146 hx hZ hown (host := "") (Or.inl (hw _ (List.mem_of_getElem? (i := 23) rfl))) Via.refl e146 fq10 fq7 (Or.inl (hw _ (List.mem_of_getElem? (i := 24) rfl))) (hw _ (List.mem_of_getElem? (i := 6) rfl)) (ty := .int) (by decide) rfl rfl (g := (mkF m 46 #[.val (.ref o0), .val (.ref o1), .val (.int p2), .val (.int p3), .val (.int i), .val (.int (f i)), s6] [(.int (ll + (1 : Int32))), (.ref o0)])) rfl rfl (hb hby own_df_46)
          have N147 := Fr.snoc X147 N6 g_o
          have fq148 := Exa.wr W147 fq7
          have fq149 := Ints.other W147 fq8 ne_o
          have fq150 := Fld.other W147 fq9 (Or.inr (slot_ne (Or.inl (hw _ (List.mem_of_getElem? (i := 22) rfl))) (Or.inl (hw _ (List.mem_of_getElem? (i := 24) rfl))) (by decide) (t := .int) (t' := .int) (by decide) (by decide)))
          have fq151 := Fld.same W147 fq10
          have fq152 := Fld.other W147 fq11 (Or.inr (slot_ne (Or.inl (hw _ (List.mem_of_getElem? (i := 26) rfl))) (Or.inl (hw _ (List.mem_of_getElem? (i := 24) rfl))) (by decide) (t := .boolean) (t' := .int) (by decide) (by decide)))
          have fq153 := Fld.other W147 fq12 (Or.inr (slot_ne (Or.inl (hw _ (List.mem_of_getElem? (i := 28) rfl))) (Or.inl (hw _ (List.mem_of_getElem? (i := 24) rfl))) (by decide) (t := .boolean) (t' := .int) (by decide) (by decide)))
          have fq154 := Fld.other W147 fq13 (Or.inr (slot_ne (Or.inl (hw _ (List.mem_of_getElem? (i := 20) rfl))) (Or.inl (hw _ (List.mem_of_getElem? (i := 24) rfl))) (by decide) (t := .boolean) (t' := .int) (by decide) (by decide)))
          have Z147 : n0 ≤ h147.size := Nat.le_trans Z6 (Keep.of_wr W147).1
          have K147 := K6.wr W147 (Or.inl (List.mem_of_getElem? (i := 0) rfl))
          refine Run.back (g' := (mkF m 49 #[.val (.ref o0), .val (.ref o1), .val (.int p2), .val (.int p3), .val (.int i), .val (.int (f i)), s6] [])) st147 ?_
          refine Run.aloadN (pc' := 50) X147 hx (hb hby own_df_49) rfl rfl ?_
          refine Run.iload (pc' := 52) X147 hx (hb hby own_df_50) rfl rfl ?_
          refine Run.bipush (pc' := 54) (v := (13 : Int32)) X147 hx (hb hby own_df_52) rfl rfl ?_
          by_cases hc54 : (f i) = (13 : Int32)
          · skip
            refine Run.icmpNo (pc' := 57) X147 hx (hb hby own_df_54) (teq hc54).2 rfl ?_
            refine Run.iconst (pc' := 58) (v := (1 : Int32)) X147 hx (hb hby own_df_57) rfl rfl ?_
            refine Run.goto (pc' := 62) X147 hx (hb hby own_df_58) (by decide) (by decide) ?_
            obtain ⟨T155, h155, X155, e155, W155, st155⟩ := putFN X147 hx hZ hown (hw _ (List.mem_of_getElem? (i := 25) rfl)) Via.refl e147 fq152 fq148 (Or.inl (hw _ (List.mem_of_getElem? (i := 26) rfl))) (hw _ (List.mem_of_getElem? (i := 6) rfl)) (ty := .boolean) (v' := .int (1 : Int32)) (by decide) rfl rfl (g := (mkF m 62 #[.val (.ref o0), .val (.ref o1), .val (.int p2), .val (.int p3), .val (.int i), .val (.int (f i)), s6] [(.int (1 : Int32)), (.ref o0)])) rfl rfl (hb hby own_df_62)
            have N155 := Fr.snoc X155 N147 g_o
            have fq156 := Exa.wr W155 fq148
            have fq157 := Ints.other W155 fq149 ne_o
            have fq158 := Fld.other W155 fq150 (Or.inr (slot_ne (Or.inl (hw _ (List.mem_of_getElem? (i := 22) rfl))) (Or.inl (hw _ (List.mem_of_getElem? (i := 26) rfl))) (by decide) (t := .int) (t' := .boolean) (by decide) (by decide)))
            have fq159 := Fld.other W155 fq151 (Or.inr (slot_ne (Or.inl (hw _ (List.mem_of_getElem? (i := 24) rfl))) (Or.inl (hw _ (List.mem_of_getElem? (i := 26) rfl))) (by decide) (t := .int) (t' := .boolean) (by decide) (by decide)))
            have fq160 := Fld.same W155 fq152
            have fq161 := Fld.other W155 fq153 (Or.inr (slot_ne (Or.inl (hw _ (List.mem_of_getElem? (i := 28) rfl))) (Or.inl (hw _ (List.mem_of_getElem? (i := 26) rfl))) (by decide) (t := .boolean) (t' := .boolean) (by decide) (by decide)))
            have fq162 := Fld.other W155 fq154 (Or.inr (slot_ne (Or.inl (hw _ (List.mem_of_getElem? (i := 20) rfl))) (Or.inl (hw _ (List.mem_of_getElem? (i := 26) rfl))) (by decide) (t := .boolean) (t' := .boolean) (by decide) (by decide)))
            have Z155 : n0 ≤ h155.size := Nat.le_trans Z147 (Keep.of_wr W155).1
            have K155 := K147.wr W155 (Or.inl (List.mem_of_getElem? (i := 0) rfl))
            refine Run.back (g' := (mkF m 65 #[.val (.ref o0), .val (.ref o1), .val (.int p2), .val (.int p3), .val (.int i), .val (.int (f i)), s6] [])) st155 ?_
            refine Run.goto (pc' := 122) X155 hx (hb hby own_df_65) (by decide) (by decide) ?_
            refine Run.iinc (pc' := 125) (w := (1 : Int32)) (l' := #[.val (.ref o0), .val (.ref o1), .val (.int p2), .val (.int p3), .val (.int (i + (1 : Int32))), .val (.int (f i)), s6]) X155 hx (hb hby own_df_122) rfl rfl rfl rfl ?_
            refine Run.goto (pc' := 3) X155 hx (hb hby own_df_125) (by decide) (by decide) ?_
            rw [if_pos hc7, own_step, if_neg hc36, if_pos hc54] at hR2
            exact ih _ _ _ _ _ _ _ _ _ _ _ R hR2 (One.val rfl) hs6 (by rw [hup]; omega) (by rw [hup]; omega) X155 e155 N155 K155 fq156 fq158 fq159 fq160 fq161 fq162 fq157 Z155
          · skip
            refine Run.icmpYes (pc' := 61) X147 hx (hb hby own_df_54) (feq hc54).2 (by decide) (by decide) ?_
            refine Run.iconst (pc' := 62) (v := (0 : Int32)) X147 hx (hb hby own_df_61) rfl rfl ?_
            obtain ⟨T163, h163, X163, e163, W163, st163⟩ := putFN X147 hx hZ hown (hw _ (List.mem_of_getElem? (i := 25) rfl)) Via.refl e147 fq152 fq148 (Or.inl (hw _ (List.mem_of_getElem? (i := 26) rfl))) (hw _ (List.mem_of_getElem? (i := 6) rfl)) (ty := .boolean) (v' := .int (0 : Int32)) (by decide) rfl rfl (g := (mkF m 62 #[.val (.ref o0), .val (.ref o1), .val (.int p2), .val (.int p3), .val (.int i), .val (.int (f i)), s6] [(.int (0 : Int32)), (.ref o0)])) rfl rfl (hb hby own_df_62)
            have N163 := Fr.snoc X163 N147 g_o
            have fq164 := Exa.wr W163 fq148
            have fq165 := Ints.other W163 fq149 ne_o
            have fq166 := Fld.other W163 fq150 (Or.inr (slot_ne (Or.inl (hw _ (List.mem_of_getElem? (i := 22) rfl))) (Or.inl (hw _ (List.mem_of_getElem? (i := 26) rfl))) (by decide) (t := .int) (t' := .boolean) (by decide) (by decide)))
            have fq167 := Fld.other W163 fq151 (Or.inr (slot_ne (Or.inl (hw _ (List.mem_of_getElem? (i := 24) rfl))) (Or.inl (hw _ (List.mem_of_getElem? (i := 26) rfl))) (by decide) (t := .int) (t' := .boolean) (by decide) (by decide)))
            have fq168 := Fld.same W163 fq152
            have fq169 := Fld.other W163 fq153 (Or.inr (slot_ne (Or.inl (hw _ (List.mem_of_getElem? (i := 28) rfl))) (Or.inl (hw _ (List.mem_of_getElem? (i := 26) rfl))) (by decide) (t := .boolean) (t' := .boolean) (by decide) (by decide)))
            have fq170 := Fld.other W163 fq154 (Or.inr (slot_ne (Or.inl (hw _ (List.mem_of_getElem? (i := 20) rfl))) (Or.inl (hw _ (List.mem_of_getElem? (i := 26) rfl))) (by decide) (t := .boolean) (t' := .boolean) (by decide) (by decide)))
            have Z163 : n0 ≤ h163.size := Nat.le_trans Z147 (Keep.of_wr W163).1
            have K163 := K147.wr W163 (Or.inl (List.mem_of_getElem? (i := 0) rfl))
            refine Run.back (g' := (mkF m 65 #[.val (.ref o0), .val (.ref o1), .val (.int p2), .val (.int p3), .val (.int i), .val (.int (f i)), s6] [])) st163 ?_
            refine Run.goto (pc' := 122) X163 hx (hb hby own_df_65) (by decide) (by decide) ?_
            refine Run.iinc (pc' := 125) (w := (1 : Int32)) (l' := #[.val (.ref o0), .val (.ref o1), .val (.int p2), .val (.int p3), .val (.int (i + (1 : Int32))), .val (.int (f i)), s6]) X163 hx (hb hby own_df_122) rfl rfl rfl rfl ?_
            refine Run.goto (pc' := 3) X163 hx (hb hby own_df_125) (by decide) (by decide) ?_
            rw [if_pos hc7, own_step, if_neg hc36, if_neg hc54] at hR2
            exact ih _ _ _ _ _ _ _ _ _ _ _ R hR2 (One.val rfl) hs6 (by rw [hup]; omega) (by rw [hup]; omega) X163 e163 N163 K163 fq164 fq166 fq167 fq168 fq169 fq170 fq165 Z163
      · skip
        refine Run.ifYes (pc' := 128) X4 hx (hb hby own_df_7) ((if0 _ _).trans (feq hc7).2) (by decide) (by decide) ?_
        refine Run.aloadN (pc' := 129) X4 hx (hb hby own_df_128) rfl rfl ?_
        obtain ⟨T171, X171, e171, st171⟩ := getF X4 hx hZ hown (host := "") (Or.inl (hw _ (List.mem_of_getElem? (i := 19) rfl))) Via.refl e4 F_wh (g := (mkF m 129 #[.val (.ref o0), .val (.ref o1), .val (.int p2), .val (.int p3), .val (.int i), s5, s6] [(.ref o0)])) rfl rfl (hb hby own_df_129)
        refine Run.back (g' := (mkF m 132 #[.val (.ref o0), .val (.ref o1), .val (.int p2), .val (.int p3), .val (.int i), s5, s6] [(.int wh)])) st171 ?_
        exact Run.retSmall X171 hx (t := .boolean) (z' := (wh &&& 1)) Bd.notSynchronized Bd.returns (by simp) rfl (hb hby own_df_132) (by rw [if_neg hc7] at hR2; rw [hR2]; exact ⟨rfl, N, by rw [e171]; exact K0, by rw [e171]; exact E1, by rw [e171]; exact F_sc, by rw [e171]; exact F_ll, by rw [e171]; exact F_cr, by rw [e171]; exact F_bg, by rw [e171]; exact F_wh⟩) (by decide) (by decide)
  refine Run.iloadN (pc' := 1) X0 hx (hb hby own_df_0) rfl rfl ?_
  refine Run.istore (pc' := 3) X0 hx (l' := #[.val (.ref o0), .val (.ref o1), .val (.int p2), .val (.int p3), .val (.int p2), .unset, .unset]) (hb hby own_df_1) rfl rfl ?_
  exact LOOP k p2 sc ll cr bg wh _ _ _ _ _ R hR One.u One.u hk hk0 X0 e0 N0 (Keep.refl h0 [o0]) E_o F_scanned F_lineLength F_cr F_begun F_whole A_t Z0
theorem own_dr_0 : decode prog_32_method_2_code 0 = .ok (.aload_n 0, 1) := by decide +kernel
theorem own_dr_1 : decode prog_32_method_2_code 1 = .ok (.iload_n 1, 1) := by decide +kernel
theorem own_dr_2 : decode prog_32_method_2_code 2 = .ok (.putfield 7, 3) := by decide +kernel
theorem own_dr_5 : decode prog_32_method_2_code 5 = .ok (.aload_n 0, 1) := by decide +kernel
theorem own_dr_6 : decode prog_32_method_2_code 6 = .ok (.iconst 0, 1) := by decide +kernel
theorem own_dr_7 : decode prog_32_method_2_code 7 = .ok (.putfield 13, 3) := by decide +kernel
theorem own_dr_10 : decode prog_32_method_2_code 10 = .ok (.aload_n 0, 1) := by decide +kernel
theorem own_dr_11 : decode prog_32_method_2_code 11 = .ok (.iconst 0, 1) := by decide +kernel
theorem own_dr_12 : decode prog_32_method_2_code 12 = .ok (.putfield 16, 3) := by decide +kernel
theorem own_dr_15 : decode prog_32_method_2_code 15 = .ok (.aload_n 0, 1) := by decide +kernel
theorem own_dr_16 : decode prog_32_method_2_code 16 = .ok (.iconst 0, 1) := by decide +kernel
theorem own_dr_17 : decode prog_32_method_2_code 17 = .ok (.putfield 20, 3) := by decide +kernel
theorem own_dr_20 : decode prog_32_method_2_code 20 = .ok (.aload_n 0, 1) := by decide +kernel
theorem own_dr_21 : decode prog_32_method_2_code 21 = .ok (.iconst 0, 1) := by decide +kernel
theorem own_dr_22 : decode prog_32_method_2_code 22 = .ok (.putfield 23, 3) := by decide +kernel
theorem own_dr_25 : decode prog_32_method_2_code 25 = .ok (.return_, 1) := by decide +kernel
theorem own_efr (m : MethodId) (x0 : Addr) (x1 : Int32) : entryFrame m #[(.ref x0), (.int x1)] 2 = mkF m 0 #[.val (.ref x0), .val (.int x1)] [] := by first | (simp [entryFrame, mkF, argsToLocals, Value.category]; done) | rfl
set_option maxRecDepth 65536 in
set_option maxHeartbeats 40000000 in
theorem rm_r (l : Launch) (Z : State) (a0 : Array Value) (hw : ∀ d ∈ tables_1, d.before a0 Z = true) (ws : List Jvm.Cond) (o0 : Addr) (p1 : Int32) (sc : Int32) (ll : Int32) (cr : Int32) (bg : Int32) (wh : Int32) (h0 : Heap) (n0 : Nat) (Z0 : n0 ≤ h0.size) (E_o : Exa Z h0 o0 "com/example/vez/vez/gateway/http/HeadEnd") (F_scanned : Fld Z h0 o0 "com/example/vez/vez/gateway/http/HeadEnd" "scanned" "I" (.int sc)) (F_lineLength : Fld Z h0 o0 "com/example/vez/vez/gateway/http/HeadEnd" "lineLength" "I" (.int ll)) (F_cr : Fld Z h0 o0 "com/example/vez/vez/gateway/http/HeadEnd" "cr" "Z" (.int cr)) (F_begun : Fld Z h0 o0 "com/example/vez/vez/gateway/http/HeadEnd" "begun" "Z" (.int bg)) (F_whole : Fld Z h0 o0 "com/example/vez/vez/gateway/http/HeadEnd" "whole" "Z" (.int wh)) (g_o : n0 ≤ o0) :
    MetFree l (⟨"com/example/vez/vez/gateway/http/HeadEnd", "reset", "(I)V"⟩ : MethodName) (head1 (Jvm.Cond.code (⟨"com/example/vez/vez/gateway/http/HeadEnd", "reset", "(I)V"⟩ : MethodName) prog_32_method_2_code 2 none :: ws) ({ frames := 0, cells := 0, slots := 0, locals := 0 } : Room)) (fun a U => a = #[(.ref o0), (.int p1)] ∧ Z.Warmed39 U.vm ∧ U.heap = h0) (fun _ _ _ _ _ => True) (fun _ U o U' => ∃ v L, o = .returned v ∧ (Say (fun v h L => v = none ∧ Fr n0 L ∧ Keep h0 h [o0] ∧ Exa Z h o0 "com/example/vez/vez/gateway/http/HeadEnd" ∧ Fld Z h o0 "com/example/vez/vez/gateway/http/HeadEnd" "scanned" "I" (.int p1) ∧ Fld Z h o0 "com/example/vez/vez/gateway/http/HeadEnd" "lineLength" "I" (.int (0 : Int32)) ∧ Fld Z h o0 "com/example/vez/vez/gateway/http/HeadEnd" "cr" "Z" (.int (0 : Int32)) ∧ Fld Z h o0 "com/example/vez/vez/gateway/http/HeadEnd" "begun" "Z" (.int (0 : Int32)) ∧ Fld Z h o0 "com/example/vez/vez/gateway/http/HeadEnd" "whole" "Z" (.int (0 : Int32)))) v U'.heap L ∧ FrameEnd U o U' L ({ frames := 0, cells := 0, slots := 0, locals := 0 } : Room).cells ({ frames := 0, cells := 0, slots := 0, locals := 0 } : Room).slots) := by
  refine MetFree.of_bodySF (plainFor_of_name own_pn0) hisR ?_
  intro p e s m args below meth c s₁ Bd hml0 hP hK
  obtain ⟨rfl, hZ, hh⟩ := hP
  have hx := Bd.exec
  have hby := Bd.bytes
  have hml : c.maxLocals = 2 := hml0
  have hown : s.vm.findClass "com/example/vez/vez/gateway/http/HeadEnd" = some m.cls := findClass_of_methodNamed Bd.named
  have hnm := (name_of_methodNamed Bd.named Bd.method).1
  have X0 : Stand p l e ({ frames := 0, cells := 0, slots := 0, locals := 0 } : Room) s m #[(.ref o0), (.int p1)] below meth c s₁ [] 0 0 := Stand.of_body Bd
  have e0 : s₁.heap = h0 := by rw [← hh, Bd.state]; rfl
  have N0 := Fr.nil n0
  suffices H : Run p.tables e below (FinR s ({ frames := 0, cells := 0, slots := 0, locals := 0 } : Room).cells ({ frames := 0, cells := 0, slots := 0, locals := 0 } : Room).slots (Say (fun v h L => v = none ∧ Fr n0 L ∧ Keep h0 h [o0] ∧ Exa Z h o0 "com/example/vez/vez/gateway/http/HeadEnd" ∧ Fld Z h o0 "com/example/vez/vez/gateway/http/HeadEnd" "scanned" "I" (.int p1) ∧ Fld Z h o0 "com/example/vez/vez/gateway/http/HeadEnd" "lineLength" "I" (.int (0 : Int32)) ∧ Fld Z h o0 "com/example/vez/vez/gateway/http/HeadEnd" "cr" "Z" (.int (0 : Int32)) ∧ Fld Z h o0 "com/example/vez/vez/gateway/http/HeadEnd" "begun" "Z" (.int (0 : Int32)) ∧ Fld Z h o0 "com/example/vez/vez/gateway/http/HeadEnd" "whole" "Z" (.int (0 : Int32))))) s₁ (mkF m 0 #[.val (.ref o0), .val (.int p1)] []) by
    obtain ⟨s₂, o, k1, k2, k3, k4⟩ := H
    exact ⟨s₂, o, castTop (own_efr m o0 p1) k1, k2, k3, k4⟩
  refine Run.aloadN (pc' := 1) X0 hx (hb hby own_dr_0) rfl rfl ?_
  refine Run.iloadN (pc' := 2) X0 hx (hb hby own_dr_1) rfl rfl ?_
  obtain ⟨T1, h1, X1, e1, W1, st1⟩ := putF X0 hx hZ hown (host := "") (Or.inl (hw _ (List.mem_of_getElem? (i := 21) rfl))) Via.refl e0 F_scanned E_o (Or.inl (hw _ (List.mem_of_getElem? (i := 22) rfl))) (hw _ (List.mem_of_getElem? (i := 6) rfl)) (ty := .int) (by decide) rfl rfl (g := (mkF m 2 #[.val (.ref o0), .val (.int p1)] [(.int p1), (.ref o0)])) rfl rfl (hb hby own_dr_2)
  have N1 := Fr.snoc X1 N0 g_o
  have fq2 := Exa.wr W1 E_o
  have fq3 := Fld.same W1 F_scanned
  have fq4 := Fld.other W1 F_lineLength (Or.inr (slot_ne (Or.inl (hw _ (List.mem_of_getElem? (i := 24) rfl))) (Or.inl (hw _ (List.mem_of_getElem? (i := 22) rfl))) (by decide) (t := .int) (t' := .int) (by decide) (by decide)))
  have fq5 := Fld.other W1 F_cr (Or.inr (slot_ne (Or.inl (hw _ (List.mem_of_getElem? (i := 26) rfl))) (Or.inl (hw _ (List.mem_of_getElem? (i := 22) rfl))) (by decide) (t := .boolean) (t' := .int) (by decide) (by decide)))
  have fq6 := Fld.other W1 F_begun (Or.inr (slot_ne (Or.inl (hw _ (List.mem_of_getElem? (i := 28) rfl))) (Or.inl (hw _ (List.mem_of_getElem? (i := 22) rfl))) (by decide) (t := .boolean) (t' := .int) (by decide) (by decide)))
  have fq7 := Fld.other W1 F_whole (Or.inr (slot_ne (Or.inl (hw _ (List.mem_of_getElem? (i := 20) rfl))) (Or.inl (hw _ (List.mem_of_getElem? (i := 22) rfl))) (by decide) (t := .boolean) (t' := .int) (by decide) (by decide)))
  have Z1 : n0 ≤ h1.size := Nat.le_trans Z0 (Keep.of_wr W1).1
  have K1 := (Keep.refl h0 [o0]).wr W1 (Or.inl (List.mem_of_getElem? (i := 0) rfl))
  refine Run.back (g' := (mkF m 5 #[.val (.ref o0), .val (.int p1)] [])) st1 ?_
  refine Run.aloadN (pc' := 6) X1 hx (hb hby own_dr_5) rfl rfl ?_
  refine Run.iconst (pc' := 7) (v := (0 : Int32)) X1 hx (hb hby own_dr_6) rfl rfl ?_
  obtain ⟨T8, h8, X8, e8, W8, st8⟩ := putF X1 hx hZ hown (host := "") (Or.inl (hw _ (List.mem_of_getElem? (i := 23) rfl))) Via.refl e1 fq4 fq2 (Or.inl (hw _ (List.mem_of_getElem? (i := 24) rfl))) (hw _ (List.mem_of_getElem? (i := 6) rfl)) (ty := .int) (by decide) rfl rfl (g := (mkF m 7 #[.val (.ref o0), .val (.int p1)] [(.int (0 : Int32)), (.ref o0)])) rfl rfl (hb hby own_dr_7)
  have N8 := Fr.snoc X8 N1 g_o
  have fq9 := Exa.wr W8 fq2
  have fq10 := Fld.other W8 fq3 (Or.inr (slot_ne (Or.inl (hw _ (List.mem_of_getElem? (i := 22) rfl))) (Or.inl (hw _ (List.mem_of_getElem? (i := 24) rfl))) (by decide) (t := .int) (t' := .int) (by decide) (by decide)))
  have fq11 := Fld.same W8 fq4
  have fq12 := Fld.other W8 fq5 (Or.inr (slot_ne (Or.inl (hw _ (List.mem_of_getElem? (i := 26) rfl))) (Or.inl (hw _ (List.mem_of_getElem? (i := 24) rfl))) (by decide) (t := .boolean) (t' := .int) (by decide) (by decide)))
  have fq13 := Fld.other W8 fq6 (Or.inr (slot_ne (Or.inl (hw _ (List.mem_of_getElem? (i := 28) rfl))) (Or.inl (hw _ (List.mem_of_getElem? (i := 24) rfl))) (by decide) (t := .boolean) (t' := .int) (by decide) (by decide)))
  have fq14 := Fld.other W8 fq7 (Or.inr (slot_ne (Or.inl (hw _ (List.mem_of_getElem? (i := 20) rfl))) (Or.inl (hw _ (List.mem_of_getElem? (i := 24) rfl))) (by decide) (t := .boolean) (t' := .int) (by decide) (by decide)))
  have Z8 : n0 ≤ h8.size := Nat.le_trans Z1 (Keep.of_wr W8).1
  have K8 := K1.wr W8 (Or.inl (List.mem_of_getElem? (i := 0) rfl))
  refine Run.back (g' := (mkF m 10 #[.val (.ref o0), .val (.int p1)] [])) st8 ?_
  refine Run.aloadN (pc' := 11) X8 hx (hb hby own_dr_10) rfl rfl ?_
  refine Run.iconst (pc' := 12) (v := (0 : Int32)) X8 hx (hb hby own_dr_11) rfl rfl ?_
  obtain ⟨T15, h15, X15, e15, W15, st15⟩ := putFN X8 hx hZ hown (hw _ (List.mem_of_getElem? (i := 25) rfl)) Via.refl e8 fq12 fq9 (Or.inl (hw _ (List.mem_of_getElem? (i := 26) rfl))) (hw _ (List.mem_of_getElem? (i := 6) rfl)) (ty := .boolean) (v' := .int (0 : Int32)) (by decide) rfl rfl (g := (mkF m 12 #[.val (.ref o0), .val (.int p1)] [(.int (0 : Int32)), (.ref o0)])) rfl rfl (hb hby own_dr_12)
  have N15 := Fr.snoc X15 N8 g_o
  have fq16 := Exa.wr W15 fq9
  have fq17 := Fld.other W15 fq10 (Or.inr (slot_ne (Or.inl (hw _ (List.mem_of_getElem? (i := 22) rfl))) (Or.inl (hw _ (List.mem_of_getElem? (i := 26) rfl))) (by decide) (t := .int) (t' := .boolean) (by decide) (by decide)))
  have fq18 := Fld.other W15 fq11 (Or.inr (slot_ne (Or.inl (hw _ (List.mem_of_getElem? (i := 24) rfl))) (Or.inl (hw _ (List.mem_of_getElem? (i := 26) rfl))) (by decide) (t := .int) (t' := .boolean) (by decide) (by decide)))
  have fq19 := Fld.same W15 fq12
  have fq20 := Fld.other W15 fq13 (Or.inr (slot_ne (Or.inl (hw _ (List.mem_of_getElem? (i := 28) rfl))) (Or.inl (hw _ (List.mem_of_getElem? (i := 26) rfl))) (by decide) (t := .boolean) (t' := .boolean) (by decide) (by decide)))
  have fq21 := Fld.other W15 fq14 (Or.inr (slot_ne (Or.inl (hw _ (List.mem_of_getElem? (i := 20) rfl))) (Or.inl (hw _ (List.mem_of_getElem? (i := 26) rfl))) (by decide) (t := .boolean) (t' := .boolean) (by decide) (by decide)))
  have Z15 : n0 ≤ h15.size := Nat.le_trans Z8 (Keep.of_wr W15).1
  have K15 := K8.wr W15 (Or.inl (List.mem_of_getElem? (i := 0) rfl))
  refine Run.back (g' := (mkF m 15 #[.val (.ref o0), .val (.int p1)] [])) st15 ?_
  refine Run.aloadN (pc' := 16) X15 hx (hb hby own_dr_15) rfl rfl ?_
  refine Run.iconst (pc' := 17) (v := (0 : Int32)) X15 hx (hb hby own_dr_16) rfl rfl ?_
  obtain ⟨T22, h22, X22, e22, W22, st22⟩ := putFN X15 hx hZ hown (hw _ (List.mem_of_getElem? (i := 27) rfl)) Via.refl e15 fq20 fq16 (Or.inl (hw _ (List.mem_of_getElem? (i := 28) rfl))) (hw _ (List.mem_of_getElem? (i := 6) rfl)) (ty := .boolean) (v' := .int (0 : Int32)) (by decide) rfl rfl (g := (mkF m 17 #[.val (.ref o0), .val (.int p1)] [(.int (0 : Int32)), (.ref o0)])) rfl rfl (hb hby own_dr_17)
  have N22 := Fr.snoc X22 N15 g_o
  have fq23 := Exa.wr W22 fq16
  have fq24 := Fld.other W22 fq17 (Or.inr (slot_ne (Or.inl (hw _ (List.mem_of_getElem? (i := 22) rfl))) (Or.inl (hw _ (List.mem_of_getElem? (i := 28) rfl))) (by decide) (t := .int) (t' := .boolean) (by decide) (by decide)))
  have fq25 := Fld.other W22 fq18 (Or.inr (slot_ne (Or.inl (hw _ (List.mem_of_getElem? (i := 24) rfl))) (Or.inl (hw _ (List.mem_of_getElem? (i := 28) rfl))) (by decide) (t := .int) (t' := .boolean) (by decide) (by decide)))
  have fq26 := Fld.other W22 fq19 (Or.inr (slot_ne (Or.inl (hw _ (List.mem_of_getElem? (i := 26) rfl))) (Or.inl (hw _ (List.mem_of_getElem? (i := 28) rfl))) (by decide) (t := .boolean) (t' := .boolean) (by decide) (by decide)))
  have fq27 := Fld.same W22 fq20
  have fq28 := Fld.other W22 fq21 (Or.inr (slot_ne (Or.inl (hw _ (List.mem_of_getElem? (i := 20) rfl))) (Or.inl (hw _ (List.mem_of_getElem? (i := 28) rfl))) (by decide) (t := .boolean) (t' := .boolean) (by decide) (by decide)))
  have Z22 : n0 ≤ h22.size := Nat.le_trans Z15 (Keep.of_wr W22).1
  have K22 := K15.wr W22 (Or.inl (List.mem_of_getElem? (i := 0) rfl))
  refine Run.back (g' := (mkF m 20 #[.val (.ref o0), .val (.int p1)] [])) st22 ?_
  refine Run.aloadN (pc' := 21) X22 hx (hb hby own_dr_20) rfl rfl ?_
  refine Run.iconst (pc' := 22) (v := (0 : Int32)) X22 hx (hb hby own_dr_21) rfl rfl ?_
  obtain ⟨T29, h29, X29, e29, W29, st29⟩ := putFN X22 hx hZ hown (hw _ (List.mem_of_getElem? (i := 19) rfl)) Via.refl e22 fq28 fq23 (Or.inl (hw _ (List.mem_of_getElem? (i := 20) rfl))) (hw _ (List.mem_of_getElem? (i := 6) rfl)) (ty := .boolean) (v' := .int (0 : Int32)) (by decide) rfl rfl (g := (mkF m 22 #[.val (.ref o0), .val (.int p1)] [(.int (0 : Int32)), (.ref o0)])) rfl rfl (hb hby own_dr_22)
  have N29 := Fr.snoc X29 N22 g_o
  have fq30 := Exa.wr W29 fq23
  have fq31 := Fld.other W29 fq24 (Or.inr (slot_ne (Or.inl (hw _ (List.mem_of_getElem? (i := 22) rfl))) (Or.inl (hw _ (List.mem_of_getElem? (i := 20) rfl))) (by decide) (t := .int) (t' := .boolean) (by decide) (by decide)))
  have fq32 := Fld.other W29 fq25 (Or.inr (slot_ne (Or.inl (hw _ (List.mem_of_getElem? (i := 24) rfl))) (Or.inl (hw _ (List.mem_of_getElem? (i := 20) rfl))) (by decide) (t := .int) (t' := .boolean) (by decide) (by decide)))
  have fq33 := Fld.other W29 fq26 (Or.inr (slot_ne (Or.inl (hw _ (List.mem_of_getElem? (i := 26) rfl))) (Or.inl (hw _ (List.mem_of_getElem? (i := 20) rfl))) (by decide) (t := .boolean) (t' := .boolean) (by decide) (by decide)))
  have fq34 := Fld.other W29 fq27 (Or.inr (slot_ne (Or.inl (hw _ (List.mem_of_getElem? (i := 28) rfl))) (Or.inl (hw _ (List.mem_of_getElem? (i := 20) rfl))) (by decide) (t := .boolean) (t' := .boolean) (by decide) (by decide)))
  have fq35 := Fld.same W29 fq28
  have Z29 : n0 ≤ h29.size := Nat.le_trans Z22 (Keep.of_wr W29).1
  have K29 := K22.wr W29 (Or.inl (List.mem_of_getElem? (i := 0) rfl))
  refine Run.back (g' := (mkF m 25 #[.val (.ref o0), .val (.int p1)] [])) st29 ?_
  exact Run.retVoid X29 hx Bd.notSynchronized Bd.returns (hb hby own_dr_25) ⟨rfl, N29, by rw [e29]; exact K29, by rw [e29]; exact fq30, by rw [e29]; exact fq31, by rw [e29]; exact fq32, by rw [e29]; exact fq33, by rw [e29]; exact fq34, by rw [e29]; exact fq35⟩ (by decide) (by decide)
def own_Fs (o0 : Addr) (w : Int32) : Int32 := w
theorem own_ds_0 : decode prog_32_method_4_code 0 = .ok (.aload_n 0, 1) := by decide +kernel
theorem own_ds_1 : decode prog_32_method_4_code 1 = .ok (.getfield 7, 3) := by decide +kernel
theorem own_ds_4 : decode prog_32_method_4_code 4 = .ok (.ireturn, 1) := by decide +kernel
theorem own_efs (m : MethodId) (x0 : Addr) : entryFrame m #[(.ref x0)] 1 = mkF m 0 #[.val (.ref x0)] [] := by first | (simp [entryFrame, mkF, argsToLocals, Value.category]; done) | rfl
set_option maxRecDepth 65536 in
set_option maxHeartbeats 40000000 in
theorem rm_s (l : Launch) (Z : State) (a0 : Array Value) (hw : ∀ d ∈ tables_1, d.before a0 Z = true) (ws : List Jvm.Cond) (o0 : Addr) (w : Int32) (h0 : Heap) (n0 : Nat) (Z0 : n0 ≤ h0.size) (F_f : Fld Z h0 o0 "com/example/vez/vez/gateway/http/HeadEnd" "scanned" "I" (.int w)) :
    MetFree l (⟨"com/example/vez/vez/gateway/http/HeadEnd", "getScanned", "()I"⟩ : MethodName) (head1 (Jvm.Cond.code (⟨"com/example/vez/vez/gateway/http/HeadEnd", "getScanned", "()I"⟩ : MethodName) prog_32_method_4_code 1 (some .int) :: ws) ({ frames := 0, cells := 0, slots := 0, locals := 0 } : Room)) (fun a U => a = #[(.ref o0)] ∧ Z.Warmed39 U.vm ∧ U.heap = h0) (fun _ _ _ _ _ => True) (fun _ U o U' => ∃ v L, o = .returned v ∧ (QPure n0 h0 (.int (own_Fs o0 w))) v U'.heap L ∧ FrameEnd U o U' L ({ frames := 0, cells := 0, slots := 0, locals := 0 } : Room).cells ({ frames := 0, cells := 0, slots := 0, locals := 0 } : Room).slots) := by
  refine MetFree.of_bodySF (plainFor_of_name own_pn0) hisR ?_
  intro p e s m args below meth c s₁ Bd hml0 hP hK
  obtain ⟨rfl, hZ, hh⟩ := hP
  have hx := Bd.exec
  have hby := Bd.bytes
  have hml : c.maxLocals = 1 := hml0
  have hown : s.vm.findClass "com/example/vez/vez/gateway/http/HeadEnd" = some m.cls := findClass_of_methodNamed Bd.named
  have hnm := (name_of_methodNamed Bd.named Bd.method).1
  have X0 : Stand p l e ({ frames := 0, cells := 0, slots := 0, locals := 0 } : Room) s m #[(.ref o0)] below meth c s₁ [] 0 0 := Stand.of_body Bd
  have e0 : s₁.heap = h0 := by rw [← hh, Bd.state]; rfl
  have N0 := Fr.nil n0
  suffices H : Run p.tables e below (FinR s ({ frames := 0, cells := 0, slots := 0, locals := 0 } : Room).cells ({ frames := 0, cells := 0, slots := 0, locals := 0 } : Room).slots (QPure n0 h0 (.int (own_Fs o0 w)))) s₁ (mkF m 0 #[.val (.ref o0)] []) by
    obtain ⟨s₂, o, k1, k2, k3, k4⟩ := H
    exact ⟨s₂, o, castTop (own_efs m o0) k1, k2, k3, k4⟩
  obtain ⟨r, hr⟩ : ∃ r, r = own_Fs o0 w := ⟨_, rfl⟩
  rw [← hr]
  rw [own_Fs] at hr
  refine Run.aloadN (pc' := 1) X0 hx (hb hby own_ds_0) rfl rfl ?_
  obtain ⟨T1, X1, e1, st1⟩ := getF X0 hx hZ hown (host := "") (Or.inl (hw _ (List.mem_of_getElem? (i := 21) rfl))) Via.refl e0 F_f (g := (mkF m 1 #[.val (.ref o0)] [(.ref o0)])) rfl rfl (hb hby own_ds_1)
  refine Run.back (g' := (mkF m 4 #[.val (.ref o0)] [(.int w)])) st1 ?_
  exact Run.retInt X1 hx Bd.notSynchronized Bd.returns (hb hby own_ds_4) ⟨by rw [hr], N0, e1⟩ (by decide) (by decide)
def own_Fw (o0 : Addr) (w : Int32) : Int32 := (w &&& 1)
theorem own_dw_0 : decode prog_32_method_5_code 0 = .ok (.aload_n 0, 1) := by decide +kernel
theorem own_dw_1 : decode prog_32_method_5_code 1 = .ok (.getfield 23, 3) := by decide +kernel
theorem own_dw_4 : decode prog_32_method_5_code 4 = .ok (.ireturn, 1) := by decide +kernel
theorem own_efw (m : MethodId) (x0 : Addr) : entryFrame m #[(.ref x0)] 1 = mkF m 0 #[.val (.ref x0)] [] := by first | (simp [entryFrame, mkF, argsToLocals, Value.category]; done) | rfl
set_option maxRecDepth 65536 in
set_option maxHeartbeats 40000000 in
theorem rm_w (l : Launch) (Z : State) (a0 : Array Value) (hw : ∀ d ∈ tables_1, d.before a0 Z = true) (ws : List Jvm.Cond) (o0 : Addr) (w : Int32) (h0 : Heap) (n0 : Nat) (Z0 : n0 ≤ h0.size) (F_f : Fld Z h0 o0 "com/example/vez/vez/gateway/http/HeadEnd" "whole" "Z" (.int w)) :
    MetFree l (⟨"com/example/vez/vez/gateway/http/HeadEnd", "isWhole", "()Z"⟩ : MethodName) (head1 (Jvm.Cond.code (⟨"com/example/vez/vez/gateway/http/HeadEnd", "isWhole", "()Z"⟩ : MethodName) prog_32_method_5_code 1 (some .boolean) :: ws) ({ frames := 0, cells := 0, slots := 0, locals := 0 } : Room)) (fun a U => a = #[(.ref o0)] ∧ Z.Warmed39 U.vm ∧ U.heap = h0) (fun _ _ _ _ _ => True) (fun _ U o U' => ∃ v L, o = .returned v ∧ (QPure n0 h0 (.int (own_Fw o0 w))) v U'.heap L ∧ FrameEnd U o U' L ({ frames := 0, cells := 0, slots := 0, locals := 0 } : Room).cells ({ frames := 0, cells := 0, slots := 0, locals := 0 } : Room).slots) := by
  refine MetFree.of_bodySF (plainFor_of_name own_pn0) hisR ?_
  intro p e s m args below meth c s₁ Bd hml0 hP hK
  obtain ⟨rfl, hZ, hh⟩ := hP
  have hx := Bd.exec
  have hby := Bd.bytes
  have hml : c.maxLocals = 1 := hml0
  have hown : s.vm.findClass "com/example/vez/vez/gateway/http/HeadEnd" = some m.cls := findClass_of_methodNamed Bd.named
  have hnm := (name_of_methodNamed Bd.named Bd.method).1
  have X0 : Stand p l e ({ frames := 0, cells := 0, slots := 0, locals := 0 } : Room) s m #[(.ref o0)] below meth c s₁ [] 0 0 := Stand.of_body Bd
  have e0 : s₁.heap = h0 := by rw [← hh, Bd.state]; rfl
  have N0 := Fr.nil n0
  suffices H : Run p.tables e below (FinR s ({ frames := 0, cells := 0, slots := 0, locals := 0 } : Room).cells ({ frames := 0, cells := 0, slots := 0, locals := 0 } : Room).slots (QPure n0 h0 (.int (own_Fw o0 w)))) s₁ (mkF m 0 #[.val (.ref o0)] []) by
    obtain ⟨s₂, o, k1, k2, k3, k4⟩ := H
    exact ⟨s₂, o, castTop (own_efw m o0) k1, k2, k3, k4⟩
  obtain ⟨r, hr⟩ : ∃ r, r = own_Fw o0 w := ⟨_, rfl⟩
  rw [← hr]
  rw [own_Fw] at hr
  refine Run.aloadN (pc' := 1) X0 hx (hb hby own_dw_0) rfl rfl ?_
  obtain ⟨T1, X1, e1, st1⟩ := getF X0 hx hZ hown (host := "") (Or.inl (hw _ (List.mem_of_getElem? (i := 19) rfl))) Via.refl e0 F_f (g := (mkF m 1 #[.val (.ref o0)] [(.ref o0)])) rfl rfl (hb hby own_dw_1)
  refine Run.back (g' := (mkF m 4 #[.val (.ref o0)] [(.int w)])) st1 ?_
  exact Run.retSmall X1 hx (t := .boolean) (z' := (w &&& 1)) Bd.notSynchronized Bd.returns (by simp) rfl (hb hby own_dw_4) ⟨by rw [hr], N0, e1⟩ (by decide) (by decide)
def own_Fe (o0 : Addr) (w : Int32) : Int32 := w
theorem own_de_0 : decode prog_32_method_6_code 0 = .ok (.aload_n 0, 1) := by decide +kernel
theorem own_de_1 : decode prog_32_method_6_code 1 = .ok (.getfield 7, 3) := by decide +kernel
theorem own_de_4 : decode prog_32_method_6_code 4 = .ok (.ireturn, 1) := by decide +kernel
theorem own_efe (m : MethodId) (x0 : Addr) : entryFrame m #[(.ref x0)] 1 = mkF m 0 #[.val (.ref x0)] [] := by first | (simp [entryFrame, mkF, argsToLocals, Value.category]; done) | rfl
set_option maxRecDepth 65536 in
set_option maxHeartbeats 40000000 in
theorem rm_e (l : Launch) (Z : State) (a0 : Array Value) (hw : ∀ d ∈ tables_1, d.before a0 Z = true) (ws : List Jvm.Cond) (o0 : Addr) (w : Int32) (h0 : Heap) (n0 : Nat) (Z0 : n0 ≤ h0.size) (F_f : Fld Z h0 o0 "com/example/vez/vez/gateway/http/HeadEnd" "scanned" "I" (.int w)) :
    MetFree l (⟨"com/example/vez/vez/gateway/http/HeadEnd", "getEnd", "()I"⟩ : MethodName) (head1 (Jvm.Cond.code (⟨"com/example/vez/vez/gateway/http/HeadEnd", "getEnd", "()I"⟩ : MethodName) prog_32_method_6_code 1 (some .int) :: ws) ({ frames := 0, cells := 0, slots := 0, locals := 0 } : Room)) (fun a U => a = #[(.ref o0)] ∧ Z.Warmed39 U.vm ∧ U.heap = h0) (fun _ _ _ _ _ => True) (fun _ U o U' => ∃ v L, o = .returned v ∧ (QPure n0 h0 (.int (own_Fe o0 w))) v U'.heap L ∧ FrameEnd U o U' L ({ frames := 0, cells := 0, slots := 0, locals := 0 } : Room).cells ({ frames := 0, cells := 0, slots := 0, locals := 0 } : Room).slots) := by
  refine MetFree.of_bodySF (plainFor_of_name own_pn0) hisR ?_
  intro p e s m args below meth c s₁ Bd hml0 hP hK
  obtain ⟨rfl, hZ, hh⟩ := hP
  have hx := Bd.exec
  have hby := Bd.bytes
  have hml : c.maxLocals = 1 := hml0
  have hown : s.vm.findClass "com/example/vez/vez/gateway/http/HeadEnd" = some m.cls := findClass_of_methodNamed Bd.named
  have hnm := (name_of_methodNamed Bd.named Bd.method).1
  have X0 : Stand p l e ({ frames := 0, cells := 0, slots := 0, locals := 0 } : Room) s m #[(.ref o0)] below meth c s₁ [] 0 0 := Stand.of_body Bd
  have e0 : s₁.heap = h0 := by rw [← hh, Bd.state]; rfl
  have N0 := Fr.nil n0
  suffices H : Run p.tables e below (FinR s ({ frames := 0, cells := 0, slots := 0, locals := 0 } : Room).cells ({ frames := 0, cells := 0, slots := 0, locals := 0 } : Room).slots (QPure n0 h0 (.int (own_Fe o0 w)))) s₁ (mkF m 0 #[.val (.ref o0)] []) by
    obtain ⟨s₂, o, k1, k2, k3, k4⟩ := H
    exact ⟨s₂, o, castTop (own_efe m o0) k1, k2, k3, k4⟩
  obtain ⟨r, hr⟩ : ∃ r, r = own_Fe o0 w := ⟨_, rfl⟩
  rw [← hr]
  rw [own_Fe] at hr
  refine Run.aloadN (pc' := 1) X0 hx (hb hby own_de_0) rfl rfl ?_
  obtain ⟨T1, X1, e1, st1⟩ := getF X0 hx hZ hown (host := "") (Or.inl (hw _ (List.mem_of_getElem? (i := 21) rfl))) Via.refl e0 F_f (g := (mkF m 1 #[.val (.ref o0)] [(.ref o0)])) rfl rfl (hb hby own_de_1)
  refine Run.back (g' := (mkF m 4 #[.val (.ref o0)] [(.int w)])) st1 ?_
  exact Run.retInt X1 hx Bd.notSynchronized Bd.returns (hb hby own_de_4) ⟨by rw [hr], N0, e1⟩ (by decide) (by decide)
def own_Fp (p0 : Int32) : Int32 := (if (p0 &&& (3 : Int32)) = (0 : Int32) then (10 : Int32) else (if (p0 &&& (3 : Int32)) = (1 : Int32) then (13 : Int32) else (if (p0 &&& (3 : Int32)) = (2 : Int32) then (97 : Int32) else (-128 : Int32))))
theorem own_dp_0 : decode method_2_code 0 = .ok (.iload_n 0, 1) := by decide +kernel
theorem own_dp_1 : decode method_2_code 1 = .ok (.iconst 3, 1) := by decide +kernel
theorem own_dp_2 : decode method_2_code 2 = .ok (.iand, 1) := by decide +kernel
theorem own_dp_3 : decode method_2_code 3 = .ok (.istore_n 1, 1) := by decide +kernel
theorem own_dp_4 : decode method_2_code 4 = .ok (.iload_n 1, 1) := by decide +kernel
theorem own_dp_5 : decode method_2_code 5 = .ok (.ifCond .ne 6, 3) := by decide +kernel
theorem own_dp_8 : decode method_2_code 8 = .ok (.bipush 10, 2) := by decide +kernel
theorem own_dp_10 : decode method_2_code 10 = .ok (.ireturn, 1) := by decide +kernel
theorem own_dp_11 : decode method_2_code 11 = .ok (.iload_n 1, 1) := by decide +kernel
theorem own_dp_12 : decode method_2_code 12 = .ok (.iconst 1, 1) := by decide +kernel
theorem own_dp_13 : decode method_2_code 13 = .ok (.if_icmp .ne 6, 3) := by decide +kernel
theorem own_dp_16 : decode method_2_code 16 = .ok (.bipush 13, 2) := by decide +kernel
theorem own_dp_18 : decode method_2_code 18 = .ok (.ireturn, 1) := by decide +kernel
theorem own_dp_19 : decode method_2_code 19 = .ok (.iload_n 1, 1) := by decide +kernel
theorem own_dp_20 : decode method_2_code 20 = .ok (.iconst 2, 1) := by decide +kernel
theorem own_dp_21 : decode method_2_code 21 = .ok (.if_icmp .ne 6, 3) := by decide +kernel
theorem own_dp_24 : decode method_2_code 24 = .ok (.bipush 97, 2) := by decide +kernel
theorem own_dp_26 : decode method_2_code 26 = .ok (.ireturn, 1) := by decide +kernel
theorem own_dp_27 : decode method_2_code 27 = .ok (.bipush (-128), 2) := by decide +kernel
theorem own_dp_29 : decode method_2_code 29 = .ok (.ireturn, 1) := by decide +kernel
theorem own_efp (m : MethodId) (x0 : Int32) : entryFrame m #[(.int x0)] 2 = mkF m 0 #[.val (.int x0), .unset] [] := by first | (simp [entryFrame, mkF, argsToLocals, Value.category]; done) | rfl
set_option maxRecDepth 65536 in
set_option maxHeartbeats 40000000 in
theorem rm_p (l : Launch) (Z : State) (a0 : Array Value) (hw : ∀ d ∈ tables_1, d.before a0 Z = true) (ws : List Jvm.Cond) (p0 : Int32) (h0 : Heap) (n0 : Nat) (Z0 : n0 ≤ h0.size) :
    MetFree l (⟨"com/example/vez/vez/gateway/http/HeadEndResetPinLaw", "pick", "(I)B"⟩ : MethodName) (head1 (Jvm.Cond.code (⟨"com/example/vez/vez/gateway/http/HeadEndResetPinLaw", "pick", "(I)B"⟩ : MethodName) method_2_code 2 (some .byte) :: ws) ({ frames := 0, cells := 0, slots := 0, locals := 0 } : Room)) (fun a U => a = #[(.int p0)] ∧ Z.Warmed39 U.vm ∧ U.heap = h0) (fun _ _ _ _ _ => True) (fun _ U o U' => ∃ v L, o = .returned v ∧ (QPure n0 h0 (.int (own_Fp p0))) v U'.heap L ∧ FrameEnd U o U' L ({ frames := 0, cells := 0, slots := 0, locals := 0 } : Room).cells ({ frames := 0, cells := 0, slots := 0, locals := 0 } : Room).slots) := by
  refine MetFree.of_bodySF (plainFor_of_name own_pn1) hisR ?_
  intro p e s m args below meth c s₁ Bd hml0 hP hK
  obtain ⟨rfl, hZ, hh⟩ := hP
  have hx := Bd.exec
  have hby := Bd.bytes
  have hml : c.maxLocals = 2 := hml0
  have hown : s.vm.findClass "com/example/vez/vez/gateway/http/HeadEndResetPinLaw" = some m.cls := findClass_of_methodNamed Bd.named
  have hnm := (name_of_methodNamed Bd.named Bd.method).1
  have X0 : Stand p l e ({ frames := 0, cells := 0, slots := 0, locals := 0 } : Room) s m #[(.int p0)] below meth c s₁ [] 0 0 := Stand.of_body Bd
  have e0 : s₁.heap = h0 := by rw [← hh, Bd.state]; rfl
  have N0 := Fr.nil n0
  suffices H : Run p.tables e below (FinR s ({ frames := 0, cells := 0, slots := 0, locals := 0 } : Room).cells ({ frames := 0, cells := 0, slots := 0, locals := 0 } : Room).slots (QPure n0 h0 (.int (own_Fp p0)))) s₁ (mkF m 0 #[.val (.int p0), .unset] []) by
    obtain ⟨s₂, o, k1, k2, k3, k4⟩ := H
    exact ⟨s₂, o, castTop (own_efp m p0) k1, k2, k3, k4⟩
  obtain ⟨r, hr⟩ : ∃ r, r = own_Fp p0 := ⟨_, rfl⟩
  rw [← hr]
  rw [own_Fp] at hr
  refine Run.iloadN (pc' := 1) X0 hx (hb hby own_dp_0) rfl rfl ?_
  refine Run.iconst (pc' := 2) (v := (3 : Int32)) X0 hx (hb hby own_dp_1) rfl rfl ?_
  refine Run.iand (pc' := 3) X0 hx (hb hby own_dp_2) rfl ?_
  refine Run.istoreN (pc' := 4) X0 hx (l' := #[.val (.int p0), .val (.int (p0 &&& (3 : Int32)))]) (hb hby own_dp_3) rfl rfl ?_
  refine Run.iloadN (pc' := 5) X0 hx (hb hby own_dp_4) rfl rfl ?_
  by_cases hc5 : (p0 &&& (3 : Int32)) = (0 : Int32)
  · rw [if_pos hc5] at hr
    refine Run.ifNo (pc' := 8) X0 hx (hb hby own_dp_5) ((if0 _ _).trans (teq hc5).2) rfl ?_
    refine Run.bipush (pc' := 10) (v := (10 : Int32)) X0 hx (hb hby own_dp_8) rfl rfl ?_
    exact Run.retSmall X0 hx (t := .byte) (z' := (10 : Int32)) Bd.notSynchronized Bd.returns (by simp) rfl (hb hby own_dp_10) ⟨by rw [hr], N0, e0⟩ (by decide) (by decide)
  · rw [if_neg hc5] at hr
    refine Run.ifYes (pc' := 11) X0 hx (hb hby own_dp_5) ((if0 _ _).trans (feq hc5).2) (by decide) (by decide) ?_
    refine Run.iloadN (pc' := 12) X0 hx (hb hby own_dp_11) rfl rfl ?_
    refine Run.iconst (pc' := 13) (v := (1 : Int32)) X0 hx (hb hby own_dp_12) rfl rfl ?_
    by_cases hc13 : (p0 &&& (3 : Int32)) = (1 : Int32)
    · rw [if_pos hc13] at hr
      refine Run.icmpNo (pc' := 16) X0 hx (hb hby own_dp_13) (teq hc13).2 rfl ?_
      refine Run.bipush (pc' := 18) (v := (13 : Int32)) X0 hx (hb hby own_dp_16) rfl rfl ?_
      exact Run.retSmall X0 hx (t := .byte) (z' := (13 : Int32)) Bd.notSynchronized Bd.returns (by simp) rfl (hb hby own_dp_18) ⟨by rw [hr], N0, e0⟩ (by decide) (by decide)
    · rw [if_neg hc13] at hr
      refine Run.icmpYes (pc' := 19) X0 hx (hb hby own_dp_13) (feq hc13).2 (by decide) (by decide) ?_
      refine Run.iloadN (pc' := 20) X0 hx (hb hby own_dp_19) rfl rfl ?_
      refine Run.iconst (pc' := 21) (v := (2 : Int32)) X0 hx (hb hby own_dp_20) rfl rfl ?_
      by_cases hc21 : (p0 &&& (3 : Int32)) = (2 : Int32)
      · rw [if_pos hc21] at hr
        refine Run.icmpNo (pc' := 24) X0 hx (hb hby own_dp_21) (teq hc21).2 rfl ?_
        refine Run.bipush (pc' := 26) (v := (97 : Int32)) X0 hx (hb hby own_dp_24) rfl rfl ?_
        exact Run.retSmall X0 hx (t := .byte) (z' := (97 : Int32)) Bd.notSynchronized Bd.returns (by simp) rfl (hb hby own_dp_26) ⟨by rw [hr], N0, e0⟩ (by decide) (by decide)
      · rw [if_neg hc21] at hr
        refine Run.icmpYes (pc' := 27) X0 hx (hb hby own_dp_21) (feq hc21).2 (by decide) (by decide) ?_
        refine Run.bipush (pc' := 29) (v := (-128 : Int32)) X0 hx (hb hby own_dp_27) rfl rfl ?_
        exact Run.retSmall X0 hx (t := .byte) (z' := (-128 : Int32)) Bd.notSynchronized Bd.returns (by simp) rfl (hb hby own_dp_29) ⟨by rw [hr], N0, e0⟩ (by decide) (by decide)
theorem own_shift (f : Int32 → Int32) (d : Int32) : ∀ (k : Nat) (i sc ll cr bg wh : Int32), own_go k f i (sc + d, ll, cr, bg, wh) = ((own_go k f i (sc, ll, cr, bg, wh)).1 + d, (own_go k f i (sc, ll, cr, bg, wh)).2) := by
  intro k
  induction k with
  | zero => intro i sc ll cr bg wh; rfl
  | succ k ih =>
    intro i sc ll cr bg wh
    have hs : own_step (sc + d) ll cr bg wh (f i) = ((own_step sc ll cr bg wh (f i)).1 + d, (own_step sc ll cr bg wh (f i)).2) := by
      have e : sc + d + 1 = sc + 1 + d := by rw [Int32.add_assoc, Int32.add_comm d 1, ← Int32.add_assoc]
      unfold own_step own_line
      rw [e]
      repeat' split
      all_goals rfl
    show (if wh = (0 : Int32) then own_go k f (i + 1) (own_step (sc + d) ll cr bg wh (f i)) else (sc + d, ll, cr, bg, wh)) = _
    by_cases h : wh = (0 : Int32)
    · rw [if_pos h, hs, ih]
      have e2 : own_go (k + 1) f i (sc, ll, cr, bg, wh) = own_go k f (i + 1) (own_step sc ll cr bg wh (f i)) := by
        show (if wh = (0 : Int32) then own_go k f (i + 1) (own_step sc ll cr bg wh (f i)) else (sc, ll, cr, bg, wh)) = _
        rw [if_pos h]
      rw [e2]
    · rw [if_neg h]
      have e2 : own_go (k + 1) f i (sc, ll, cr, bg, wh) = (sc, ll, cr, bg, wh) := by
        show (if wh = (0 : Int32) then own_go k f (i + 1) (own_step sc ll cr bg wh (f i)) else (sc, ll, cr, bg, wh)) = _
        rw [if_neg h]
      rw [e2]
theorem own_from (f : Int32 → Int32) (k : Nat) (d : Int32) : own_go k f (0 : Int32) (d, (0 : Int32), (0 : Int32), (0 : Int32), (0 : Int32)) = ((own_go k f (0 : Int32) ((0 : Int32), (0 : Int32), (0 : Int32), (0 : Int32), (0 : Int32))).1 + d, (own_go k f (0 : Int32) ((0 : Int32), (0 : Int32), (0 : Int32), (0 : Int32), (0 : Int32))).2) := by
  have h := own_shift f d k 0 0 0 0 0 0
  rw [Int32.zero_add] at h
  exact h
theorem own_eqw (f : Int32 → Int32) (k : Nat) (d : Int32) : ((own_go k f (0 : Int32) (d, (0 : Int32), (0 : Int32), (0 : Int32), (0 : Int32))).2.2.2.2 &&& 1) = ((own_go k f (0 : Int32) ((0 : Int32), (0 : Int32), (0 : Int32), (0 : Int32), (0 : Int32))).2.2.2.2 &&& 1) := by
  rw [own_from]
theorem own_eqs (f : Int32 → Int32) (k : Nat) (d : Int32) : ((own_go k f (0 : Int32) (d, (0 : Int32), (0 : Int32), (0 : Int32), (0 : Int32))).1 - d) = (own_go k f (0 : Int32) ((0 : Int32), (0 : Int32), (0 : Int32), (0 : Int32), (0 : Int32))).1 := by
  rw [own_from]
  exact Int32.add_sub_cancel _ _

theorem own_ef0 (m : MethodId) (x0 : Int32) (x1 : Int32) (x2 : Int32) : entryFrame m #[(.int x0), (.int x1), (.int x2)] maxLocals = mkF m 0 #[.val (.int x0), .val (.int x1), .val (.int x2), .unset, .unset, .unset, .unset, .unset, .unset, .unset] [] := by first | (simp [entryFrame, mkF, argsToLocals, Value.category, maxLocals]; done) | rfl
set_option maxRecDepth 65536 in
set_option maxHeartbeats 40000000 in
theorem rm0 (l : Launch) (Z : State) (a0 : Array Value) (hw : ∀ d ∈ tables_1, d.before a0 Z = true) (ws : List Jvm.Cond) (p0 : Int32) (p1 : Int32) (p2 : Int32) (h0 : Heap) (n0 : Nat) (Z0 : n0 ≤ h0.size) :
    MetFree l x (head1 (Jvm.Cond.code x code maxLocals ret :: ws) room_1) (fun a U => a = #[(.int p0), (.int p1), (.int p2)] ∧ Z.Warmed39 U.vm ∧ U.heap = h0) (fun _ _ _ _ _ => True) (fun _ U o U' => ∃ v L, o = .returned v ∧ (Say (fun v h L => v = some (.int 1) ∧ Fr n0 L)) v U'.heap L ∧ FrameEnd U o U' L room_1.cells room_1.slots) := by
  refine MetFree.of_bodySF (plainFor_of_name own_pn1) hisR ?_
  intro p e s m args below meth c s₁ Bd hml0 hP hK
  obtain ⟨rfl, hZ, hh⟩ := hP
  have hx := Bd.exec
  have hby := Bd.bytes
  have hml : c.maxLocals = 10 := hml0
  have hown : s.vm.findClass "com/example/vez/vez/gateway/http/HeadEndResetPinLaw" = some m.cls := findClass_of_methodNamed Bd.named
  have hnm := (name_of_methodNamed Bd.named Bd.method).1
  have X0 : Stand p l e room_1 s m #[(.int p0), (.int p1), (.int p2)] below meth c s₁ [] 0 0 := Stand.of_body Bd
  have e0 : s₁.heap = h0 := by rw [← hh, Bd.state]; rfl
  have N0 := Fr.nil n0
  suffices H : Run p.tables e below (FinR s room_1.cells room_1.slots (Say (fun v h L => v = some (.int 1) ∧ Fr n0 L))) s₁ (mkF m 0 #[.val (.int p0), .val (.int p1), .val (.int p2), .unset, .unset, .unset, .unset, .unset, .unset, .unset] []) by
    obtain ⟨s₂, o, k1, k2, k3, k4⟩ := H
    exact ⟨s₂, o, castTop (own_ef0 m p0 p1 p2) k1, k2, k3, k4⟩
  refine Run.iconst (pc' := 1) (v := (4 : Int32)) X0 hx (hb hby at_0) rfl rfl ?_
  obtain ⟨T1, h1, b1, X1, e1, E1, g1, A1, st1⟩ := st_newarray X0 hx hZ (hw _ (List.mem_of_getElem? (i := 0) rfl)) e0 (hb hby at_1) (Ls := #[.val (.int p0), .val (.int p1), .val (.int p2), .unset, .unset, .unset, .unset, .unset, .unset, .unset]) (rest := []) (n := (4 : Int32)) (by decide) (cap := 4) (by decide) (by decide) (by decide) (by decide) rfl
  replace A1 : Ints Z h1 b1 .byte (4 : Int32) (fun _ => 0) := A1
  have G1 : n0 ≤ b1 := Nat.le_trans Z0 (Nat.le_of_eq g1.symm)
  have Z1 : n0 ≤ h1.size := Nat.le_trans Z0 E1.1
  refine Run.back (g' := (mkF m 3 #[.val (.int p0), .val (.int p1), .val (.int p2), .unset, .unset, .unset, .unset, .unset, .unset, .unset] [(.ref b1)])) st1 ?_
  refine Run.dup (pc' := 4) X1 hx (hb hby at_3) rfl rfl ?_
  refine Run.iconst (pc' := 5) (v := (0 : Int32)) X1 hx (hb hby at_4) rfl rfl ?_
  refine Run.iloadN (pc' := 6) X1 hx (hb hby at_5) rfl rfl ?_
  obtain ⟨T2, L2, v2, X2, Q2, st2⟩ := callStatic X1 hx (y := (⟨"com/example/vez/vez/gateway/http/HeadEndResetPinLaw", "pick", "(I)B"⟩ : MethodName)) (Ls := #[.val (.int p0), .val (.int p1), .val (.int p2), .unset, .unset, .unset, .unset, .unset, .unset, .unset]) (rest := [(.int (0 : Int32)), (.ref b1), (.ref b1)]) (W := 3) (argsL := [(.int p1)]) hZ hown (hw _ (List.mem_of_getElem? (i := 1) rfl)) (hw _ (List.mem_of_getElem? (i := 2) rfl)) (hw _ (List.mem_of_getElem? (i := 3) rfl)) (hw _ (List.mem_of_getElem? (i := 4) rfl)) (by decide) e1 (rm_p l Z a0 hw [] p1  h1 n0 Z1 ) (hb hby at_6) (lenOf own_pd0 rfl) (by decide) (by decide) (by rw [hml]; rfl) (Nat.le_of_eq rfl) (by decide) (by decide)
  obtain ⟨rfl, M2, e2⟩ := Q2
  have N2 := Fr.app N0 M2
  refine Run.back (g' := (mkF m 9 #[.val (.int p0), .val (.int p1), .val (.int p2), .unset, .unset, .unset, .unset, .unset, .unset, .unset] [(.int (own_Fp p1)), (.int (0 : Int32)), (.ref b1), (.ref b1)])) st2 ?_
  obtain ⟨T3, h3, sl3, u3, X3, e3, W3, A3, st3⟩ := st_bastore X2 hx hZ e2 A1 (Ls := #[.val (.int p0), .val (.int p1), .val (.int p2), .unset, .unset, .unset, .unset, .unset, .unset, .unset]) (rest := [(.ref b1)]) (j := (0 : Int32)) (x := (own_Fp p1)) (by decide) (by decide) (hb hby at_9)
  have N3 := Fr.snoc X3 N2 G1
  obtain ⟨f4, qf4⟩ : ∃ g : Int32 → Int32, g = fun i => if i = (0 : Int32) then (own_Fp p1).toInt8.toInt32 else (fun _ => (0 : Int32)) i := ⟨_, rfl⟩
  replace A3 : Ints Z h3 b1 .byte (4 : Int32) f4 := by rw [qf4]; exact A3
  have Z3 : n0 ≤ h3.size := Nat.le_trans Z1 (Keep.of_wr W3).1
  refine Run.back (g' := (mkF m 10 #[.val (.int p0), .val (.int p1), .val (.int p2), .unset, .unset, .unset, .unset, .unset, .unset, .unset] [(.ref b1)])) st3 ?_
  refine Run.dup (pc' := 11) X3 hx (hb hby at_10) rfl rfl ?_
  refine Run.iconst (pc' := 12) (v := (1 : Int32)) X3 hx (hb hby at_11) rfl rfl ?_
  refine Run.iloadN (pc' := 13) X3 hx (hb hby at_12) rfl rfl ?_
  refine Run.iconst (pc' := 14) (v := (2 : Int32)) X3 hx (hb hby at_13) rfl rfl ?_
  refine Run.iushr (pc' := 15) X3 hx (hb hby at_14) rfl ?_
  obtain ⟨T5, L5, v5, X5, Q5, st5⟩ := callStatic X3 hx (y := (⟨"com/example/vez/vez/gateway/http/HeadEndResetPinLaw", "pick", "(I)B"⟩ : MethodName)) (Ls := #[.val (.int p0), .val (.int p1), .val (.int p2), .unset, .unset, .unset, .unset, .unset, .unset, .unset]) (rest := [(.int (1 : Int32)), (.ref b1), (.ref b1)]) (W := 3) (argsL := [(.int ((p1.toUInt32 >>> ((2 : Int32) &&& 31).toUInt32).toInt32))]) hZ hown (hw _ (List.mem_of_getElem? (i := 1) rfl)) (hw _ (List.mem_of_getElem? (i := 2) rfl)) (hw _ (List.mem_of_getElem? (i := 3) rfl)) (hw _ (List.mem_of_getElem? (i := 4) rfl)) (by decide) e3 (rm_p l Z a0 hw [] ((p1.toUInt32 >>> ((2 : Int32) &&& 31).toUInt32).toInt32)  h3 n0 Z3 ) (hb hby at_15) (lenOf own_pd0 rfl) (by decide) (by decide) (by rw [hml]; rfl) (Nat.le_of_eq rfl) (by decide) (by decide)
  obtain ⟨rfl, M5, e5⟩ := Q5
  have N5 := Fr.app N3 M5
  refine Run.back (g' := (mkF m 18 #[.val (.int p0), .val (.int p1), .val (.int p2), .unset, .unset, .unset, .unset, .unset, .unset, .unset] [(.int (own_Fp ((p1.toUInt32 >>> ((2 : Int32) &&& 31).toUInt32).toInt32))), (.int (1 : Int32)), (.ref b1), (.ref b1)])) st5 ?_
  obtain ⟨T6, h6, sl6, u6, X6, e6, W6, A6, st6⟩ := st_bastore X5 hx hZ e5 A3 (Ls := #[.val (.int p0), .val (.int p1), .val (.int p2), .unset, .unset, .unset, .unset, .unset, .unset, .unset]) (rest := [(.ref b1)]) (j := (1 : Int32)) (x := (own_Fp ((p1.toUInt32 >>> ((2 : Int32) &&& 31).toUInt32).toInt32))) (by decide) (by decide) (hb hby at_18)
  have N6 := Fr.snoc X6 N5 G1
  obtain ⟨f7, qf7⟩ : ∃ g : Int32 → Int32, g = fun i => if i = (1 : Int32) then (own_Fp ((p1.toUInt32 >>> ((2 : Int32) &&& 31).toUInt32).toInt32)).toInt8.toInt32 else f4 i := ⟨_, rfl⟩
  replace A6 : Ints Z h6 b1 .byte (4 : Int32) f7 := by rw [qf7]; exact A6
  have Z6 : n0 ≤ h6.size := Nat.le_trans Z3 (Keep.of_wr W6).1
  refine Run.back (g' := (mkF m 19 #[.val (.int p0), .val (.int p1), .val (.int p2), .unset, .unset, .unset, .unset, .unset, .unset, .unset] [(.ref b1)])) st6 ?_
  refine Run.dup (pc' := 20) X6 hx (hb hby at_19) rfl rfl ?_
  refine Run.iconst (pc' := 21) (v := (2 : Int32)) X6 hx (hb hby at_20) rfl rfl ?_
  refine Run.iloadN (pc' := 22) X6 hx (hb hby at_21) rfl rfl ?_
  refine Run.iconst (pc' := 23) (v := (4 : Int32)) X6 hx (hb hby at_22) rfl rfl ?_
  refine Run.iushr (pc' := 24) X6 hx (hb hby at_23) rfl ?_
  obtain ⟨T8, L8, v8, X8, Q8, st8⟩ := callStatic X6 hx (y := (⟨"com/example/vez/vez/gateway/http/HeadEndResetPinLaw", "pick", "(I)B"⟩ : MethodName)) (Ls := #[.val (.int p0), .val (.int p1), .val (.int p2), .unset, .unset, .unset, .unset, .unset, .unset, .unset]) (rest := [(.int (2 : Int32)), (.ref b1), (.ref b1)]) (W := 3) (argsL := [(.int ((p1.toUInt32 >>> ((4 : Int32) &&& 31).toUInt32).toInt32))]) hZ hown (hw _ (List.mem_of_getElem? (i := 1) rfl)) (hw _ (List.mem_of_getElem? (i := 2) rfl)) (hw _ (List.mem_of_getElem? (i := 3) rfl)) (hw _ (List.mem_of_getElem? (i := 4) rfl)) (by decide) e6 (rm_p l Z a0 hw [] ((p1.toUInt32 >>> ((4 : Int32) &&& 31).toUInt32).toInt32)  h6 n0 Z6 ) (hb hby at_24) (lenOf own_pd0 rfl) (by decide) (by decide) (by rw [hml]; rfl) (Nat.le_of_eq rfl) (by decide) (by decide)
  obtain ⟨rfl, M8, e8⟩ := Q8
  have N8 := Fr.app N6 M8
  refine Run.back (g' := (mkF m 27 #[.val (.int p0), .val (.int p1), .val (.int p2), .unset, .unset, .unset, .unset, .unset, .unset, .unset] [(.int (own_Fp ((p1.toUInt32 >>> ((4 : Int32) &&& 31).toUInt32).toInt32))), (.int (2 : Int32)), (.ref b1), (.ref b1)])) st8 ?_
  obtain ⟨T9, h9, sl9, u9, X9, e9, W9, A9, st9⟩ := st_bastore X8 hx hZ e8 A6 (Ls := #[.val (.int p0), .val (.int p1), .val (.int p2), .unset, .unset, .unset, .unset, .unset, .unset, .unset]) (rest := [(.ref b1)]) (j := (2 : Int32)) (x := (own_Fp ((p1.toUInt32 >>> ((4 : Int32) &&& 31).toUInt32).toInt32))) (by decide) (by decide) (hb hby at_27)
  have N9 := Fr.snoc X9 N8 G1
  obtain ⟨f10, qf10⟩ : ∃ g : Int32 → Int32, g = fun i => if i = (2 : Int32) then (own_Fp ((p1.toUInt32 >>> ((4 : Int32) &&& 31).toUInt32).toInt32)).toInt8.toInt32 else f7 i := ⟨_, rfl⟩
  replace A9 : Ints Z h9 b1 .byte (4 : Int32) f10 := by rw [qf10]; exact A9
  have Z9 : n0 ≤ h9.size := Nat.le_trans Z6 (Keep.of_wr W9).1
  refine Run.back (g' := (mkF m 28 #[.val (.int p0), .val (.int p1), .val (.int p2), .unset, .unset, .unset, .unset, .unset, .unset, .unset] [(.ref b1)])) st9 ?_
  refine Run.dup (pc' := 29) X9 hx (hb hby at_28) rfl rfl ?_
  refine Run.iconst (pc' := 30) (v := (3 : Int32)) X9 hx (hb hby at_29) rfl rfl ?_
  refine Run.iloadN (pc' := 31) X9 hx (hb hby at_30) rfl rfl ?_
  refine Run.bipush (pc' := 33) (v := (6 : Int32)) X9 hx (hb hby at_31) rfl rfl ?_
  refine Run.iushr (pc' := 34) X9 hx (hb hby at_33) rfl ?_
  obtain ⟨T11, L11, v11, X11, Q11, st11⟩ := callStatic X9 hx (y := (⟨"com/example/vez/vez/gateway/http/HeadEndResetPinLaw", "pick", "(I)B"⟩ : MethodName)) (Ls := #[.val (.int p0), .val (.int p1), .val (.int p2), .unset, .unset, .unset, .unset, .unset, .unset, .unset]) (rest := [(.int (3 : Int32)), (.ref b1), (.ref b1)]) (W := 3) (argsL := [(.int ((p1.toUInt32 >>> ((6 : Int32) &&& 31).toUInt32).toInt32))]) hZ hown (hw _ (List.mem_of_getElem? (i := 1) rfl)) (hw _ (List.mem_of_getElem? (i := 2) rfl)) (hw _ (List.mem_of_getElem? (i := 3) rfl)) (hw _ (List.mem_of_getElem? (i := 4) rfl)) (by decide) e9 (rm_p l Z a0 hw [] ((p1.toUInt32 >>> ((6 : Int32) &&& 31).toUInt32).toInt32)  h9 n0 Z9 ) (hb hby at_34) (lenOf own_pd0 rfl) (by decide) (by decide) (by rw [hml]; rfl) (Nat.le_of_eq rfl) (by decide) (by decide)
  obtain ⟨rfl, M11, e11⟩ := Q11
  have N11 := Fr.app N9 M11
  refine Run.back (g' := (mkF m 37 #[.val (.int p0), .val (.int p1), .val (.int p2), .unset, .unset, .unset, .unset, .unset, .unset, .unset] [(.int (own_Fp ((p1.toUInt32 >>> ((6 : Int32) &&& 31).toUInt32).toInt32))), (.int (3 : Int32)), (.ref b1), (.ref b1)])) st11 ?_
  obtain ⟨T12, h12, sl12, u12, X12, e12, W12, A12, st12⟩ := st_bastore X11 hx hZ e11 A9 (Ls := #[.val (.int p0), .val (.int p1), .val (.int p2), .unset, .unset, .unset, .unset, .unset, .unset, .unset]) (rest := [(.ref b1)]) (j := (3 : Int32)) (x := (own_Fp ((p1.toUInt32 >>> ((6 : Int32) &&& 31).toUInt32).toInt32))) (by decide) (by decide) (hb hby at_37)
  have N12 := Fr.snoc X12 N11 G1
  obtain ⟨f13, qf13⟩ : ∃ g : Int32 → Int32, g = fun i => if i = (3 : Int32) then (own_Fp ((p1.toUInt32 >>> ((6 : Int32) &&& 31).toUInt32).toInt32)).toInt8.toInt32 else f10 i := ⟨_, rfl⟩
  replace A12 : Ints Z h12 b1 .byte (4 : Int32) f13 := by rw [qf13]; exact A12
  have Z12 : n0 ≤ h12.size := Nat.le_trans Z9 (Keep.of_wr W12).1
  refine Run.back (g' := (mkF m 38 #[.val (.int p0), .val (.int p1), .val (.int p2), .unset, .unset, .unset, .unset, .unset, .unset, .unset] [(.ref b1)])) st12 ?_
  refine Run.astoreN (pc' := 39) X12 hx (l' := #[.val (.int p0), .val (.int p1), .val (.int p2), .val (.ref b1), .unset, .unset, .unset, .unset, .unset, .unset]) (hb hby at_38) rfl rfl ?_
  refine Run.iconst (pc' := 40) (v := (4 : Int32)) X12 hx (hb hby at_39) rfl rfl ?_
  obtain ⟨T14, h14, b14, X14, e14, E14, g14, A14, st14⟩ := st_newarray X12 hx hZ (hw _ (List.mem_of_getElem? (i := 0) rfl)) e12 (hb hby at_40) (Ls := #[.val (.int p0), .val (.int p1), .val (.int p2), .val (.ref b1), .unset, .unset, .unset, .unset, .unset, .unset]) (rest := []) (n := (4 : Int32)) (by decide) (cap := 4) (by decide) (by decide) (by decide) (by decide) rfl
  replace A14 : Ints Z h14 b14 .byte (4 : Int32) (fun _ => 0) := A14
  have ne_b1_b14 : b1 ≠ b14 := Nat.ne_of_lt (Nat.lt_of_lt_of_le (A12).lt (Nat.le_of_eq g14.symm))
  have G14 : n0 ≤ b14 := Nat.le_trans Z12 (Nat.le_of_eq g14.symm)
  have Z14 : n0 ≤ h14.size := Nat.le_trans Z12 E14.1
  have fq15 := Ints.ext E14 A12
  refine Run.back (g' := (mkF m 42 #[.val (.int p0), .val (.int p1), .val (.int p2), .val (.ref b1), .unset, .unset, .unset, .unset, .unset, .unset] [(.ref b14)])) st14 ?_
  refine Run.dup (pc' := 43) X14 hx (hb hby at_42) rfl rfl ?_
  refine Run.iconst (pc' := 44) (v := (0 : Int32)) X14 hx (hb hby at_43) rfl rfl ?_
  refine Run.iloadN (pc' := 45) X14 hx (hb hby at_44) rfl rfl ?_
  obtain ⟨T16, L16, v16, X16, Q16, st16⟩ := callStatic X14 hx (y := (⟨"com/example/vez/vez/gateway/http/HeadEndResetPinLaw", "pick", "(I)B"⟩ : MethodName)) (Ls := #[.val (.int p0), .val (.int p1), .val (.int p2), .val (.ref b1), .unset, .unset, .unset, .unset, .unset, .unset]) (rest := [(.int (0 : Int32)), (.ref b14), (.ref b14)]) (W := 3) (argsL := [(.int p2)]) hZ hown (hw _ (List.mem_of_getElem? (i := 1) rfl)) (hw _ (List.mem_of_getElem? (i := 2) rfl)) (hw _ (List.mem_of_getElem? (i := 3) rfl)) (hw _ (List.mem_of_getElem? (i := 4) rfl)) (by decide) e14 (rm_p l Z a0 hw [] p2  h14 n0 Z14 ) (hb hby at_45) (lenOf own_pd0 rfl) (by decide) (by decide) (by rw [hml]; rfl) (Nat.le_of_eq rfl) (by decide) (by decide)
  obtain ⟨rfl, M16, e16⟩ := Q16
  have N16 := Fr.app N12 M16
  refine Run.back (g' := (mkF m 48 #[.val (.int p0), .val (.int p1), .val (.int p2), .val (.ref b1), .unset, .unset, .unset, .unset, .unset, .unset] [(.int (own_Fp p2)), (.int (0 : Int32)), (.ref b14), (.ref b14)])) st16 ?_
  obtain ⟨T17, h17, sl17, u17, X17, e17, W17, A17, st17⟩ := st_bastore X16 hx hZ e16 A14 (Ls := #[.val (.int p0), .val (.int p1), .val (.int p2), .val (.ref b1), .unset, .unset, .unset, .unset, .unset, .unset]) (rest := [(.ref b14)]) (j := (0 : Int32)) (x := (own_Fp p2)) (by decide) (by decide) (hb hby at_48)
  have N17 := Fr.snoc X17 N16 G14
  obtain ⟨f18, qf18⟩ : ∃ g : Int32 → Int32, g = fun i => if i = (0 : Int32) then (own_Fp p2).toInt8.toInt32 else (fun _ => (0 : Int32)) i := ⟨_, rfl⟩
  replace A17 : Ints Z h17 b14 .byte (4 : Int32) f18 := by rw [qf18]; exact A17
  have fq19 := Ints.other W17 fq15 ne_b1_b14
  have Z17 : n0 ≤ h17.size := Nat.le_trans Z14 (Keep.of_wr W17).1
  refine Run.back (g' := (mkF m 49 #[.val (.int p0), .val (.int p1), .val (.int p2), .val (.ref b1), .unset, .unset, .unset, .unset, .unset, .unset] [(.ref b14)])) st17 ?_
  refine Run.dup (pc' := 50) X17 hx (hb hby at_49) rfl rfl ?_
  refine Run.iconst (pc' := 51) (v := (1 : Int32)) X17 hx (hb hby at_50) rfl rfl ?_
  refine Run.iloadN (pc' := 52) X17 hx (hb hby at_51) rfl rfl ?_
  refine Run.iconst (pc' := 53) (v := (2 : Int32)) X17 hx (hb hby at_52) rfl rfl ?_
  refine Run.iushr (pc' := 54) X17 hx (hb hby at_53) rfl ?_
  obtain ⟨T20, L20, v20, X20, Q20, st20⟩ := callStatic X17 hx (y := (⟨"com/example/vez/vez/gateway/http/HeadEndResetPinLaw", "pick", "(I)B"⟩ : MethodName)) (Ls := #[.val (.int p0), .val (.int p1), .val (.int p2), .val (.ref b1), .unset, .unset, .unset, .unset, .unset, .unset]) (rest := [(.int (1 : Int32)), (.ref b14), (.ref b14)]) (W := 3) (argsL := [(.int ((p2.toUInt32 >>> ((2 : Int32) &&& 31).toUInt32).toInt32))]) hZ hown (hw _ (List.mem_of_getElem? (i := 1) rfl)) (hw _ (List.mem_of_getElem? (i := 2) rfl)) (hw _ (List.mem_of_getElem? (i := 3) rfl)) (hw _ (List.mem_of_getElem? (i := 4) rfl)) (by decide) e17 (rm_p l Z a0 hw [] ((p2.toUInt32 >>> ((2 : Int32) &&& 31).toUInt32).toInt32)  h17 n0 Z17 ) (hb hby at_54) (lenOf own_pd0 rfl) (by decide) (by decide) (by rw [hml]; rfl) (Nat.le_of_eq rfl) (by decide) (by decide)
  obtain ⟨rfl, M20, e20⟩ := Q20
  have N20 := Fr.app N17 M20
  refine Run.back (g' := (mkF m 57 #[.val (.int p0), .val (.int p1), .val (.int p2), .val (.ref b1), .unset, .unset, .unset, .unset, .unset, .unset] [(.int (own_Fp ((p2.toUInt32 >>> ((2 : Int32) &&& 31).toUInt32).toInt32))), (.int (1 : Int32)), (.ref b14), (.ref b14)])) st20 ?_
  obtain ⟨T21, h21, sl21, u21, X21, e21, W21, A21, st21⟩ := st_bastore X20 hx hZ e20 A17 (Ls := #[.val (.int p0), .val (.int p1), .val (.int p2), .val (.ref b1), .unset, .unset, .unset, .unset, .unset, .unset]) (rest := [(.ref b14)]) (j := (1 : Int32)) (x := (own_Fp ((p2.toUInt32 >>> ((2 : Int32) &&& 31).toUInt32).toInt32))) (by decide) (by decide) (hb hby at_57)
  have N21 := Fr.snoc X21 N20 G14
  obtain ⟨f22, qf22⟩ : ∃ g : Int32 → Int32, g = fun i => if i = (1 : Int32) then (own_Fp ((p2.toUInt32 >>> ((2 : Int32) &&& 31).toUInt32).toInt32)).toInt8.toInt32 else f18 i := ⟨_, rfl⟩
  replace A21 : Ints Z h21 b14 .byte (4 : Int32) f22 := by rw [qf22]; exact A21
  have fq23 := Ints.other W21 fq19 ne_b1_b14
  have Z21 : n0 ≤ h21.size := Nat.le_trans Z17 (Keep.of_wr W21).1
  refine Run.back (g' := (mkF m 58 #[.val (.int p0), .val (.int p1), .val (.int p2), .val (.ref b1), .unset, .unset, .unset, .unset, .unset, .unset] [(.ref b14)])) st21 ?_
  refine Run.dup (pc' := 59) X21 hx (hb hby at_58) rfl rfl ?_
  refine Run.iconst (pc' := 60) (v := (2 : Int32)) X21 hx (hb hby at_59) rfl rfl ?_
  refine Run.iloadN (pc' := 61) X21 hx (hb hby at_60) rfl rfl ?_
  refine Run.iconst (pc' := 62) (v := (4 : Int32)) X21 hx (hb hby at_61) rfl rfl ?_
  refine Run.iushr (pc' := 63) X21 hx (hb hby at_62) rfl ?_
  obtain ⟨T24, L24, v24, X24, Q24, st24⟩ := callStatic X21 hx (y := (⟨"com/example/vez/vez/gateway/http/HeadEndResetPinLaw", "pick", "(I)B"⟩ : MethodName)) (Ls := #[.val (.int p0), .val (.int p1), .val (.int p2), .val (.ref b1), .unset, .unset, .unset, .unset, .unset, .unset]) (rest := [(.int (2 : Int32)), (.ref b14), (.ref b14)]) (W := 3) (argsL := [(.int ((p2.toUInt32 >>> ((4 : Int32) &&& 31).toUInt32).toInt32))]) hZ hown (hw _ (List.mem_of_getElem? (i := 1) rfl)) (hw _ (List.mem_of_getElem? (i := 2) rfl)) (hw _ (List.mem_of_getElem? (i := 3) rfl)) (hw _ (List.mem_of_getElem? (i := 4) rfl)) (by decide) e21 (rm_p l Z a0 hw [] ((p2.toUInt32 >>> ((4 : Int32) &&& 31).toUInt32).toInt32)  h21 n0 Z21 ) (hb hby at_63) (lenOf own_pd0 rfl) (by decide) (by decide) (by rw [hml]; rfl) (Nat.le_of_eq rfl) (by decide) (by decide)
  obtain ⟨rfl, M24, e24⟩ := Q24
  have N24 := Fr.app N21 M24
  refine Run.back (g' := (mkF m 66 #[.val (.int p0), .val (.int p1), .val (.int p2), .val (.ref b1), .unset, .unset, .unset, .unset, .unset, .unset] [(.int (own_Fp ((p2.toUInt32 >>> ((4 : Int32) &&& 31).toUInt32).toInt32))), (.int (2 : Int32)), (.ref b14), (.ref b14)])) st24 ?_
  obtain ⟨T25, h25, sl25, u25, X25, e25, W25, A25, st25⟩ := st_bastore X24 hx hZ e24 A21 (Ls := #[.val (.int p0), .val (.int p1), .val (.int p2), .val (.ref b1), .unset, .unset, .unset, .unset, .unset, .unset]) (rest := [(.ref b14)]) (j := (2 : Int32)) (x := (own_Fp ((p2.toUInt32 >>> ((4 : Int32) &&& 31).toUInt32).toInt32))) (by decide) (by decide) (hb hby at_66)
  have N25 := Fr.snoc X25 N24 G14
  obtain ⟨f26, qf26⟩ : ∃ g : Int32 → Int32, g = fun i => if i = (2 : Int32) then (own_Fp ((p2.toUInt32 >>> ((4 : Int32) &&& 31).toUInt32).toInt32)).toInt8.toInt32 else f22 i := ⟨_, rfl⟩
  replace A25 : Ints Z h25 b14 .byte (4 : Int32) f26 := by rw [qf26]; exact A25
  have fq27 := Ints.other W25 fq23 ne_b1_b14
  have Z25 : n0 ≤ h25.size := Nat.le_trans Z21 (Keep.of_wr W25).1
  refine Run.back (g' := (mkF m 67 #[.val (.int p0), .val (.int p1), .val (.int p2), .val (.ref b1), .unset, .unset, .unset, .unset, .unset, .unset] [(.ref b14)])) st25 ?_
  refine Run.dup (pc' := 68) X25 hx (hb hby at_67) rfl rfl ?_
  refine Run.iconst (pc' := 69) (v := (3 : Int32)) X25 hx (hb hby at_68) rfl rfl ?_
  refine Run.iloadN (pc' := 70) X25 hx (hb hby at_69) rfl rfl ?_
  refine Run.bipush (pc' := 72) (v := (6 : Int32)) X25 hx (hb hby at_70) rfl rfl ?_
  refine Run.iushr (pc' := 73) X25 hx (hb hby at_72) rfl ?_
  obtain ⟨T28, L28, v28, X28, Q28, st28⟩ := callStatic X25 hx (y := (⟨"com/example/vez/vez/gateway/http/HeadEndResetPinLaw", "pick", "(I)B"⟩ : MethodName)) (Ls := #[.val (.int p0), .val (.int p1), .val (.int p2), .val (.ref b1), .unset, .unset, .unset, .unset, .unset, .unset]) (rest := [(.int (3 : Int32)), (.ref b14), (.ref b14)]) (W := 3) (argsL := [(.int ((p2.toUInt32 >>> ((6 : Int32) &&& 31).toUInt32).toInt32))]) hZ hown (hw _ (List.mem_of_getElem? (i := 1) rfl)) (hw _ (List.mem_of_getElem? (i := 2) rfl)) (hw _ (List.mem_of_getElem? (i := 3) rfl)) (hw _ (List.mem_of_getElem? (i := 4) rfl)) (by decide) e25 (rm_p l Z a0 hw [] ((p2.toUInt32 >>> ((6 : Int32) &&& 31).toUInt32).toInt32)  h25 n0 Z25 ) (hb hby at_73) (lenOf own_pd0 rfl) (by decide) (by decide) (by rw [hml]; rfl) (Nat.le_of_eq rfl) (by decide) (by decide)
  obtain ⟨rfl, M28, e28⟩ := Q28
  have N28 := Fr.app N25 M28
  refine Run.back (g' := (mkF m 76 #[.val (.int p0), .val (.int p1), .val (.int p2), .val (.ref b1), .unset, .unset, .unset, .unset, .unset, .unset] [(.int (own_Fp ((p2.toUInt32 >>> ((6 : Int32) &&& 31).toUInt32).toInt32))), (.int (3 : Int32)), (.ref b14), (.ref b14)])) st28 ?_
  obtain ⟨T29, h29, sl29, u29, X29, e29, W29, A29, st29⟩ := st_bastore X28 hx hZ e28 A25 (Ls := #[.val (.int p0), .val (.int p1), .val (.int p2), .val (.ref b1), .unset, .unset, .unset, .unset, .unset, .unset]) (rest := [(.ref b14)]) (j := (3 : Int32)) (x := (own_Fp ((p2.toUInt32 >>> ((6 : Int32) &&& 31).toUInt32).toInt32))) (by decide) (by decide) (hb hby at_76)
  have N29 := Fr.snoc X29 N28 G14
  obtain ⟨f30, qf30⟩ : ∃ g : Int32 → Int32, g = fun i => if i = (3 : Int32) then (own_Fp ((p2.toUInt32 >>> ((6 : Int32) &&& 31).toUInt32).toInt32)).toInt8.toInt32 else f26 i := ⟨_, rfl⟩
  replace A29 : Ints Z h29 b14 .byte (4 : Int32) f30 := by rw [qf30]; exact A29
  have fq31 := Ints.other W29 fq27 ne_b1_b14
  have Z29 : n0 ≤ h29.size := Nat.le_trans Z25 (Keep.of_wr W29).1
  refine Run.back (g' := (mkF m 77 #[.val (.int p0), .val (.int p1), .val (.int p2), .val (.ref b1), .unset, .unset, .unset, .unset, .unset, .unset] [(.ref b14)])) st29 ?_
  refine Run.astore (pc' := 79) X29 hx (l' := #[.val (.int p0), .val (.int p1), .val (.int p2), .val (.ref b1), .val (.ref b14), .unset, .unset, .unset, .unset, .unset]) (hb hby at_77) rfl rfl ?_
  obtain ⟨T32, h32, X32, e32, E32, A32, D32, -, st32⟩ := newO X29 hx hZ hown (hw _ (List.mem_of_getElem? (i := 5) rfl)) (hw _ (List.mem_of_getElem? (i := 6) rfl)) (hw _ (List.mem_of_getElem? (i := 7) rfl)) e29 (g := (mkF m 79 #[.val (.int p0), .val (.int p1), .val (.int p2), .val (.ref b1), .val (.ref b14), .unset, .unset, .unset, .unset, .unset] [])) rfl (hb hby at_79) (by decide) (by decide)
  obtain ⟨b32, g32⟩ : ∃ z, z = h29.size := ⟨_, rfl⟩
  rw [← g32] at A32 D32 st32
  have ne_b1_b32 : b1 ≠ b32 := Nat.ne_of_lt (Nat.lt_of_lt_of_le (fq31).lt (Nat.le_of_eq g32.symm))
  have ne_b14_b32 : b14 ≠ b32 := Nat.ne_of_lt (Nat.lt_of_lt_of_le (A29).lt (Nat.le_of_eq g32.symm))
  have G32 : n0 ≤ b32 := Nat.le_trans Z29 (Nat.le_of_eq g32.symm)
  have Z32 : n0 ≤ h32.size := Nat.le_trans Z29 E32.1
  have fq33 := Ints.ext E32 fq31
  have fq34 := Ints.ext E32 A29
  have F32_whole : Fld Z h32 b32 "com/example/vez/vez/gateway/http/HeadEnd" "whole" "Z" (.int (0 : Int32)) := D32 (Or.inl (hw _ (List.mem_of_getElem? (i := 20) rfl))) (ty := .boolean) (by decide)
  have F32_scanned : Fld Z h32 b32 "com/example/vez/vez/gateway/http/HeadEnd" "scanned" "I" (.int (0 : Int32)) := D32 (Or.inl (hw _ (List.mem_of_getElem? (i := 22) rfl))) (ty := .int) (by decide)
  have F32_lineLength : Fld Z h32 b32 "com/example/vez/vez/gateway/http/HeadEnd" "lineLength" "I" (.int (0 : Int32)) := D32 (Or.inl (hw _ (List.mem_of_getElem? (i := 24) rfl))) (ty := .int) (by decide)
  have F32_cr : Fld Z h32 b32 "com/example/vez/vez/gateway/http/HeadEnd" "cr" "Z" (.int (0 : Int32)) := D32 (Or.inl (hw _ (List.mem_of_getElem? (i := 26) rfl))) (ty := .boolean) (by decide)
  have F32_begun : Fld Z h32 b32 "com/example/vez/vez/gateway/http/HeadEnd" "begun" "Z" (.int (0 : Int32)) := D32 (Or.inl (hw _ (List.mem_of_getElem? (i := 28) rfl))) (ty := .boolean) (by decide)
  refine Run.back (g' := (mkF m 82 #[.val (.int p0), .val (.int p1), .val (.int p2), .val (.ref b1), .val (.ref b14), .unset, .unset, .unset, .unset, .unset] [(.ref b32)])) st32 ?_
  refine Run.dup (pc' := 83) X32 hx (hb hby at_82) rfl rfl ?_
  obtain ⟨T35, L35, v35, X35, Q35, st35⟩ := callSpecial X32 hx (y := (⟨"com/example/vez/vez/gateway/http/HeadEnd", "<init>", "()V"⟩ : MethodName)) (a := b32) (Ls := #[.val (.int p0), .val (.int p1), .val (.int p2), .val (.ref b1), .val (.ref b14), .unset, .unset, .unset, .unset, .unset]) (rest := [(.ref b32)]) (W := 1) (argsL := []) rfl hZ hown (hw _ (List.mem_of_getElem? (i := 8) rfl)) (hw _ (List.mem_of_getElem? (i := 9) rfl)) (hw _ (List.mem_of_getElem? (i := 7) rfl)) (hw _ (List.mem_of_getElem? (i := 10) rfl)) (by decide) e32 (rm_i l Z a0 hw [] b32  h32 n0 Z32 ) (hb hby at_83) (lenOf own_pd1 rfl) (by decide) (by decide) (by rw [hml]; rfl) (Nat.le_of_eq rfl) (by decide) (by decide)
  obtain ⟨rfl, M35, e35⟩ := Q35
  have N35 := Fr.app N29 M35
  refine Run.back (g' := (mkF m 86 #[.val (.int p0), .val (.int p1), .val (.int p2), .val (.ref b1), .val (.ref b14), .unset, .unset, .unset, .unset, .unset] [(.ref b32)])) st35 ?_
  refine Run.astore (pc' := 88) X35 hx (l' := #[.val (.int p0), .val (.int p1), .val (.int p2), .val (.ref b1), .val (.ref b14), .val (.ref b32), .unset, .unset, .unset, .unset]) (hb hby at_86) rfl rfl ?_
  obtain ⟨T36, h36, X36, e36, E36, A36, D36, -, st36⟩ := newO X35 hx hZ hown (hw _ (List.mem_of_getElem? (i := 5) rfl)) (hw _ (List.mem_of_getElem? (i := 6) rfl)) (hw _ (List.mem_of_getElem? (i := 7) rfl)) e35 (g := (mkF m 88 #[.val (.int p0), .val (.int p1), .val (.int p2), .val (.ref b1), .val (.ref b14), .val (.ref b32), .unset, .unset, .unset, .unset] [])) rfl (hb hby at_88) (by decide) (by decide)
  obtain ⟨b36, g36⟩ : ∃ z, z = h32.size := ⟨_, rfl⟩
  rw [← g36] at A36 D36 st36
  have ne_b1_b36 : b1 ≠ b36 := Nat.ne_of_lt (Nat.lt_of_lt_of_le (fq33).lt (Nat.le_of_eq g36.symm))
  have ne_b14_b36 : b14 ≠ b36 := Nat.ne_of_lt (Nat.lt_of_lt_of_le (fq34).lt (Nat.le_of_eq g36.symm))
  have ne_b32_b36 : b32 ≠ b36 := Nat.ne_of_lt (Nat.lt_of_lt_of_le (A32).lt (Nat.le_of_eq g36.symm))
  have G36 : n0 ≤ b36 := Nat.le_trans Z32 (Nat.le_of_eq g36.symm)
  have Z36 : n0 ≤ h36.size := Nat.le_trans Z32 E36.1
  have fq37 := Ints.ext E36 fq33
  have fq38 := Ints.ext E36 fq34
  have fq39 := Exa.ext E36 A32
  have fq40 := Fld.ext E36 F32_whole
  have fq41 := Fld.ext E36 F32_scanned
  have fq42 := Fld.ext E36 F32_lineLength
  have fq43 := Fld.ext E36 F32_cr
  have fq44 := Fld.ext E36 F32_begun
  have F36_whole : Fld Z h36 b36 "com/example/vez/vez/gateway/http/HeadEnd" "whole" "Z" (.int (0 : Int32)) := D36 (Or.inl (hw _ (List.mem_of_getElem? (i := 20) rfl))) (ty := .boolean) (by decide)
  have F36_scanned : Fld Z h36 b36 "com/example/vez/vez/gateway/http/HeadEnd" "scanned" "I" (.int (0 : Int32)) := D36 (Or.inl (hw _ (List.mem_of_getElem? (i := 22) rfl))) (ty := .int) (by decide)
  have F36_lineLength : Fld Z h36 b36 "com/example/vez/vez/gateway/http/HeadEnd" "lineLength" "I" (.int (0 : Int32)) := D36 (Or.inl (hw _ (List.mem_of_getElem? (i := 24) rfl))) (ty := .int) (by decide)
  have F36_cr : Fld Z h36 b36 "com/example/vez/vez/gateway/http/HeadEnd" "cr" "Z" (.int (0 : Int32)) := D36 (Or.inl (hw _ (List.mem_of_getElem? (i := 26) rfl))) (ty := .boolean) (by decide)
  have F36_begun : Fld Z h36 b36 "com/example/vez/vez/gateway/http/HeadEnd" "begun" "Z" (.int (0 : Int32)) := D36 (Or.inl (hw _ (List.mem_of_getElem? (i := 28) rfl))) (ty := .boolean) (by decide)
  refine Run.back (g' := (mkF m 91 #[.val (.int p0), .val (.int p1), .val (.int p2), .val (.ref b1), .val (.ref b14), .val (.ref b32), .unset, .unset, .unset, .unset] [(.ref b36)])) st36 ?_
  refine Run.dup (pc' := 92) X36 hx (hb hby at_91) rfl rfl ?_
  obtain ⟨T45, L45, v45, X45, Q45, st45⟩ := callSpecial X36 hx (y := (⟨"com/example/vez/vez/gateway/http/HeadEnd", "<init>", "()V"⟩ : MethodName)) (a := b36) (Ls := #[.val (.int p0), .val (.int p1), .val (.int p2), .val (.ref b1), .val (.ref b14), .val (.ref b32), .unset, .unset, .unset, .unset]) (rest := [(.ref b36)]) (W := 1) (argsL := []) rfl hZ hown (hw _ (List.mem_of_getElem? (i := 8) rfl)) (hw _ (List.mem_of_getElem? (i := 9) rfl)) (hw _ (List.mem_of_getElem? (i := 7) rfl)) (hw _ (List.mem_of_getElem? (i := 10) rfl)) (by decide) e36 (rm_i l Z a0 hw [] b36  h36 n0 Z36 ) (hb hby at_92) (lenOf own_pd1 rfl) (by decide) (by decide) (by rw [hml]; rfl) (Nat.le_of_eq rfl) (by decide) (by decide)
  obtain ⟨rfl, M45, e45⟩ := Q45
  have N45 := Fr.app N35 M45
  refine Run.back (g' := (mkF m 95 #[.val (.int p0), .val (.int p1), .val (.int p2), .val (.ref b1), .val (.ref b14), .val (.ref b32), .unset, .unset, .unset, .unset] [(.ref b36)])) st45 ?_
  refine Run.astore (pc' := 97) X45 hx (l' := #[.val (.int p0), .val (.int p1), .val (.int p2), .val (.ref b1), .val (.ref b14), .val (.ref b32), .val (.ref b36), .unset, .unset, .unset]) (hb hby at_95) rfl rfl ?_
  refine Run.aload (pc' := 99) X45 hx (hb hby at_97) rfl rfl ?_
  refine Run.aloadN (pc' := 100) X45 hx (hb hby at_99) rfl rfl ?_
  refine Run.iconst (pc' := 101) (v := (0 : Int32)) X45 hx (hb hby at_100) rfl rfl ?_
  refine Run.iconst (pc' := 102) (v := (4 : Int32)) X45 hx (hb hby at_101) rfl rfl ?_
  obtain ⟨T46, L46, v46, X46, Q46, st46⟩ := callVirtual X45 hx (y := (⟨"com/example/vez/vez/gateway/http/HeadEnd", "find", "([BII)Z"⟩ : MethodName)) (z := (⟨"com/example/vez/vez/gateway/http/HeadEnd", "find", "([BII)Z"⟩ : MethodName)) (C := "com/example/vez/vez/gateway/http/HeadEnd") (a := b32) (Ls := #[.val (.int p0), .val (.int p1), .val (.int p2), .val (.ref b1), .val (.ref b14), .val (.ref b32), .val (.ref b36), .unset, .unset, .unset]) (rest := []) (W := 0) (argsL := [(.ref b1), (.int (0 : Int32)), (.int (4 : Int32))]) hZ hown (hw _ (List.mem_of_getElem? (i := 14) rfl)) (hw _ (List.mem_of_getElem? (i := 15) rfl)) (notFace_of_selects (args := #[]) (mvT hZ (hw _ (List.mem_of_getElem? (i := 17) rfl)))) (hw _ (List.mem_of_getElem? (i := 17) rfl)) (hw _ (List.mem_of_getElem? (i := 16) rfl)) (hw _ (List.mem_of_getElem? (i := 7) rfl)) (hw _ (List.mem_of_getElem? (i := 18) rfl)) (by decide) e45 fq39 (rm_f l Z a0 hw [] b32 b1 (0 : Int32) (4 : Int32) ((0 : Int32)) ((0 : Int32)) ((0 : Int32)) ((0 : Int32)) ((0 : Int32)) 4 (4 : Int32) f13 h36 n0 Z36 fq39 fq41 fq42 fq43 fq44 fq40 G32 fq37 ne_b1_b32 (by decide) (by decide) (by decide)) (hb hby at_102) (lenOf own_pd2 rfl) (by decide) (by decide) (by rw [hml]; rfl) (Nat.le_of_eq rfl) (by decide) (by decide)
  obtain ⟨rfl, M46, K46, E46, F46_scanned, F46_lineLength, F46_cr, F46_begun, F46_whole⟩ := Q46
  have N46 := Fr.app N45 M46
  have fq47 := Ints.keep fq37 K46 (ninS ne_b1_b32 nin0)
  have fq48 := Ints.keep fq38 K46 (ninS ne_b14_b32 nin0)
  have fq49 := Exa.keep fq39 K46
  have fq50 := Exa.keep A36 K46
  have fq51 := Fld.keep F36_whole K46 (ninS (Ne.symm ne_b32_b36) nin0)
  have fq52 := Fld.keep F36_scanned K46 (ninS (Ne.symm ne_b32_b36) nin0)
  have fq53 := Fld.keep F36_lineLength K46 (ninS (Ne.symm ne_b32_b36) nin0)
  have fq54 := Fld.keep F36_cr K46 (ninS (Ne.symm ne_b32_b36) nin0)
  have fq55 := Fld.keep F36_begun K46 (ninS (Ne.symm ne_b32_b36) nin0)
  have Z46 : n0 ≤ T46.heap.size := Nat.le_trans Z36 K46.1
  refine Run.back (g' := (mkF m 105 #[.val (.int p0), .val (.int p1), .val (.int p2), .val (.ref b1), .val (.ref b14), .val (.ref b32), .val (.ref b36), .unset, .unset, .unset] [(.int ((own_go 4 f13 (0 : Int32) ((0 : Int32), (0 : Int32), (0 : Int32), (0 : Int32), (0 : Int32))).2.2.2.2 &&& 1))])) st46 ?_
  refine Run.pop (pc' := 106) X46 hx (hb hby at_105) rfl rfl ?_
  refine Run.aload (pc' := 108) X46 hx (hb hby at_106) rfl rfl ?_
  refine Run.iloadN (pc' := 109) X46 hx (hb hby at_108) rfl rfl ?_
  obtain ⟨T56, L56, v56, X56, Q56, st56⟩ := callVirtual X46 hx (y := (⟨"com/example/vez/vez/gateway/http/HeadEnd", "reset", "(I)V"⟩ : MethodName)) (z := (⟨"com/example/vez/vez/gateway/http/HeadEnd", "reset", "(I)V"⟩ : MethodName)) (C := "com/example/vez/vez/gateway/http/HeadEnd") (a := b32) (Ls := #[.val (.int p0), .val (.int p1), .val (.int p2), .val (.ref b1), .val (.ref b14), .val (.ref b32), .val (.ref b36), .unset, .unset, .unset]) (rest := []) (W := 0) (argsL := [(.int p0)]) hZ hown (hw _ (List.mem_of_getElem? (i := 29) rfl)) (hw _ (List.mem_of_getElem? (i := 30) rfl)) (notFace_of_selects (args := #[]) (mvT hZ (hw _ (List.mem_of_getElem? (i := 32) rfl)))) (hw _ (List.mem_of_getElem? (i := 32) rfl)) (hw _ (List.mem_of_getElem? (i := 31) rfl)) (hw _ (List.mem_of_getElem? (i := 7) rfl)) (hw _ (List.mem_of_getElem? (i := 33) rfl)) (by decide) rfl E46 (rm_r l Z a0 hw [] b32 p0 ((own_go 4 f13 (0 : Int32) ((0 : Int32), (0 : Int32), (0 : Int32), (0 : Int32), (0 : Int32))).1) ((own_go 4 f13 (0 : Int32) ((0 : Int32), (0 : Int32), (0 : Int32), (0 : Int32), (0 : Int32))).2.1) ((own_go 4 f13 (0 : Int32) ((0 : Int32), (0 : Int32), (0 : Int32), (0 : Int32), (0 : Int32))).2.2.1) ((own_go 4 f13 (0 : Int32) ((0 : Int32), (0 : Int32), (0 : Int32), (0 : Int32), (0 : Int32))).2.2.2.1) ((own_go 4 f13 (0 : Int32) ((0 : Int32), (0 : Int32), (0 : Int32), (0 : Int32), (0 : Int32))).2.2.2.2) T46.heap n0 Z46 E46 F46_scanned F46_lineLength F46_cr F46_begun F46_whole G32 ) (hb hby at_109) (lenOf own_pd3 rfl) (by decide) (by decide) (by rw [hml]; rfl) (Nat.le_of_eq rfl) (by decide) (by decide)
  obtain ⟨rfl, M56, K56, E56, F56_scanned, F56_lineLength, F56_cr, F56_begun, F56_whole⟩ := Q56
  have N56 := Fr.app N46 M56
  have fq57 := Ints.keep fq47 K56 (ninS ne_b1_b32 nin0)
  have fq58 := Ints.keep fq48 K56 (ninS ne_b14_b32 nin0)
  have fq59 := Exa.keep E46 K56
  have fq60 := Exa.keep fq50 K56
  have fq61 := Fld.keep fq51 K56 (ninS (Ne.symm ne_b32_b36) nin0)
  have fq62 := Fld.keep fq52 K56 (ninS (Ne.symm ne_b32_b36) nin0)
  have fq63 := Fld.keep fq53 K56 (ninS (Ne.symm ne_b32_b36) nin0)
  have fq64 := Fld.keep fq54 K56 (ninS (Ne.symm ne_b32_b36) nin0)
  have fq65 := Fld.keep fq55 K56 (ninS (Ne.symm ne_b32_b36) nin0)
  have Z56 : n0 ≤ T56.heap.size := Nat.le_trans Z46 K56.1
  refine Run.back (g' := (mkF m 112 #[.val (.int p0), .val (.int p1), .val (.int p2), .val (.ref b1), .val (.ref b14), .val (.ref b32), .val (.ref b36), .unset, .unset, .unset] [])) st56 ?_
  refine Run.aload (pc' := 114) X56 hx (hb hby at_112) rfl rfl ?_
  obtain ⟨T66, L66, v66, X66, Q66, st66⟩ := callVirtual X56 hx (y := (⟨"com/example/vez/vez/gateway/http/HeadEnd", "getScanned", "()I"⟩ : MethodName)) (z := (⟨"com/example/vez/vez/gateway/http/HeadEnd", "getScanned", "()I"⟩ : MethodName)) (C := "com/example/vez/vez/gateway/http/HeadEnd") (a := b32) (Ls := #[.val (.int p0), .val (.int p1), .val (.int p2), .val (.ref b1), .val (.ref b14), .val (.ref b32), .val (.ref b36), .unset, .unset, .unset]) (rest := []) (W := 0) (argsL := []) hZ hown (hw _ (List.mem_of_getElem? (i := 34) rfl)) (hw _ (List.mem_of_getElem? (i := 35) rfl)) (notFace_of_selects (args := #[]) (mvT hZ (hw _ (List.mem_of_getElem? (i := 37) rfl)))) (hw _ (List.mem_of_getElem? (i := 37) rfl)) (hw _ (List.mem_of_getElem? (i := 36) rfl)) (hw _ (List.mem_of_getElem? (i := 7) rfl)) (hw _ (List.mem_of_getElem? (i := 38) rfl)) (by decide) rfl E56 (rm_s l Z a0 hw [] b32 (p0) T56.heap n0 Z56 F56_scanned) (hb hby at_114) (lenOf own_pd4 rfl) (by decide) (by decide) (by rw [hml]; rfl) (Nat.le_of_eq rfl) (by decide) (by decide)
  obtain ⟨hv66, M66, e66⟩ := Q66
  rw [show (own_Fs b32 (p0)) = p0 from rfl] at hv66
  subst hv66
  have N66 := Fr.app N56 M66
  refine Run.back (g' := (mkF m 117 #[.val (.int p0), .val (.int p1), .val (.int p2), .val (.ref b1), .val (.ref b14), .val (.ref b32), .val (.ref b36), .unset, .unset, .unset] [(.int p0)])) st66 ?_
  refine Run.iloadN (pc' := 118) X66 hx (hb hby at_117) rfl rfl ?_
  refine Run.icmpNo (pc' := 121) X66 hx (hb hby at_118) (teq rfl).2 rfl ?_
  refine Run.aload (pc' := 123) X66 hx (hb hby at_121) rfl rfl ?_
  obtain ⟨T67, L67, v67, X67, Q67, st67⟩ := callVirtual X66 hx (y := (⟨"com/example/vez/vez/gateway/http/HeadEnd", "isWhole", "()Z"⟩ : MethodName)) (z := (⟨"com/example/vez/vez/gateway/http/HeadEnd", "isWhole", "()Z"⟩ : MethodName)) (C := "com/example/vez/vez/gateway/http/HeadEnd") (a := b32) (Ls := #[.val (.int p0), .val (.int p1), .val (.int p2), .val (.ref b1), .val (.ref b14), .val (.ref b32), .val (.ref b36), .unset, .unset, .unset]) (rest := []) (W := 0) (argsL := []) hZ hown (hw _ (List.mem_of_getElem? (i := 39) rfl)) (hw _ (List.mem_of_getElem? (i := 40) rfl)) (notFace_of_selects (args := #[]) (mvT hZ (hw _ (List.mem_of_getElem? (i := 42) rfl)))) (hw _ (List.mem_of_getElem? (i := 42) rfl)) (hw _ (List.mem_of_getElem? (i := 41) rfl)) (hw _ (List.mem_of_getElem? (i := 7) rfl)) (hw _ (List.mem_of_getElem? (i := 43) rfl)) (by decide) e66 E56 (rm_w l Z a0 hw [] b32 ((0 : Int32)) T56.heap n0 Z56 F56_whole) (hb hby at_123) (lenOf own_pd5 rfl) (by decide) (by decide) (by rw [hml]; rfl) (Nat.le_of_eq rfl) (by decide) (by decide)
  obtain ⟨hv67, M67, e67⟩ := Q67
  rw [show (own_Fw b32 ((0 : Int32))) = ((0 : Int32) &&& 1) from rfl] at hv67
  subst hv67
  have N67 := Fr.app N66 M67
  refine Run.back (g' := (mkF m 126 #[.val (.int p0), .val (.int p1), .val (.int p2), .val (.ref b1), .val (.ref b14), .val (.ref b32), .val (.ref b36), .unset, .unset, .unset] [(.int ((0 : Int32) &&& 1))])) st67 ?_
  refine Run.ifNo (pc' := 129) X67 hx (hb hby at_126) ((if0 _ _).trans (teq (by decide)).2) rfl ?_
  refine Run.aload (pc' := 131) X67 hx (hb hby at_129) rfl rfl ?_
  obtain ⟨T68, L68, v68, X68, Q68, st68⟩ := callVirtual X67 hx (y := (⟨"com/example/vez/vez/gateway/http/HeadEnd", "getEnd", "()I"⟩ : MethodName)) (z := (⟨"com/example/vez/vez/gateway/http/HeadEnd", "getEnd", "()I"⟩ : MethodName)) (C := "com/example/vez/vez/gateway/http/HeadEnd") (a := b32) (Ls := #[.val (.int p0), .val (.int p1), .val (.int p2), .val (.ref b1), .val (.ref b14), .val (.ref b32), .val (.ref b36), .unset, .unset, .unset]) (rest := []) (W := 0) (argsL := []) hZ hown (hw _ (List.mem_of_getElem? (i := 44) rfl)) (hw _ (List.mem_of_getElem? (i := 45) rfl)) (notFace_of_selects (args := #[]) (mvT hZ (hw _ (List.mem_of_getElem? (i := 47) rfl)))) (hw _ (List.mem_of_getElem? (i := 47) rfl)) (hw _ (List.mem_of_getElem? (i := 46) rfl)) (hw _ (List.mem_of_getElem? (i := 7) rfl)) (hw _ (List.mem_of_getElem? (i := 48) rfl)) (by decide) e67 E56 (rm_e l Z a0 hw [] b32 (p0) T56.heap n0 Z56 F56_scanned) (hb hby at_131) (lenOf own_pd4 rfl) (by decide) (by decide) (by rw [hml]; rfl) (Nat.le_of_eq rfl) (by decide) (by decide)
  obtain ⟨hv68, M68, e68⟩ := Q68
  rw [show (own_Fe b32 (p0)) = p0 from rfl] at hv68
  subst hv68
  have N68 := Fr.app N67 M68
  refine Run.back (g' := (mkF m 134 #[.val (.int p0), .val (.int p1), .val (.int p2), .val (.ref b1), .val (.ref b14), .val (.ref b32), .val (.ref b36), .unset, .unset, .unset] [(.int p0)])) st68 ?_
  refine Run.iloadN (pc' := 135) X68 hx (hb hby at_134) rfl rfl ?_
  refine Run.icmpNo (pc' := 138) X68 hx (hb hby at_135) (teq rfl).2 rfl ?_
  refine Run.iconst (pc' := 139) (v := (1 : Int32)) X68 hx (hb hby at_138) rfl rfl ?_
  refine Run.goto (pc' := 143) X68 hx (hb hby at_139) (by decide) (by decide) ?_
  refine Run.istore (pc' := 145) X68 hx (l' := #[.val (.int p0), .val (.int p1), .val (.int p2), .val (.ref b1), .val (.ref b14), .val (.ref b32), .val (.ref b36), .val (.int (1 : Int32)), .unset, .unset]) (hb hby at_143) rfl rfl ?_
  refine Run.aload (pc' := 147) X68 hx (hb hby at_145) rfl rfl ?_
  refine Run.aload (pc' := 149) X68 hx (hb hby at_147) rfl rfl ?_
  refine Run.iconst (pc' := 150) (v := (0 : Int32)) X68 hx (hb hby at_149) rfl rfl ?_
  refine Run.iconst (pc' := 151) (v := (4 : Int32)) X68 hx (hb hby at_150) rfl rfl ?_
  obtain ⟨T69, L69, v69, X69, Q69, st69⟩ := callVirtual X68 hx (y := (⟨"com/example/vez/vez/gateway/http/HeadEnd", "find", "([BII)Z"⟩ : MethodName)) (z := (⟨"com/example/vez/vez/gateway/http/HeadEnd", "find", "([BII)Z"⟩ : MethodName)) (C := "com/example/vez/vez/gateway/http/HeadEnd") (a := b32) (Ls := #[.val (.int p0), .val (.int p1), .val (.int p2), .val (.ref b1), .val (.ref b14), .val (.ref b32), .val (.ref b36), .val (.int (1 : Int32)), .unset, .unset]) (rest := []) (W := 0) (argsL := [(.ref b14), (.int (0 : Int32)), (.int (4 : Int32))]) hZ hown (hw _ (List.mem_of_getElem? (i := 14) rfl)) (hw _ (List.mem_of_getElem? (i := 15) rfl)) (notFace_of_selects (args := #[]) (mvT hZ (hw _ (List.mem_of_getElem? (i := 17) rfl)))) (hw _ (List.mem_of_getElem? (i := 17) rfl)) (hw _ (List.mem_of_getElem? (i := 16) rfl)) (hw _ (List.mem_of_getElem? (i := 7) rfl)) (hw _ (List.mem_of_getElem? (i := 18) rfl)) (by decide) e68 E56 (rm_f l Z a0 hw [] b32 b14 (0 : Int32) (4 : Int32) (p0) ((0 : Int32)) ((0 : Int32)) ((0 : Int32)) ((0 : Int32)) 4 (4 : Int32) f30 T56.heap n0 Z56 E56 F56_scanned F56_lineLength F56_cr F56_begun F56_whole G32 fq58 ne_b14_b32 (by decide) (by decide) (by decide)) (hb hby at_151) (lenOf own_pd2 rfl) (by decide) (by decide) (by rw [hml]; rfl) (Nat.le_of_eq rfl) (by decide) (by decide)
  obtain ⟨rfl, M69, K69, E69, F69_scanned, F69_lineLength, F69_cr, F69_begun, F69_whole⟩ := Q69
  have N69 := Fr.app N68 M69
  have fq70 := Ints.keep fq57 K69 (ninS ne_b1_b32 nin0)
  have fq71 := Ints.keep fq58 K69 (ninS ne_b14_b32 nin0)
  have fq72 := Exa.keep E56 K69
  have fq73 := Exa.keep fq60 K69
  have fq74 := Fld.keep fq61 K69 (ninS (Ne.symm ne_b32_b36) nin0)
  have fq75 := Fld.keep fq62 K69 (ninS (Ne.symm ne_b32_b36) nin0)
  have fq76 := Fld.keep fq63 K69 (ninS (Ne.symm ne_b32_b36) nin0)
  have fq77 := Fld.keep fq64 K69 (ninS (Ne.symm ne_b32_b36) nin0)
  have fq78 := Fld.keep fq65 K69 (ninS (Ne.symm ne_b32_b36) nin0)
  have Z69 : n0 ≤ T69.heap.size := Nat.le_trans Z56 K69.1
  refine Run.back (g' := (mkF m 154 #[.val (.int p0), .val (.int p1), .val (.int p2), .val (.ref b1), .val (.ref b14), .val (.ref b32), .val (.ref b36), .val (.int (1 : Int32)), .unset, .unset] [(.int ((own_go 4 f30 (0 : Int32) (p0, (0 : Int32), (0 : Int32), (0 : Int32), (0 : Int32))).2.2.2.2 &&& 1))])) st69 ?_
  refine Run.istore (pc' := 156) X69 hx (l' := #[.val (.int p0), .val (.int p1), .val (.int p2), .val (.ref b1), .val (.ref b14), .val (.ref b32), .val (.ref b36), .val (.int (1 : Int32)), .val (.int ((own_go 4 f30 (0 : Int32) (p0, (0 : Int32), (0 : Int32), (0 : Int32), (0 : Int32))).2.2.2.2 &&& 1)), .unset]) (hb hby at_154) rfl rfl ?_
  refine Run.aload (pc' := 158) X69 hx (hb hby at_156) rfl rfl ?_
  refine Run.aload (pc' := 160) X69 hx (hb hby at_158) rfl rfl ?_
  refine Run.iconst (pc' := 161) (v := (0 : Int32)) X69 hx (hb hby at_160) rfl rfl ?_
  refine Run.iconst (pc' := 162) (v := (4 : Int32)) X69 hx (hb hby at_161) rfl rfl ?_
  obtain ⟨T79, L79, v79, X79, Q79, st79⟩ := callVirtual X69 hx (y := (⟨"com/example/vez/vez/gateway/http/HeadEnd", "find", "([BII)Z"⟩ : MethodName)) (z := (⟨"com/example/vez/vez/gateway/http/HeadEnd", "find", "([BII)Z"⟩ : MethodName)) (C := "com/example/vez/vez/gateway/http/HeadEnd") (a := b36) (Ls := #[.val (.int p0), .val (.int p1), .val (.int p2), .val (.ref b1), .val (.ref b14), .val (.ref b32), .val (.ref b36), .val (.int (1 : Int32)), .val (.int ((own_go 4 f30 (0 : Int32) (p0, (0 : Int32), (0 : Int32), (0 : Int32), (0 : Int32))).2.2.2.2 &&& 1)), .unset]) (rest := []) (W := 0) (argsL := [(.ref b14), (.int (0 : Int32)), (.int (4 : Int32))]) hZ hown (hw _ (List.mem_of_getElem? (i := 14) rfl)) (hw _ (List.mem_of_getElem? (i := 15) rfl)) (notFace_of_selects (args := #[]) (mvT hZ (hw _ (List.mem_of_getElem? (i := 17) rfl)))) (hw _ (List.mem_of_getElem? (i := 17) rfl)) (hw _ (List.mem_of_getElem? (i := 16) rfl)) (hw _ (List.mem_of_getElem? (i := 7) rfl)) (hw _ (List.mem_of_getElem? (i := 18) rfl)) (by decide) rfl fq73 (rm_f l Z a0 hw [] b36 b14 (0 : Int32) (4 : Int32) ((0 : Int32)) ((0 : Int32)) ((0 : Int32)) ((0 : Int32)) ((0 : Int32)) 4 (4 : Int32) f30 T69.heap n0 Z69 fq73 fq75 fq76 fq77 fq78 fq74 G36 fq71 ne_b14_b36 (by decide) (by decide) (by decide)) (hb hby at_162) (lenOf own_pd2 rfl) (by decide) (by decide) (by rw [hml]; rfl) (Nat.le_of_eq rfl) (by decide) (by decide)
  obtain ⟨rfl, M79, K79, E79, F79_scanned, F79_lineLength, F79_cr, F79_begun, F79_whole⟩ := Q79
  have N79 := Fr.app N69 M79
  have fq80 := Ints.keep fq70 K79 (ninS ne_b1_b36 nin0)
  have fq81 := Ints.keep fq71 K79 (ninS ne_b14_b36 nin0)
  have fq82 := Exa.keep E69 K79
  have fq83 := Fld.keep F69_whole K79 (ninS ne_b32_b36 nin0)
  have fq84 := Fld.keep F69_scanned K79 (ninS ne_b32_b36 nin0)
  have fq85 := Fld.keep F69_lineLength K79 (ninS ne_b32_b36 nin0)
  have fq86 := Fld.keep F69_cr K79 (ninS ne_b32_b36 nin0)
  have fq87 := Fld.keep F69_begun K79 (ninS ne_b32_b36 nin0)
  have fq88 := Exa.keep fq73 K79
  have Z79 : n0 ≤ T79.heap.size := Nat.le_trans Z69 K79.1
  refine Run.back (g' := (mkF m 165 #[.val (.int p0), .val (.int p1), .val (.int p2), .val (.ref b1), .val (.ref b14), .val (.ref b32), .val (.ref b36), .val (.int (1 : Int32)), .val (.int ((own_go 4 f30 (0 : Int32) (p0, (0 : Int32), (0 : Int32), (0 : Int32), (0 : Int32))).2.2.2.2 &&& 1)), .unset] [(.int ((own_go 4 f30 (0 : Int32) ((0 : Int32), (0 : Int32), (0 : Int32), (0 : Int32), (0 : Int32))).2.2.2.2 &&& 1))])) st79 ?_
  refine Run.istore (pc' := 167) X79 hx (l' := #[.val (.int p0), .val (.int p1), .val (.int p2), .val (.ref b1), .val (.ref b14), .val (.ref b32), .val (.ref b36), .val (.int (1 : Int32)), .val (.int ((own_go 4 f30 (0 : Int32) (p0, (0 : Int32), (0 : Int32), (0 : Int32), (0 : Int32))).2.2.2.2 &&& 1)), .val (.int ((own_go 4 f30 (0 : Int32) ((0 : Int32), (0 : Int32), (0 : Int32), (0 : Int32), (0 : Int32))).2.2.2.2 &&& 1))]) (hb hby at_165) rfl rfl ?_
  refine Run.iload (pc' := 169) X79 hx (hb hby at_167) rfl rfl ?_
  refine Run.ifNo (pc' := 172) X79 hx (hb hby at_169) ((if0 _ _).trans (feq (by decide : ¬ ((1 : Int32) = (0 : Int32)))).1) rfl ?_
  refine Run.iload (pc' := 174) X79 hx (hb hby at_172) rfl rfl ?_
  refine Run.iload (pc' := 176) X79 hx (hb hby at_174) rfl rfl ?_
  refine Run.icmpNo (pc' := 179) X79 hx (hb hby at_176) (teq (own_eqw _ _ _)).2 rfl ?_
  refine Run.aload (pc' := 181) X79 hx (hb hby at_179) rfl rfl ?_
  obtain ⟨T89, L89, v89, X89, Q89, st89⟩ := callVirtual X79 hx (y := (⟨"com/example/vez/vez/gateway/http/HeadEnd", "getScanned", "()I"⟩ : MethodName)) (z := (⟨"com/example/vez/vez/gateway/http/HeadEnd", "getScanned", "()I"⟩ : MethodName)) (C := "com/example/vez/vez/gateway/http/HeadEnd") (a := b32) (Ls := #[.val (.int p0), .val (.int p1), .val (.int p2), .val (.ref b1), .val (.ref b14), .val (.ref b32), .val (.ref b36), .val (.int (1 : Int32)), .val (.int ((own_go 4 f30 (0 : Int32) (p0, (0 : Int32), (0 : Int32), (0 : Int32), (0 : Int32))).2.2.2.2 &&& 1)), .val (.int ((own_go 4 f30 (0 : Int32) ((0 : Int32), (0 : Int32), (0 : Int32), (0 : Int32), (0 : Int32))).2.2.2.2 &&& 1))]) (rest := []) (W := 0) (argsL := []) hZ hown (hw _ (List.mem_of_getElem? (i := 34) rfl)) (hw _ (List.mem_of_getElem? (i := 35) rfl)) (notFace_of_selects (args := #[]) (mvT hZ (hw _ (List.mem_of_getElem? (i := 37) rfl)))) (hw _ (List.mem_of_getElem? (i := 37) rfl)) (hw _ (List.mem_of_getElem? (i := 36) rfl)) (hw _ (List.mem_of_getElem? (i := 7) rfl)) (hw _ (List.mem_of_getElem? (i := 38) rfl)) (by decide) rfl fq82 (rm_s l Z a0 hw [] b32 ((own_go 4 f30 (0 : Int32) (p0, (0 : Int32), (0 : Int32), (0 : Int32), (0 : Int32))).1) T79.heap n0 Z79 fq84) (hb hby at_181) (lenOf own_pd4 rfl) (by decide) (by decide) (by rw [hml]; rfl) (Nat.le_of_eq rfl) (by decide) (by decide)
  obtain ⟨hv89, M89, e89⟩ := Q89
  rw [show (own_Fs b32 ((own_go 4 f30 (0 : Int32) (p0, (0 : Int32), (0 : Int32), (0 : Int32), (0 : Int32))).1)) = (own_go 4 f30 (0 : Int32) (p0, (0 : Int32), (0 : Int32), (0 : Int32), (0 : Int32))).1 from rfl] at hv89
  subst hv89
  have N89 := Fr.app N79 M89
  refine Run.back (g' := (mkF m 184 #[.val (.int p0), .val (.int p1), .val (.int p2), .val (.ref b1), .val (.ref b14), .val (.ref b32), .val (.ref b36), .val (.int (1 : Int32)), .val (.int ((own_go 4 f30 (0 : Int32) (p0, (0 : Int32), (0 : Int32), (0 : Int32), (0 : Int32))).2.2.2.2 &&& 1)), .val (.int ((own_go 4 f30 (0 : Int32) ((0 : Int32), (0 : Int32), (0 : Int32), (0 : Int32), (0 : Int32))).2.2.2.2 &&& 1))] [(.int (own_go 4 f30 (0 : Int32) (p0, (0 : Int32), (0 : Int32), (0 : Int32), (0 : Int32))).1)])) st89 ?_
  refine Run.iloadN (pc' := 185) X89 hx (hb hby at_184) rfl rfl ?_
  refine Run.isub (pc' := 186) X89 hx (hb hby at_185) rfl ?_
  refine Run.aload (pc' := 188) X89 hx (hb hby at_186) rfl rfl ?_
  obtain ⟨T90, L90, v90, X90, Q90, st90⟩ := callVirtual X89 hx (y := (⟨"com/example/vez/vez/gateway/http/HeadEnd", "getScanned", "()I"⟩ : MethodName)) (z := (⟨"com/example/vez/vez/gateway/http/HeadEnd", "getScanned", "()I"⟩ : MethodName)) (C := "com/example/vez/vez/gateway/http/HeadEnd") (a := b36) (Ls := #[.val (.int p0), .val (.int p1), .val (.int p2), .val (.ref b1), .val (.ref b14), .val (.ref b32), .val (.ref b36), .val (.int (1 : Int32)), .val (.int ((own_go 4 f30 (0 : Int32) (p0, (0 : Int32), (0 : Int32), (0 : Int32), (0 : Int32))).2.2.2.2 &&& 1)), .val (.int ((own_go 4 f30 (0 : Int32) ((0 : Int32), (0 : Int32), (0 : Int32), (0 : Int32), (0 : Int32))).2.2.2.2 &&& 1))]) (rest := [(.int ((own_go 4 f30 (0 : Int32) (p0, (0 : Int32), (0 : Int32), (0 : Int32), (0 : Int32))).1 - p0))]) (W := 1) (argsL := []) hZ hown (hw _ (List.mem_of_getElem? (i := 34) rfl)) (hw _ (List.mem_of_getElem? (i := 35) rfl)) (notFace_of_selects (args := #[]) (mvT hZ (hw _ (List.mem_of_getElem? (i := 37) rfl)))) (hw _ (List.mem_of_getElem? (i := 37) rfl)) (hw _ (List.mem_of_getElem? (i := 36) rfl)) (hw _ (List.mem_of_getElem? (i := 7) rfl)) (hw _ (List.mem_of_getElem? (i := 38) rfl)) (by decide) e89 E79 (rm_s l Z a0 hw [] b36 ((own_go 4 f30 (0 : Int32) ((0 : Int32), (0 : Int32), (0 : Int32), (0 : Int32), (0 : Int32))).1) T79.heap n0 Z79 F79_scanned) (hb hby at_188) (lenOf own_pd4 rfl) (by decide) (by decide) (by rw [hml]; rfl) (Nat.le_of_eq rfl) (by decide) (by decide)
  obtain ⟨hv90, M90, e90⟩ := Q90
  rw [show (own_Fs b36 ((own_go 4 f30 (0 : Int32) ((0 : Int32), (0 : Int32), (0 : Int32), (0 : Int32), (0 : Int32))).1)) = (own_go 4 f30 (0 : Int32) ((0 : Int32), (0 : Int32), (0 : Int32), (0 : Int32), (0 : Int32))).1 from rfl] at hv90
  subst hv90
  have N90 := Fr.app N89 M90
  refine Run.back (g' := (mkF m 191 #[.val (.int p0), .val (.int p1), .val (.int p2), .val (.ref b1), .val (.ref b14), .val (.ref b32), .val (.ref b36), .val (.int (1 : Int32)), .val (.int ((own_go 4 f30 (0 : Int32) (p0, (0 : Int32), (0 : Int32), (0 : Int32), (0 : Int32))).2.2.2.2 &&& 1)), .val (.int ((own_go 4 f30 (0 : Int32) ((0 : Int32), (0 : Int32), (0 : Int32), (0 : Int32), (0 : Int32))).2.2.2.2 &&& 1))] [(.int (own_go 4 f30 (0 : Int32) ((0 : Int32), (0 : Int32), (0 : Int32), (0 : Int32), (0 : Int32))).1), (.int ((own_go 4 f30 (0 : Int32) (p0, (0 : Int32), (0 : Int32), (0 : Int32), (0 : Int32))).1 - p0))])) st90 ?_
  refine Run.icmpNo (pc' := 194) X90 hx (hb hby at_191) (teq (own_eqs _ _ _)).2 rfl ?_
  refine Run.iconst (pc' := 195) (v := (1 : Int32)) X90 hx (hb hby at_194) rfl rfl ?_
  refine Run.goto (pc' := 199) X90 hx (hb hby at_195) (by decide) (by decide) ?_
  exact Run.retSmall X90 hx (t := .boolean) (z' := (1 : Int32)) Bd.notSynchronized Bd.returns (by simp) rfl (hb hby at_199) ⟨rfl, N90⟩ (by decide) (by decide)
set_option maxRecDepth 65536 in
set_option maxHeartbeats 40000000 in
theorem comes_1 {Post : Tables → Env → Array Value → State → Outcome → State → Prop} (hpost : ∀ tb e args s v u, (limb_1_1.after args s (.returned v) u = true ∧ limb_1_2.after args s (.returned v) u = true ∧ True) → FrameEnd s (.returned v) u (Jvm.fieldLocs frame_1_writes args s ++ Jvm.arrayLocs frame_1_arrays args s ++ Jvm.staticLocs frame_1_statics s) 16 128 → Post tb e args s (.returned v) u) :
    ArmFor flags0 classFile x code maxLocals ret World_1 tables_1 room_1 Calls_1 rest_1 Pre_1 Post := by
  intro l hfl _ _ p e ha hc hk s m args below hf hA hF happ hP
  obtain ⟨hcalls, hrest, hpre⟩ := hP
  obtain ⟨-, -, -, hnamed, -, -, -, hat⟩ := (Spec.applies_iff hf).mp happ
  obtain ⟨hg, hn⟩ := and_e (Cond.before_iff.mp (show (Jvm.Cond.and given_1 narrow_1).before args s = true from hpre))
  obtain ⟨hcount, hg0⟩ := and_e hg
  obtain ⟨ha0, hg1⟩ := and_e hg0
  obtain ⟨ha1, hg2⟩ := and_e hg1
  obtain ⟨w0, w1, w2, rfl⟩ : ∃ w0 w1 w2 : Value, args = #[w0, w1, w2] := by
    have hs : args.size = 3 := by simpa [Cond.value, given_1] using hcount
    obtain ⟨L⟩ := args
    match L, hs with
    | [w0, w1, w2], _ => exact ⟨w0, w1, w2, rfl⟩
  have hw := fun d (hd : d ∈ tables_1) => atoms_spec (ws := Jvm.Cond.code x code maxLocals ret :: tables_1) hat d (List.mem_cons_of_mem _ hd)
  have hfit : Fit s := fun {y c} hc i hi => by
    obtain ⟨ha, rfl⟩ := Array.getElem?_eq_some_iff.mp hc
    have q := List.all_eq_true.mp ((Array.all_eq_true_iff_forall_mem.mp hF) _ (Array.getElem_mem ha)) i (List.mem_range.mpr hi)
    simpa [Array.getElem?_eq_getElem hi] using q
  obtain ⟨i0, ei0⟩ := is_v ha0
  obtain rfl : w0 = (.int i0) := Option.some.inj ei0
  obtain ⟨i1, ei1⟩ := is_v ha1
  obtain rfl : w1 = (.int i1) := Option.some.inj ei1
  obtain ⟨i2, ei2⟩ := is_v hg2
  obtain rfl : w2 = (.int i2) := Option.some.inj ei2
  obtain ⟨n, o, h1, h2, h3, _, L, rfl, ⟨rfl, N⟩, hq⟩ := rm0 l s _ hw tables_1 i0 i1 i2 s.heap s.heap.size (Nat.le_refl _) p e ha hc hk s m _ below hf ((Spec.applies_iff_loose hf).mp happ).1 ⟨rfl, State.Warmed39.refl s, rfl⟩ trivial
  refine ⟨n, _, h1, h2, h3, hpost _ _ _ _ _ _ ⟨Cond.after_iff.mpr rfl, Cond.after_iff.mpr (eq_i res_at (Term.int_eval (1)) rfl), trivial⟩ ⟨hq.1, hq.2.1, (hq.2.2.sift fun y hy => Or.inr (N y hy)).mono (by decide) (by decide)⟩⟩
theorem main_1_1 : Claimed_1_1 := comes_1 fun _ _ _ _ _ _ h hF => ⟨h.1, hF⟩
theorem main_1_2 : Claimed_1_2 := comes_1 fun _ _ _ _ _ _ h hF => ⟨h.2.1, hF⟩
end Jvm.Pilot.@@N@@
namespace Jvm.Pilot.@@N@@
open Jvm Jvm.ClassFile Sem Op Lib Jvm.Free Jvm.Stand Jvm.Pilot.@@N@@.Jvm.D
/-! MADE BY PROGRAM (witnessworld.py) out of the Statement's table words and the real class files: 9 classes; the members and pool entries that the words name. The judged class is class 1, her method 2. -/
namespace start1
open Jvm.ClassFile
def u (s : String) : CpInfo := .utf8 (stringToUtf16 s)
/-- a pool by its gaps: so many unusable entries, then the entry; so many at the end -/
def gap : Nat → List CpInfo → List CpInfo
  | 0, r => r
  | n + 1, r => .unusable :: gap n r
def poolList (es : List (Nat × CpInfo)) (last : Nat) : List CpInfo := es.foldr (fun e r => gap e.1 (e.2 :: r)) (gap last [])
def pool (es : List (Nat × CpInfo)) (last : Nat) : Array CpInfo := ⟨poolList es last⟩
def fileOf (pool : Array CpInfo) (this : Nat) (attrs : Array Attribute := #[]) (ms : Array MethodInfo := #[]) (fl : Nat := 33) (sup : Nat := 0) (ifs : Array Nat := #[]) (fds : Array FieldInfo := #[]) : ClassFile where
  minorVersion := 0
  majorVersion := 65
  constantPool := pool
  accessFlags := fl
  thisClass := this
  superClass := sup
  interfaces := ifs
  fields := fds
  methods := ms
  attributes := attrs
def plain (name : String) (sup : Option ClassId) : Class where
  name := name
  kind := .ordinary
  loader := none
  accessFlags := 33
  super := sup
  interfaces := #[]
  cf := none
  fields := #[]
  methods := #[]
  instanceTypes := #[]
  staticTypes := #[]
  resolved := #[]
  callSites := []
  init := .initialized
  statics := none
  mirror := none

def pool0 : Array CpInfo := pool [(5, u "<init>"), (0, u "()V"), (1, .class_ 10), (1, u "java/lang/Object")] 113

def k0c0 : Code := { maxStack := 0, maxLocals := 1, code := object_method_1_code, exceptionTable := #[], attributes := #[] }
def k0m0 : Method := { name := "<init>", desc := "()V", sig := { parameters := [], returnType := none }, accessFlags := 1, code := some k0c0 }
/-- java/lang/Object -/
def k0 : Class := { plain "java/lang/Object" none with
  accessFlags := 33
  interfaces := #[]
  cf := some (fileOf pool0 8 #[] #[{ accessFlags := 1, nameIndex := 5, descriptorIndex := 6, attributes := #[] }] 33 0 #[] #[])
  fields := #[]
  methods := #[k0m0]
  instanceTypes := #[]
  staticTypes := #[]
  resolved := Array.replicate 124 none
  statics := none }

def pool1 : Array CpInfo := pool [(2, .class_ 4), (0, .nameAndType 5 6), (0, u "java/lang/Object"), (0, u "<init>"), (0, u "()V"), (0, .methodref 8 9), (0, .class_ 10), (0, .nameAndType 11 12), (0, u "com/example/vez/vez/gateway/http/HeadEndResetPinLaw"), (0, u "pick"), (0, u "(I)B"), (0, .class_ 14), (0, u "com/example/vez/vez/gateway/http/HeadEnd"), (0, .methodref 13 3), (0, .methodref 13 17), (0, .nameAndType 18 19), (0, u "find"), (0, u "([BII)Z"), (0, .methodref 13 21), (0, .nameAndType 22 23), (0, u "reset"), (0, u "(I)V"), (0, .methodref 13 25), (0, .nameAndType 26 27), (0, u "getScanned"), (0, u "()I"), (0, .methodref 13 29), (0, .nameAndType 30 31), (0, u "isWhole"), (0, u "()Z"), (0, .methodref 13 33), (0, .nameAndType 34 27), (0, u "getEnd"), (3, u "law"), (0, u "(III)Z")] 4

def k1m0 : Method := { name := "<init>", desc := "()V", sig := { parameters := [], returnType := none }, accessFlags := 1, code := none }
def k1c1 : Code := { maxStack := 2, maxLocals := 2, code := method_2_code, exceptionTable := #[], attributes := #[] }
def k1m1 : Method := { name := "pick", desc := "(I)B", sig := { parameters := [.int], returnType := some .byte }, accessFlags := 10, code := some k1c1 }
def k1c2 : Code := { maxStack := 5, maxLocals := 10, code := code, exceptionTable := #[], attributes := #[] }
def k1m2 : Method := { name := "law", desc := "(III)Z", sig := { parameters := [.int, .int, .int], returnType := some .boolean }, accessFlags := 9, code := some k1c2 }
/-- com/example/vez/vez/gateway/http/HeadEndResetPinLaw -/
def k1 : Class := { plain "com/example/vez/vez/gateway/http/HeadEndResetPinLaw" (some 0) with
  accessFlags := 49
  interfaces := #[]
  cf := some (fileOf pool1 8 #[] #[{ accessFlags := 1, nameIndex := 5, descriptorIndex := 6, attributes := #[] }, { accessFlags := 10, nameIndex := 11, descriptorIndex := 12, attributes := #[] }, { accessFlags := 9, nameIndex := 38, descriptorIndex := 39, attributes := #[] }] 49 2 #[] #[])
  fields := #[]
  methods := #[k1m0, k1m1, k1m2]
  instanceTypes := #[]
  staticTypes := #[]
  resolved := Array.replicate 44 none
  statics := none }

def pool2 : Array CpInfo := pool [(1, .methodref 2 3), (0, .class_ 4), (0, .nameAndType 5 6), (0, u "java/lang/Object"), (0, u "<init>"), (0, u "()V"), (0, .fieldref 8 9), (0, .class_ 10), (0, .nameAndType 11 12), (0, u "com/example/vez/vez/gateway/http/HeadEnd"), (0, u "scanned"), (0, u "I"), (0, .fieldref 8 14), (0, .nameAndType 15 12), (0, u "lineLength"), (0, .fieldref 8 17), (0, .nameAndType 18 19), (0, u "cr"), (0, u "Z"), (0, .fieldref 8 21), (0, .nameAndType 22 19), (0, u "begun"), (0, .fieldref 8 24), (0, .nameAndType 25 19), (0, u "whole"), (0, u "MAX_HEAD"), (4, u "reset"), (0, u "(I)V"), (0, u "find"), (0, u "([BII)Z"), (3, u "getScanned"), (0, u "()I"), (0, u "isWhole"), (0, u "()Z"), (0, u "getEnd")] 2

def k2c0 : Code := { maxStack := 1, maxLocals := 1, code := prog_32_method_1_code, exceptionTable := #[], attributes := #[] }
def k2m0 : Method := { name := "<init>", desc := "()V", sig := { parameters := [], returnType := none }, accessFlags := 1, code := some k2c0 }
def k2c1 : Code := { maxStack := 2, maxLocals := 2, code := prog_32_method_2_code, exceptionTable := #[], attributes := #[] }
def k2m1 : Method := { name := "reset", desc := "(I)V", sig := { parameters := [.int], returnType := none }, accessFlags := 1, code := some k2c1 }
def k2c2 : Code := { maxStack := 3, maxLocals := 7, code := prog_32_method_3_code, exceptionTable := #[], attributes := #[] }
def k2m2 : Method := { name := "find", desc := "([BII)Z", sig := { parameters := [(.array .byte), .int, .int], returnType := some .boolean }, accessFlags := 1, code := some k2c2 }
def k2c3 : Code := { maxStack := 1, maxLocals := 1, code := prog_32_method_4_code, exceptionTable := #[], attributes := #[] }
def k2m3 : Method := { name := "getScanned", desc := "()I", sig := { parameters := [], returnType := some .int }, accessFlags := 1, code := some k2c3 }
def k2c4 : Code := { maxStack := 1, maxLocals := 1, code := prog_32_method_5_code, exceptionTable := #[], attributes := #[] }
def k2m4 : Method := { name := "isWhole", desc := "()Z", sig := { parameters := [], returnType := some .boolean }, accessFlags := 1, code := some k2c4 }
def k2c5 : Code := { maxStack := 1, maxLocals := 1, code := prog_32_method_6_code, exceptionTable := #[], attributes := #[] }
def k2m5 : Method := { name := "getEnd", desc := "()I", sig := { parameters := [], returnType := some .int }, accessFlags := 1, code := some k2c5 }
/-- com/example/vez/vez/gateway/http/HeadEnd -/
def k2 : Class := { plain "com/example/vez/vez/gateway/http/HeadEnd" (some 0) with
  accessFlags := 49
  interfaces := #[]
  cf := some (fileOf pool2 8 #[] #[{ accessFlags := 1, nameIndex := 5, descriptorIndex := 6, attributes := #[] }, { accessFlags := 1, nameIndex := 31, descriptorIndex := 32, attributes := #[] }, { accessFlags := 1, nameIndex := 33, descriptorIndex := 34, attributes := #[] }, { accessFlags := 1, nameIndex := 38, descriptorIndex := 39, attributes := #[] }, { accessFlags := 1, nameIndex := 40, descriptorIndex := 41, attributes := #[] }, { accessFlags := 1, nameIndex := 42, descriptorIndex := 39, attributes := #[] }] 49 2 #[] #[{ accessFlags := 25, nameIndex := 26, descriptorIndex := 12, attributes := #[] }, { accessFlags := 2, nameIndex := 11, descriptorIndex := 12, attributes := #[] }, { accessFlags := 2, nameIndex := 15, descriptorIndex := 12, attributes := #[] }, { accessFlags := 2, nameIndex := 18, descriptorIndex := 19, attributes := #[] }, { accessFlags := 2, nameIndex := 22, descriptorIndex := 19, attributes := #[] }, { accessFlags := 2, nameIndex := 25, descriptorIndex := 19, attributes := #[] }])
  fields := #[{ name := "MAX_HEAD", type := .int, accessFlags := 25, slot := 0, constantValue := 0 }, { name := "scanned", type := .int, accessFlags := 2, slot := 0, constantValue := 0 }, { name := "lineLength", type := .int, accessFlags := 2, slot := 1, constantValue := 0 }, { name := "cr", type := .boolean, accessFlags := 2, slot := 2, constantValue := 0 }, { name := "begun", type := .boolean, accessFlags := 2, slot := 3, constantValue := 0 }, { name := "whole", type := .boolean, accessFlags := 2, slot := 4, constantValue := 0 }]
  methods := #[k2m0, k2m1, k2m2, k2m3, k2m4, k2m5]
  instanceTypes := #[.int, .int, .boolean, .boolean, .boolean]
  staticTypes := #[.int]
  resolved := Array.replicate 45 none
  statics := none }

def pool3 : Array CpInfo := pool [(1, u "java/lang/Cloneable"), (0, .class_ 1), (0, u "java/lang/Object"), (0, .class_ 3)] 3

/-- java/lang/Cloneable -/
def k3 : Class := { plain "java/lang/Cloneable" (some 0) with
  accessFlags := 1537
  interfaces := #[]
  cf := some (fileOf pool3 2 #[] #[] 1537 4 #[] #[])
  fields := #[]
  methods := #[]
  instanceTypes := #[]
  staticTypes := #[]
  resolved := Array.replicate 8 none
  statics := none }

def pool4 : Array CpInfo := pool [(1, u "java/io/Serializable"), (0, .class_ 1), (0, u "java/lang/Object"), (0, .class_ 3)] 3

/-- java/io/Serializable -/
def k4 : Class := { plain "java/io/Serializable" (some 0) with
  accessFlags := 1537
  interfaces := #[]
  cf := some (fileOf pool4 2 #[] #[] 1537 4 #[] #[])
  fields := #[]
  methods := #[]
  instanceTypes := #[]
  staticTypes := #[]
  resolved := Array.replicate 8 none
  statics := none }

/-- the primitive byte -/
def k5 : Class := { plain "byte" none with kind := .primitive 'B', accessFlags := 0x411 }
/-- [B -/
def k6 : Class := { plain "[B" (some 0) with kind := .array 5 .byte, interfaces := #[3, 4], accessFlags := 1041 }

/-- the primitive int -/
def k7 : Class := { plain "int" none with kind := .primitive 'I', accessFlags := 0x411 }
/-- [I -/
def k8 : Class := { plain "[I" (some 0) with kind := .array 7 .int, interfaces := #[3, 4], accessFlags := 1041 }

def heap : Heap := #[]
def classes : Array Class := #[k0, k1, k2, k3, k4, k5, k6, k7, k8]
def interned : List (Array UInt16 × Addr) := []
def slotsUsed : Nat := 0
def theMethod : MethodId := ⟨1, 2⟩
def args0 : Array Value := #[.int 97, .int 3, .int 5]
def aboutOver (below : List Frame) : State where
  vm := { classes := classes, interned := interned.toArray }
  heap := heap
  slotsUsed := slotsUsed
  threads := #[{ frames := .invoking theMethod args0 :: below }]
def below0 : List Frame := [.native { method := ⟨0, 0⟩, args := #[] }]
def about1 : State := aboutOver below0
def p0 : Program := .bare "" "" ""
def e0 : Env := launch0.env 0 0 0
theorem w_frames : about1.frames = Frame.invoking theMethod args0 :: below0 := rfl
set_option maxRecDepth 65536 in
theorem w_args : argsFit about1.vm theMethod args0 = true := by decide +kernel
set_option maxRecDepth 65536 in
theorem w_heap : heapFits about1 = true := by decide +kernel
set_option maxRecDepth 65536 in
theorem w_runnable : about1.curStatus? = some .runnable := by decide +kernel
set_option maxRecDepth 65536 in
theorem w_alone : about1.alone = true := by decide +kernel
set_option maxRecDepth 65536 in
theorem w_named : about1.methodNamed? x = some theMethod := by decide +kernel
set_option maxRecDepth 65536 in
theorem w_hears : about1.hears theMethod below0 = true := by decide +kernel
set_option maxRecDepth 65536 in
theorem w_ripe : about1.ripe theMethod args0 below0 = true := by decide +kernel
theorem w_running : about1.status = .running := rfl
set_option maxRecDepth 65536 in
theorem w_room : about1.hasRoom e0.platform room_1 = true :=
  launch0.hasRoom_least _ room_1 (by decide +kernel) (by decide +kernel) (by decide +kernel) (by decide +kernel) (by decide +kernel) (by decide +kernel)
theorem allAtoms_all (ts : List Jvm.Cond) (a : Array Jvm.Value) (st : Jvm.State) : (allAtoms ts).before a st = ts.all (fun c => c.before a st) := by
  induction ts with
  | nil => rfl
  | cons c t ih =>
    show (Jvm.Cond.and c (allAtoms t)).before a st = _
    rw [Jvm.Cond.before_and, ih, List.all_cons]
def words1 : List Jvm.Cond := Jvm.Cond.code x code maxLocals ret :: tables_1
/-- a 'code' word, met by the world's own term for the bytes: nothing is compared byte by byte -/
theorem code_word {y : MethodName} {bytes : ByteArray} {mx : Nat} {rt : Option FieldType} {a : Array Value} {s : State} {m : MethodId} {meth : Method} {c : Code} (h1 : s.methodNamed? y = some m) (h2 : s.vm.method? m = some meth) (h3 : meth.code = some c) (h4 : c.code = bytes)
    (h5 : (c.maxLocals == mx && c.exceptionTable.isEmpty && decide (c.maxStack ≤ mostOperands) && decide (meth.sig.returnType = rt) && !meth.locks && decide (parseMethodDescriptor y.desc = some meth.sig)) = true) : (Jvm.Cond.code y bytes mx rt).before a s = true := by
  simp only [Bool.and_eq_true, beq_iff_eq, Bool.not_eq_true', decide_eq_true_eq] at h5
  obtain ⟨⟨⟨⟨⟨g1, g2⟩, g3⟩, g4⟩, g5⟩, g6⟩ := h5
  simp [Cond.before, Cond.holds, Cond.value, h1, h2, h3, h4, g1, g2, g3, g4, g5, g6]
def isCode : Jvm.Cond → Bool
  | .code _ _ _ _ => true
  | _ => false
theorem all_split {L : List Jvm.Cond} {P : Jvm.Cond → Bool} (h1 : L.all (fun c => isCode c || P c) = true) (h2 : ∀ c ∈ L.filter isCode, P c = true) : L.all P = true := by
  refine List.all_eq_true.mpr fun c hc => ?_
  have h := List.all_eq_true.mp h1 c hc
  rcases Bool.eq_false_or_eq_true (isCode c) with hi | hi
  · exact h2 c (List.mem_filter.mpr ⟨hc, hi⟩)
  · simpa [hi] using h
set_option maxRecDepth 65536 in
theorem w_c0 : (Jvm.Cond.code x code maxLocals ret).before args0 about1 = true := code_word (m := ⟨1, 2⟩) (meth := k1m2) (c := k1c2) (by decide +kernel) rfl rfl rfl (by decide +kernel)
set_option maxRecDepth 65536 in
theorem w_c1 : (Jvm.Cond.code ({ cls := "com/example/vez/vez/gateway/http/HeadEndResetPinLaw", name := "pick", desc := "(I)B" } : Jvm.MethodName) method_2_code (2 : Nat) (Option.some Jvm.ClassFile.FieldType.byte)).before args0 about1 = true := code_word (m := ⟨1, 1⟩) (meth := k1m1) (c := k1c1) (by decide +kernel) rfl rfl rfl (by decide +kernel)
set_option maxRecDepth 65536 in
theorem w_c2 : (Jvm.Cond.code ({ cls := "com/example/vez/vez/gateway/http/HeadEnd", name := "<init>", desc := "()V" } : Jvm.MethodName) prog_32_method_1_code (1 : Nat) (Option.none : Option Jvm.ClassFile.FieldType)).before args0 about1 = true := code_word (m := ⟨2, 0⟩) (meth := k2m0) (c := k2c0) (by decide +kernel) rfl rfl rfl (by decide +kernel)
set_option maxRecDepth 65536 in
theorem w_c3 : (Jvm.Cond.code ({ cls := "java/lang/Object", name := "<init>", desc := "()V" } : Jvm.MethodName) object_method_1_code (1 : Nat) (Option.none : Option Jvm.ClassFile.FieldType)).before args0 about1 = true := code_word (m := ⟨0, 0⟩) (meth := k0m0) (c := k0c0) (by decide +kernel) rfl rfl rfl (by decide +kernel)
set_option maxRecDepth 65536 in
theorem w_c4 : (Jvm.Cond.code ({ cls := "com/example/vez/vez/gateway/http/HeadEnd", name := "find", desc := "([BII)Z" } : Jvm.MethodName) prog_32_method_3_code (7 : Nat) (Option.some Jvm.ClassFile.FieldType.boolean)).before args0 about1 = true := code_word (m := ⟨2, 2⟩) (meth := k2m2) (c := k2c2) (by decide +kernel) rfl rfl rfl (by decide +kernel)
set_option maxRecDepth 65536 in
theorem w_c5 : (Jvm.Cond.code ({ cls := "com/example/vez/vez/gateway/http/HeadEnd", name := "reset", desc := "(I)V" } : Jvm.MethodName) prog_32_method_2_code (2 : Nat) (Option.none : Option Jvm.ClassFile.FieldType)).before args0 about1 = true := code_word (m := ⟨2, 1⟩) (meth := k2m1) (c := k2c1) (by decide +kernel) rfl rfl rfl (by decide +kernel)
set_option maxRecDepth 65536 in
theorem w_c6 : (Jvm.Cond.code ({ cls := "com/example/vez/vez/gateway/http/HeadEnd", name := "getScanned", desc := "()I" } : Jvm.MethodName) prog_32_method_4_code (1 : Nat) (Option.some Jvm.ClassFile.FieldType.int)).before args0 about1 = true := code_word (m := ⟨2, 3⟩) (meth := k2m3) (c := k2c3) (by decide +kernel) rfl rfl rfl (by decide +kernel)
set_option maxRecDepth 65536 in
theorem w_c7 : (Jvm.Cond.code ({ cls := "com/example/vez/vez/gateway/http/HeadEnd", name := "isWhole", desc := "()Z" } : Jvm.MethodName) prog_32_method_5_code (1 : Nat) (Option.some Jvm.ClassFile.FieldType.boolean)).before args0 about1 = true := code_word (m := ⟨2, 4⟩) (meth := k2m4) (c := k2c4) (by decide +kernel) rfl rfl rfl (by decide +kernel)
set_option maxRecDepth 65536 in
theorem w_c8 : (Jvm.Cond.code ({ cls := "com/example/vez/vez/gateway/http/HeadEnd", name := "getEnd", desc := "()I" } : Jvm.MethodName) prog_32_method_6_code (1 : Nat) (Option.some Jvm.ClassFile.FieldType.int)).before args0 about1 = true := code_word (m := ⟨2, 5⟩) (meth := k2m5) (c := k2c5) (by decide +kernel) rfl rfl rfl (by decide +kernel)
def codes1 : List Jvm.Cond := [Jvm.Cond.code x code maxLocals ret, Jvm.Cond.code ({ cls := "com/example/vez/vez/gateway/http/HeadEndResetPinLaw", name := "pick", desc := "(I)B" } : Jvm.MethodName) method_2_code (2 : Nat) (Option.some Jvm.ClassFile.FieldType.byte), Jvm.Cond.code ({ cls := "com/example/vez/vez/gateway/http/HeadEnd", name := "<init>", desc := "()V" } : Jvm.MethodName) prog_32_method_1_code (1 : Nat) (Option.none : Option Jvm.ClassFile.FieldType), Jvm.Cond.code ({ cls := "java/lang/Object", name := "<init>", desc := "()V" } : Jvm.MethodName) object_method_1_code (1 : Nat) (Option.none : Option Jvm.ClassFile.FieldType), Jvm.Cond.code ({ cls := "com/example/vez/vez/gateway/http/HeadEnd", name := "find", desc := "([BII)Z" } : Jvm.MethodName) prog_32_method_3_code (7 : Nat) (Option.some Jvm.ClassFile.FieldType.boolean), Jvm.Cond.code ({ cls := "com/example/vez/vez/gateway/http/HeadEnd", name := "reset", desc := "(I)V" } : Jvm.MethodName) prog_32_method_2_code (2 : Nat) (Option.none : Option Jvm.ClassFile.FieldType), Jvm.Cond.code ({ cls := "com/example/vez/vez/gateway/http/HeadEnd", name := "getScanned", desc := "()I" } : Jvm.MethodName) prog_32_method_4_code (1 : Nat) (Option.some Jvm.ClassFile.FieldType.int), Jvm.Cond.code ({ cls := "com/example/vez/vez/gateway/http/HeadEnd", name := "isWhole", desc := "()Z" } : Jvm.MethodName) prog_32_method_5_code (1 : Nat) (Option.some Jvm.ClassFile.FieldType.boolean), Jvm.Cond.code ({ cls := "com/example/vez/vez/gateway/http/HeadEnd", name := "getEnd", desc := "()I" } : Jvm.MethodName) prog_32_method_6_code (1 : Nat) (Option.some Jvm.ClassFile.FieldType.int)]
set_option maxRecDepth 65536 in
theorem codes_eq : words1.filter isCode = codes1 := rfl
theorem w_codes : ∀ c ∈ words1.filter isCode, c.before args0 about1 = true := by
  rw [codes_eq]
  intro c hc
  simp only [codes1, List.mem_cons, List.not_mem_nil, or_false] at hc
  rcases hc with rfl | rfl | rfl | rfl | rfl | rfl | rfl | rfl | rfl
  · exact w_c0
  · exact w_c1
  · exact w_c2
  · exact w_c3
  · exact w_c4
  · exact w_c5
  · exact w_c6
  · exact w_c7
  · exact w_c8
set_option maxRecDepth 65536 in
theorem w_t1 : (words1.take 24).all (fun c => isCode c || c.before args0 about1) = true := by decide +kernel
set_option maxRecDepth 65536 in
theorem w_t2 : ((words1.drop 24).take 24).all (fun c => isCode c || c.before args0 about1) = true := by decide +kernel
set_option maxRecDepth 65536 in
theorem w_t3 : ((words1.drop 24).drop 24).all (fun c => isCode c || c.before args0 about1) = true := by decide +kernel
theorem w_tables : (allAtoms (Jvm.Cond.code x code maxLocals ret :: tables_1)).before args0 about1 = true := by
  rw [allAtoms_all]
  show words1.all (fun c => c.before args0 about1) = true
  refine all_split ?_ w_codes
  rw [← List.take_append_drop 24 words1, List.all_append, w_t1, ← List.take_append_drop 24 (words1.drop 24), List.all_append, w_t2, w_t3]
  rfl
set_option maxRecDepth 65536 in
theorem w_case : (Jvm.Cond.and given_1 narrow_1).before args0 about1 = true := by decide +kernel
theorem w_applies : (headSpec (Jvm.Cond.code x code maxLocals ret :: tables_1) room_1).applies x e0.platform about1 = true :=
  (Spec.applies_iff w_frames).mpr ⟨w_running, w_runnable, w_alone, w_named, w_hears, w_ripe, w_room, w_tables⟩
theorem atStart : AtStart classFile x code maxLocals ret World_1 tables_1 room_1 Calls_1 rest_1 Pre_1 launch0 p0 e0 about1 theMethod args0 below0 :=
  ⟨lists_1, trivial, launch0.admits_env _ _ _, launch0.least_env, fairChoices_fair.cas, fairChoices_fair.clock, w_frames, w_args, w_heap, w_applies, trivial, trivial, w_case⟩
end start1
theorem witness_1 : WitnessClaimed_1 := ⟨start1.p0, start1.e0, start1.about1, start1.theMethod, start1.args0, start1.below0, start1.atStart⟩
end Jvm.Pilot.@@N@@
