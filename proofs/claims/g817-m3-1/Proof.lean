import JvmDerived
import JvmDerived.Pilot.@@N@@Statement
import JvmDerived.Pilot.@@N@@Code
set_option linter.unusedVariables false
set_option linter.unusedSimpArgs false
namespace Jvm.OwnRun
open Sem ClassFile Op Lib Jvm.Stand Jvm.Free Jvm.LawKit Jvm.RoadKit
/-- from T with the top frame g the method's run ends as Φ says -/
def Run (tb : Tables) (e : Env) (below : List Frame) (Φ : Outcome → State → Prop) (T : State) (g : JFrame) : Prop := ∃ s₂ o, Steps tb e below (T.setTop g) s₂ ∧ s₂.status = .running ∧ Ended s₂ below o ∧ Φ o s₂
/-- what a contract asks of the end -/
def FinR (s : State) (K N : Nat) (Q : Option Value → Heap → List Loc → Prop) : Outcome → State → Prop := fun o u => ∃ v L, o = .returned v ∧ Q v u.heap L ∧ FrameEnd s o u L K N
/-- a contract's word on its end, kept in one piece -/
abbrev Say (Q : Option Value → Heap → List Loc → Prop) (v : Option Value) (h : Heap) (L : List Loc) : Prop := Q v h L
section Steps
variable {p : Program} {l : Launch} {e : Env} {R : Room} {s : State} {m : MethodId} {args : Array Value} {below : List Frame} {meth : Method} {c : Code} {T : State} {locs : List Loc} {cells slots : Nat} {Φ : Outcome → State → Prop} {pc pc' : Nat} {Ls : Array Slot} {rest : List Value}
theorem Run.back {tb : Tables} {T' : State} {g g' : JFrame} (h : ∀ t, Steps tb e below (T'.setTop g') t → Steps tb e below (T.setTop g) t) (k : Run tb e below Φ T' g') : Run tb e below Φ T g := by
  obtain ⟨s₂, o, h1, h2⟩ := k
  exact ⟨s₂, o, h _ h1, h2⟩
theorem Run.fwd {tb : Tables} {T' : State} {g g' : JFrame} (h : Steps tb e below (T.setTop g) (T'.setTop g')) (k : Run tb e below Φ T' g') : Run tb e below Φ T g := k.back fun _ kt => h.trans kt
theorem Run.iload (X : Stand p l e R s m args below meth c T locs cells slots) (hx : p.tables.exec = Jvm.exec) {k : Nat} {v : Int32} (hd : decode c.code pc = .ok (.iload k, 2)) (hl : Ls[k]? = some (.val (.int v))) (hp : pc + 2 = pc') (k : Run p.tables e below Φ T (mkF m pc' Ls (.int v :: rest))) : Run p.tables e below Φ T (mkF m pc Ls rest) := by
  subst hp
  exact k.back fun _ kt => XS.iload X.here hx rfl hd hl kt
theorem Run.iloadN (X : Stand p l e R s m args below meth c T locs cells slots) (hx : p.tables.exec = Jvm.exec) {k : Fin 4} {v : Int32} (hd : decode c.code pc = .ok (.iload_n k, 1)) (hl : Ls[k.val]? = some (.val (.int v))) (hp : pc + 1 = pc') (k : Run p.tables e below Φ T (mkF m pc' Ls (.int v :: rest))) : Run p.tables e below Φ T (mkF m pc Ls rest) := by
  subst hp
  exact k.back fun _ kt => XS.iloadN X.here hx rfl hd hl kt
theorem Run.istore (X : Stand p l e R s m args below meth c T locs cells slots) (hx : p.tables.exec = Jvm.exec) {k : Nat} {v : Int32} {l' : Array Slot} (hd : decode c.code pc = .ok (.istore k, 2)) (hl : storeLocals Ls k (.int v) = some l') (hp : pc + 2 = pc') (k : Run p.tables e below Φ T (mkF m pc' l' rest)) : Run p.tables e below Φ T (mkF m pc Ls (.int v :: rest)) := by
  subst hp
  exact k.back fun _ kt => XS.istore X.here hx rfl hd rfl hl kt
theorem Run.istoreN (X : Stand p l e R s m args below meth c T locs cells slots) (hx : p.tables.exec = Jvm.exec) {k : Fin 4} {v : Int32} {l' : Array Slot} (hd : decode c.code pc = .ok (.istore_n k, 1)) (hl : storeLocals Ls k.val (.int v) = some l') (hp : pc + 1 = pc') (k : Run p.tables e below Φ T (mkF m pc' l' rest)) : Run p.tables e below Φ T (mkF m pc Ls (.int v :: rest)) := by
  subst hp
  exact k.back fun _ kt => XS.istoreN X.here hx rfl hd rfl hl kt
theorem Run.lload (X : Stand p l e R s m args below meth c T locs cells slots) (hx : p.tables.exec = Jvm.exec) {k : Nat} {v : Int64} (hd : decode c.code pc = .ok (.lload k, 2)) (hl : Ls[k]? = some (.val (.long v))) (hp : pc + 2 = pc') (k : Run p.tables e below Φ T (mkF m pc' Ls (.long v :: rest))) : Run p.tables e below Φ T (mkF m pc Ls rest) := by
  subst hp
  exact k.back fun _ kt => XS.lload X.here hx rfl hd hl kt
theorem Run.lloadN (X : Stand p l e R s m args below meth c T locs cells slots) (hx : p.tables.exec = Jvm.exec) {k : Fin 4} {v : Int64} (hd : decode c.code pc = .ok (.lload_n k, 1)) (hl : Ls[k.val]? = some (.val (.long v))) (hp : pc + 1 = pc') (k : Run p.tables e below Φ T (mkF m pc' Ls (.long v :: rest))) : Run p.tables e below Φ T (mkF m pc Ls rest) := by
  subst hp
  exact k.back fun _ kt => XS.lloadN X.here hx rfl hd hl kt
theorem Run.lstore (X : Stand p l e R s m args below meth c T locs cells slots) (hx : p.tables.exec = Jvm.exec) {k : Nat} {v : Int64} {l' : Array Slot} (hd : decode c.code pc = .ok (.lstore k, 2)) (hl : storeLocals Ls k (.long v) = some l') (hp : pc + 2 = pc') (k : Run p.tables e below Φ T (mkF m pc' l' rest)) : Run p.tables e below Φ T (mkF m pc Ls (.long v :: rest)) := by
  subst hp
  exact k.back fun _ kt => XS.lstore X.here hx rfl hd rfl hl kt
theorem Run.lstoreN (X : Stand p l e R s m args below meth c T locs cells slots) (hx : p.tables.exec = Jvm.exec) {k : Fin 4} {v : Int64} {l' : Array Slot} (hd : decode c.code pc = .ok (.lstore_n k, 1)) (hl : storeLocals Ls k.val (.long v) = some l') (hp : pc + 1 = pc') (k : Run p.tables e below Φ T (mkF m pc' l' rest)) : Run p.tables e below Φ T (mkF m pc Ls (.long v :: rest)) := by
  subst hp
  exact k.back fun _ kt => XS.lstoreN X.here hx rfl hd rfl hl kt
theorem Run.aload (X : Stand p l e R s m args below meth c T locs cells slots) (hx : p.tables.exec = Jvm.exec) {k : Nat} {v : Addr} (hd : decode c.code pc = .ok (.aload k, 2)) (hl : Ls[k]? = some (.val (.ref v))) (hp : pc + 2 = pc') (k : Run p.tables e below Φ T (mkF m pc' Ls (.ref v :: rest))) : Run p.tables e below Φ T (mkF m pc Ls rest) := by
  subst hp
  exact k.back fun _ kt => XS.aload X.here hx rfl hd hl rfl kt
theorem Run.aloadN (X : Stand p l e R s m args below meth c T locs cells slots) (hx : p.tables.exec = Jvm.exec) {k : Fin 4} {v : Addr} (hd : decode c.code pc = .ok (.aload_n k, 1)) (hl : Ls[k.val]? = some (.val (.ref v))) (hp : pc + 1 = pc') (k : Run p.tables e below Φ T (mkF m pc' Ls (.ref v :: rest))) : Run p.tables e below Φ T (mkF m pc Ls rest) := by
  subst hp
  exact k.back fun _ kt => XS.aloadN X.here hx rfl hd hl rfl kt
theorem Run.astore (X : Stand p l e R s m args below meth c T locs cells slots) (hx : p.tables.exec = Jvm.exec) {k : Nat} {v : Addr} {l' : Array Slot} (hd : decode c.code pc = .ok (.astore k, 2)) (hl : storeLocals Ls k (.ref v) = some l') (hp : pc + 2 = pc') (k : Run p.tables e below Φ T (mkF m pc' l' rest)) : Run p.tables e below Φ T (mkF m pc Ls (.ref v :: rest)) := by
  subst hp
  exact k.back fun _ kt => XS.astore X.here hx rfl hd rfl rfl hl kt
theorem Run.astoreN (X : Stand p l e R s m args below meth c T locs cells slots) (hx : p.tables.exec = Jvm.exec) {k : Fin 4} {v : Addr} {l' : Array Slot} (hd : decode c.code pc = .ok (.astore_n k, 1)) (hl : storeLocals Ls k.val (.ref v) = some l') (hp : pc + 1 = pc') (k : Run p.tables e below Φ T (mkF m pc' l' rest)) : Run p.tables e below Φ T (mkF m pc Ls (.ref v :: rest)) := by
  subst hp
  exact k.back fun _ kt => XS.astoreN X.here hx rfl hd rfl rfl hl kt
theorem Run.iconst (X : Stand p l e R s m args below meth c T locs cells slots) (hx : p.tables.exec = Jvm.exec) {i : Int} {v : Int32} (hd : decode c.code pc = .ok (.iconst i, 1)) (hv : Int32.ofInt i = v) (hp : pc + 1 = pc') (k : Run p.tables e below Φ T (mkF m pc' Ls (.int v :: rest))) : Run p.tables e below Φ T (mkF m pc Ls rest) := by
  subst hp
  exact k.back fun _ kt => XS.iconst X.here hx rfl hd (by rw [hv]; exact kt)
theorem Run.bipush (X : Stand p l e R s m args below meth c T locs cells slots) (hx : p.tables.exec = Jvm.exec) {i : Int} {v : Int32} (hd : decode c.code pc = .ok (.bipush i, 2)) (hv : (Int8.ofInt i).toInt32 = v) (hp : pc + 2 = pc') (k : Run p.tables e below Φ T (mkF m pc' Ls (.int v :: rest))) : Run p.tables e below Φ T (mkF m pc Ls rest) := by
  subst hp
  exact k.back fun _ kt => XS.bipush X.here hx rfl hd (by rw [hv]; exact kt)
theorem Run.sipush (X : Stand p l e R s m args below meth c T locs cells slots) (hx : p.tables.exec = Jvm.exec) {i : Int} {v : Int32} (hd : decode c.code pc = .ok (.sipush i, 3)) (hv : (Int16.ofInt i).toInt32 = v) (hp : pc + 3 = pc') (k : Run p.tables e below Φ T (mkF m pc' Ls (.int v :: rest))) : Run p.tables e below Φ T (mkF m pc Ls rest) := by
  subst hp
  exact k.back fun _ kt => XS.sipush X.here hx rfl hd (by rw [hv]; exact kt)
theorem Run.lconst (X : Stand p l e R s m args below meth c T locs cells slots) (hx : p.tables.exec = Jvm.exec) {i : Fin 2} {v : Int64} (hd : decode c.code pc = .ok (.lconst i, 1)) (hv : Int64.ofNat i = v) (hp : pc + 1 = pc') (k : Run p.tables e below Φ T (mkF m pc' Ls (.long v :: rest))) : Run p.tables e below Φ T (mkF m pc Ls rest) := by
  subst hp
  exact k.back fun _ kt => XS.lconst X.here hx rfl hd (by first | (rw [hv]; exact kt) | (rw [← hv] at kt; exact kt))
theorem Run.aconstNull (X : Stand p l e R s m args below meth c T locs cells slots) (hx : p.tables.exec = Jvm.exec) (hd : decode c.code pc = .ok (.aconst_null, 1)) (hp : pc + 1 = pc') (k : Run p.tables e below Φ T (mkF m pc' Ls (.null :: rest))) : Run p.tables e below Φ T (mkF m pc Ls rest) := by
  subst hp
  exact k.back fun _ kt => XS.aconstNull X.here hx rfl hd kt
theorem Run.iadd (X : Stand p l e R s m args below meth c T locs cells slots) (hx : p.tables.exec = Jvm.exec) {x y : Int32} (hd : decode c.code pc = .ok (.iadd, 1)) (hp : pc + 1 = pc') (k : Run p.tables e below Φ T (mkF m pc' Ls (.int (x + y) :: rest))) : Run p.tables e below Φ T (mkF m pc Ls (.int y :: .int x :: rest)) := by
  subst hp
  exact k.back fun _ kt => XS.iadd X.here hx rfl hd rfl kt
theorem Run.isub (X : Stand p l e R s m args below meth c T locs cells slots) (hx : p.tables.exec = Jvm.exec) {x y : Int32} (hd : decode c.code pc = .ok (.isub, 1)) (hp : pc + 1 = pc') (k : Run p.tables e below Φ T (mkF m pc' Ls (.int (x - y) :: rest))) : Run p.tables e below Φ T (mkF m pc Ls (.int y :: .int x :: rest)) := by
  subst hp
  exact k.back fun _ kt => XS.isub X.here hx rfl hd rfl kt
theorem Run.imul (X : Stand p l e R s m args below meth c T locs cells slots) (hx : p.tables.exec = Jvm.exec) {x y : Int32} (hd : decode c.code pc = .ok (.imul, 1)) (hp : pc + 1 = pc') (k : Run p.tables e below Φ T (mkF m pc' Ls (.int (x * y) :: rest))) : Run p.tables e below Φ T (mkF m pc Ls (.int y :: .int x :: rest)) := by
  subst hp
  exact k.back fun _ kt => XS.imul X.here hx rfl hd rfl kt
theorem Run.iand (X : Stand p l e R s m args below meth c T locs cells slots) (hx : p.tables.exec = Jvm.exec) {x y : Int32} (hd : decode c.code pc = .ok (.iand, 1)) (hp : pc + 1 = pc') (k : Run p.tables e below Φ T (mkF m pc' Ls (.int (x &&& y) :: rest))) : Run p.tables e below Φ T (mkF m pc Ls (.int y :: .int x :: rest)) := by
  subst hp
  exact k.back fun _ kt => XS.iand X.here hx rfl hd rfl kt
theorem Run.ior (X : Stand p l e R s m args below meth c T locs cells slots) (hx : p.tables.exec = Jvm.exec) {x y : Int32} (hd : decode c.code pc = .ok (.ior, 1)) (hp : pc + 1 = pc') (k : Run p.tables e below Φ T (mkF m pc' Ls (.int (x ||| y) :: rest))) : Run p.tables e below Φ T (mkF m pc Ls (.int y :: .int x :: rest)) := by
  subst hp
  exact k.back fun _ kt => XS.ior X.here hx rfl hd rfl kt
theorem Run.ixor (X : Stand p l e R s m args below meth c T locs cells slots) (hx : p.tables.exec = Jvm.exec) {x y : Int32} (hd : decode c.code pc = .ok (.ixor, 1)) (hp : pc + 1 = pc') (k : Run p.tables e below Φ T (mkF m pc' Ls (.int (x ^^^ y) :: rest))) : Run p.tables e below Φ T (mkF m pc Ls (.int y :: .int x :: rest)) := by
  subst hp
  exact k.back fun _ kt => XS.ixor X.here hx rfl hd rfl kt
theorem Run.idiv (X : Stand p l e R s m args below meth c T locs cells slots) (hx : p.tables.exec = Jvm.exec) {x y : Int32} (hd : decode c.code pc = .ok (.idiv, 1)) (hy : y ≠ 0) (hp : pc + 1 = pc') (k : Run p.tables e below Φ T (mkF m pc' Ls (.int (x / y) :: rest))) : Run p.tables e below Φ T (mkF m pc Ls (.int y :: .int x :: rest)) := by
  subst hp
  exact k.back fun _ kt => XS.idiv X.here hx rfl hd rfl hy kt
theorem Run.ladd (X : Stand p l e R s m args below meth c T locs cells slots) (hx : p.tables.exec = Jvm.exec) {x y : Int64} (hd : decode c.code pc = .ok (.ladd, 1)) (hp : pc + 1 = pc') (k : Run p.tables e below Φ T (mkF m pc' Ls (.long (x + y) :: rest))) : Run p.tables e below Φ T (mkF m pc Ls (.long y :: .long x :: rest)) := by
  subst hp
  exact k.back fun _ kt => XS.ladd X.here hx rfl hd rfl kt
theorem Run.lsub (X : Stand p l e R s m args below meth c T locs cells slots) (hx : p.tables.exec = Jvm.exec) {x y : Int64} (hd : decode c.code pc = .ok (.lsub, 1)) (hp : pc + 1 = pc') (k : Run p.tables e below Φ T (mkF m pc' Ls (.long (x - y) :: rest))) : Run p.tables e below Φ T (mkF m pc Ls (.long y :: .long x :: rest)) := by
  subst hp
  exact k.back fun _ kt => XS.lsub X.here hx rfl hd rfl kt
theorem Run.lmul (X : Stand p l e R s m args below meth c T locs cells slots) (hx : p.tables.exec = Jvm.exec) {x y : Int64} (hd : decode c.code pc = .ok (.lmul, 1)) (hp : pc + 1 = pc') (k : Run p.tables e below Φ T (mkF m pc' Ls (.long (x * y) :: rest))) : Run p.tables e below Φ T (mkF m pc Ls (.long y :: .long x :: rest)) := by
  subst hp
  exact k.back fun _ kt => XS.lmul X.here hx rfl hd rfl kt
theorem Run.land (X : Stand p l e R s m args below meth c T locs cells slots) (hx : p.tables.exec = Jvm.exec) {x y : Int64} (hd : decode c.code pc = .ok (.land, 1)) (hp : pc + 1 = pc') (k : Run p.tables e below Φ T (mkF m pc' Ls (.long (x &&& y) :: rest))) : Run p.tables e below Φ T (mkF m pc Ls (.long y :: .long x :: rest)) := by
  subst hp
  exact k.back fun _ kt => XS.land X.here hx rfl hd rfl kt
theorem Run.lor (X : Stand p l e R s m args below meth c T locs cells slots) (hx : p.tables.exec = Jvm.exec) {x y : Int64} (hd : decode c.code pc = .ok (.lor, 1)) (hp : pc + 1 = pc') (k : Run p.tables e below Φ T (mkF m pc' Ls (.long (x ||| y) :: rest))) : Run p.tables e below Φ T (mkF m pc Ls (.long y :: .long x :: rest)) := by
  subst hp
  exact k.back fun _ kt => XS.lor X.here hx rfl hd rfl kt
theorem Run.lxor (X : Stand p l e R s m args below meth c T locs cells slots) (hx : p.tables.exec = Jvm.exec) {x y : Int64} (hd : decode c.code pc = .ok (.lxor, 1)) (hp : pc + 1 = pc') (k : Run p.tables e below Φ T (mkF m pc' Ls (.long (x ^^^ y) :: rest))) : Run p.tables e below Φ T (mkF m pc Ls (.long y :: .long x :: rest)) := by
  subst hp
  exact k.back fun _ kt => XS.lxor X.here hx rfl hd rfl kt
theorem Run.ldiv (X : Stand p l e R s m args below meth c T locs cells slots) (hx : p.tables.exec = Jvm.exec) {x y : Int64} (hd : decode c.code pc = .ok (.ldiv, 1)) (hy : y ≠ 0) (hp : pc + 1 = pc') (k : Run p.tables e below Φ T (mkF m pc' Ls (.long (x / y) :: rest))) : Run p.tables e below Φ T (mkF m pc Ls (.long y :: .long x :: rest)) := by
  subst hp
  exact k.back fun _ kt => XS.ldiv X.here hx rfl hd rfl hy kt
theorem Run.irem (X : Stand p l e R s m args below meth c T locs cells slots) (hx : p.tables.exec = Jvm.exec) {x y : Int32} (hd : decode c.code pc = .ok (.irem, 1)) (hy : y ≠ 0) (hp : pc + 1 = pc') (k : Run p.tables e below Φ T (mkF m pc' Ls (.int (x % y) :: rest))) : Run p.tables e below Φ T (mkF m pc Ls (.int y :: .int x :: rest)) := by
  subst hp
  exact k.back fun _ kt => iremM X hx rfl hd rfl hy kt
theorem Run.ishl (X : Stand p l e R s m args below meth c T locs cells slots) (hx : p.tables.exec = Jvm.exec) {x : Int32} {y : Int32} (hd : decode c.code pc = .ok (.ishl, 1)) (hp : pc + 1 = pc') (k : Run p.tables e below Φ T (mkF m pc' Ls (.int (x <<< (y &&& 31)) :: rest))) : Run p.tables e below Φ T (mkF m pc Ls (.int y :: .int x :: rest)) := by
  subst hp
  exact k.back fun _ kt => XS.ishl X.here hx rfl hd rfl kt
theorem Run.ishr (X : Stand p l e R s m args below meth c T locs cells slots) (hx : p.tables.exec = Jvm.exec) {x : Int32} {y : Int32} (hd : decode c.code pc = .ok (.ishr, 1)) (hp : pc + 1 = pc') (k : Run p.tables e below Φ T (mkF m pc' Ls (.int (x >>> (y &&& 31)) :: rest))) : Run p.tables e below Φ T (mkF m pc Ls (.int y :: .int x :: rest)) := by
  subst hp
  exact k.back fun _ kt => XS.ishr X.here hx rfl hd rfl kt
theorem Run.iushr (X : Stand p l e R s m args below meth c T locs cells slots) (hx : p.tables.exec = Jvm.exec) {x : Int32} {y : Int32} (hd : decode c.code pc = .ok (.iushr, 1)) (hp : pc + 1 = pc') (k : Run p.tables e below Φ T (mkF m pc' Ls (.int ((x.toUInt32 >>> (y &&& 31).toUInt32).toInt32) :: rest))) : Run p.tables e below Φ T (mkF m pc Ls (.int y :: .int x :: rest)) := by
  subst hp
  exact k.back fun _ kt => XS.iushr X.here hx rfl hd rfl kt
theorem Run.lshl (X : Stand p l e R s m args below meth c T locs cells slots) (hx : p.tables.exec = Jvm.exec) {x : Int64} {y : Int32} (hd : decode c.code pc = .ok (.lshl, 1)) (hp : pc + 1 = pc') (k : Run p.tables e below Φ T (mkF m pc' Ls (.long (x <<< (y &&& 0x3f).toInt64) :: rest))) : Run p.tables e below Φ T (mkF m pc Ls (.int y :: .long x :: rest)) := by
  subst hp
  exact k.back fun _ kt => XS.lshl X.here hx rfl hd rfl kt
theorem Run.lshr (X : Stand p l e R s m args below meth c T locs cells slots) (hx : p.tables.exec = Jvm.exec) {x : Int64} {y : Int32} (hd : decode c.code pc = .ok (.lshr, 1)) (hp : pc + 1 = pc') (k : Run p.tables e below Φ T (mkF m pc' Ls (.long (x >>> (y &&& 0x3f).toInt64) :: rest))) : Run p.tables e below Φ T (mkF m pc Ls (.int y :: .long x :: rest)) := by
  subst hp
  exact k.back fun _ kt => XS.lshr X.here hx rfl hd rfl kt
theorem Run.lushr (X : Stand p l e R s m args below meth c T locs cells slots) (hx : p.tables.exec = Jvm.exec) {x : Int64} {y : Int32} (hd : decode c.code pc = .ok (.lushr, 1)) (hp : pc + 1 = pc') (k : Run p.tables e below Φ T (mkF m pc' Ls (.long ((x.toUInt64 >>> (y &&& 0x3f).toInt64.toUInt64).toInt64) :: rest))) : Run p.tables e below Φ T (mkF m pc Ls (.int y :: .long x :: rest)) := by
  subst hp
  exact k.back fun _ kt => XS.lushr X.here hx rfl hd rfl kt
theorem Run.i2l (X : Stand p l e R s m args below meth c T locs cells slots) (hx : p.tables.exec = Jvm.exec) {x : Int32} (hd : decode c.code pc = .ok (.i2l, 1)) (hp : pc + 1 = pc') (k : Run p.tables e below Φ T (mkF m pc' Ls (.long (x.toInt64) :: rest))) : Run p.tables e below Φ T (mkF m pc Ls (.int x :: rest)) := by
  subst hp
  exact k.back fun _ kt => XS.i2l X.here hx rfl hd rfl kt
theorem Run.l2i (X : Stand p l e R s m args below meth c T locs cells slots) (hx : p.tables.exec = Jvm.exec) {x : Int64} (hd : decode c.code pc = .ok (.l2i, 1)) (hp : pc + 1 = pc') (k : Run p.tables e below Φ T (mkF m pc' Ls (.int (x.toInt32) :: rest))) : Run p.tables e below Φ T (mkF m pc Ls (.long x :: rest)) := by
  subst hp
  exact k.back fun _ kt => XS.l2i X.here hx rfl hd rfl kt
theorem Run.i2b (X : Stand p l e R s m args below meth c T locs cells slots) (hx : p.tables.exec = Jvm.exec) {x : Int32} (hd : decode c.code pc = .ok (.i2b, 1)) (hp : pc + 1 = pc') (k : Run p.tables e below Φ T (mkF m pc' Ls (.int (x.toInt8.toInt32) :: rest))) : Run p.tables e below Φ T (mkF m pc Ls (.int x :: rest)) := by
  subst hp
  exact k.back fun _ kt => XS.i2b X.here hx rfl hd rfl kt
theorem Run.i2s (X : Stand p l e R s m args below meth c T locs cells slots) (hx : p.tables.exec = Jvm.exec) {x : Int32} (hd : decode c.code pc = .ok (.i2s, 1)) (hp : pc + 1 = pc') (k : Run p.tables e below Φ T (mkF m pc' Ls (.int (x.toInt16.toInt32) :: rest))) : Run p.tables e below Φ T (mkF m pc Ls (.int x :: rest)) := by
  subst hp
  exact k.back fun _ kt => XS.i2s X.here hx rfl hd rfl kt
theorem Run.i2c (X : Stand p l e R s m args below meth c T locs cells slots) (hx : p.tables.exec = Jvm.exec) {x : Int32} (hd : decode c.code pc = .ok (.i2c, 1)) (hp : pc + 1 = pc') (k : Run p.tables e below Φ T (mkF m pc' Ls (.int (x.toUInt32.toUInt16.toUInt32.toInt32) :: rest))) : Run p.tables e below Φ T (mkF m pc Ls (.int x :: rest)) := by
  subst hp
  exact k.back fun _ kt => XS.i2c X.here hx rfl hd rfl kt
theorem Run.ineg (X : Stand p l e R s m args below meth c T locs cells slots) (hx : p.tables.exec = Jvm.exec) {x : Int32} (hd : decode c.code pc = .ok (.ineg, 1)) (hp : pc + 1 = pc') (k : Run p.tables e below Φ T (mkF m pc' Ls (.int (-x) :: rest))) : Run p.tables e below Φ T (mkF m pc Ls (.int x :: rest)) := by
  subst hp
  exact k.back fun _ kt => XS.ineg X.here hx rfl hd rfl kt
theorem Run.lcmp (X : Stand p l e R s m args below meth c T locs cells slots) (hx : p.tables.exec = Jvm.exec) {x y : Int64} (hd : decode c.code pc = .ok (.lcmp, 1)) (hp : pc + 1 = pc') (k : Run p.tables e below Φ T (mkF m pc' Ls (.int (lcmpW x y) :: rest))) : Run p.tables e below Φ T (mkF m pc Ls (.long y :: .long x :: rest)) := by
  subst hp
  exact k.back fun _ kt => XS.lcmp X.here hx rfl hd rfl kt
theorem Run.dup (X : Stand p l e R s m args below meth c T locs cells slots) (hx : p.tables.exec = Jvm.exec) {x : Value} (hd : decode c.code pc = .ok (.dup, 1)) (hc : x.category = 1) (hp : pc + 1 = pc') (k : Run p.tables e below Φ T (mkF m pc' Ls (x :: x :: rest))) : Run p.tables e below Φ T (mkF m pc Ls (x :: rest)) := by
  subst hp
  exact k.back fun _ kt => XS.dup X.here hx rfl hd rfl hc kt
theorem Run.dupX1 (X : Stand p l e R s m args below meth c T locs cells slots) (hx : p.tables.exec = Jvm.exec) {x y : Value} (hd : decode c.code pc = .ok (.dup_x1, 1)) (hc : x.category = 1) (hc2 : y.category = 1) (hp : pc + 1 = pc') (k : Run p.tables e below Φ T (mkF m pc' Ls (x :: y :: x :: rest))) : Run p.tables e below Φ T (mkF m pc Ls (x :: y :: rest)) := by
  subst hp
  exact k.back fun _ kt => XS.dupX1 X.here hx rfl hd rfl hc hc2 kt
theorem Run.pop (X : Stand p l e R s m args below meth c T locs cells slots) (hx : p.tables.exec = Jvm.exec) {x : Value} (hd : decode c.code pc = .ok (.pop, 1)) (hc : x.category = 1) (hp : pc + 1 = pc') (k : Run p.tables e below Φ T (mkF m pc' Ls rest)) : Run p.tables e below Φ T (mkF m pc Ls (x :: rest)) := by
  subst hp
  exact k.back fun _ kt => XS.pop X.here hx rfl hd rfl hc kt
theorem Run.iinc (X : Stand p l e R s m args below meth c T locs cells slots) (hx : p.tables.exec = Jvm.exec) {n : Nat} {i : Int} {v w : Int32} {l' : Array Slot} (hd : decode c.code pc = .ok (.iinc n i, 3)) (hl : Ls[n]? = some (.val (.int v))) (hv : Int32.ofInt i = w) (hl' : storeLocals Ls n (.int (v + w)) = some l') (hp : pc + 3 = pc') (k : Run p.tables e below Φ T (mkF m pc' l' rest)) : Run p.tables e below Φ T (mkF m pc Ls rest) := by
  subst hp
  exact k.back fun _ kt => XS.iinc X.here hx rfl hd hl (by rw [hv]; exact hl') kt
theorem Run.goto (X : Stand p l e R s m args below meth c T locs cells slots) (hx : p.tables.exec = Jvm.exec) {o : Int} (hd : decode c.code pc = .ok (.goto o, 3)) (ho : 0 ≤ (pc : Int) + o) (hp : ((pc : Int) + o).toNat = pc') (k : Run p.tables e below Φ T (mkF m pc' Ls rest)) : Run p.tables e below Φ T (mkF m pc Ls rest) := k.back fun _ kt => XS.goto X.here hx rfl rfl hd ho hp kt
theorem Run.ifYes (X : Stand p l e R s m args below meth c T locs cells slots) (hx : p.tables.exec = Jvm.exec) {cd : ClassFile.Cond} {o : Int} {x : Int32} (hd : decode c.code pc = .ok (.ifCond cd o, 3)) (hc : ifCond.holds cd x = true) (ho : 0 ≤ (pc : Int) + o) (hp : ((pc : Int) + o).toNat = pc') (k : Run p.tables e below Φ T (mkF m pc' Ls rest)) : Run p.tables e below Φ T (mkF m pc Ls (.int x :: rest)) := k.back fun _ kt => XS.ifYes X.here hx rfl rfl hd rfl hc ho hp kt
theorem Run.ifNo (X : Stand p l e R s m args below meth c T locs cells slots) (hx : p.tables.exec = Jvm.exec) {cd : ClassFile.Cond} {o : Int} {x : Int32} (hd : decode c.code pc = .ok (.ifCond cd o, 3)) (hc : ifCond.holds cd x = false) (hp : pc + 3 = pc') (k : Run p.tables e below Φ T (mkF m pc' Ls rest)) : Run p.tables e below Φ T (mkF m pc Ls (.int x :: rest)) := by
  subst hp
  exact k.back fun _ kt => XS.ifNo X.here hx rfl hd rfl hc kt
theorem Run.icmpYes (X : Stand p l e R s m args below meth c T locs cells slots) (hx : p.tables.exec = Jvm.exec) {cd : ClassFile.Cond} {o : Int} {x y : Int32} (hd : decode c.code pc = .ok (.if_icmp cd o, 3)) (hc : if_icmp.holds cd x y = true) (ho : 0 ≤ (pc : Int) + o) (hp : ((pc : Int) + o).toNat = pc') (k : Run p.tables e below Φ T (mkF m pc' Ls rest)) : Run p.tables e below Φ T (mkF m pc Ls (.int y :: .int x :: rest)) := k.back fun _ kt => XS.icmpYes X.here hx rfl rfl hd rfl hc ho hp kt
theorem Run.icmpNo (X : Stand p l e R s m args below meth c T locs cells slots) (hx : p.tables.exec = Jvm.exec) {cd : ClassFile.Cond} {o : Int} {x y : Int32} (hd : decode c.code pc = .ok (.if_icmp cd o, 3)) (hc : if_icmp.holds cd x y = false) (hp : pc + 3 = pc') (k : Run p.tables e below Φ T (mkF m pc' Ls rest)) : Run p.tables e below Φ T (mkF m pc Ls (.int y :: .int x :: rest)) := by
  subst hp
  exact k.back fun _ kt => XS.icmpNo X.here hx rfl hd rfl hc kt
theorem Run.acmpYes (X : Stand p l e R s m args below meth c T locs cells slots) (hx : p.tables.exec = Jvm.exec) {cd : ACond} {o : Int} {a b : Addr} (hd : decode c.code pc = .ok (.if_acmp cd o, 3)) (hc : if_acmp.holds cd (some a) (some b) = true) (ho : 0 ≤ (pc : Int) + o) (hp : ((pc : Int) + o).toNat = pc') (k : Run p.tables e below Φ T (mkF m pc' Ls rest)) : Run p.tables e below Φ T (mkF m pc Ls (.ref b :: .ref a :: rest)) := k.back fun _ kt => XS.acmpYes X.here hx rfl rfl hd rfl hc ho hp kt
theorem Run.acmpNo (X : Stand p l e R s m args below meth c T locs cells slots) (hx : p.tables.exec = Jvm.exec) {cd : ACond} {o : Int} {a b : Addr} (hd : decode c.code pc = .ok (.if_acmp cd o, 3)) (hc : if_acmp.holds cd (some a) (some b) = false) (hp : pc + 3 = pc') (k : Run p.tables e below Φ T (mkF m pc' Ls rest)) : Run p.tables e below Φ T (mkF m pc Ls (.ref b :: .ref a :: rest)) := by
  subst hp
  exact k.back fun _ kt => XS.acmpNo X.here hx rfl hd rfl hc kt
theorem own_acmpEqT {a b : Addr} (h : a = b) : if_acmp.holds .eq (some a) (some b) = true := by subst h; simp [if_acmp.holds]
theorem own_acmpEqF {a b : Addr} (h : ¬ a = b) : if_acmp.holds .eq (some a) (some b) = false := by simp [if_acmp.holds, h]
theorem own_acmpNeT {a b : Addr} (h : a = b) : if_acmp.holds .ne (some a) (some b) = false := by subst h; simp [if_acmp.holds]
theorem own_acmpNeF {a b : Addr} (h : ¬ a = b) : if_acmp.holds .ne (some a) (some b) = true := by simp [if_acmp.holds, h]
theorem Run.ldcInt (X : Stand p l e R s m args below meth c T locs cells slots) (hx : p.tables.exec = Jvm.exec) {own : String} {index : Nat} {v : Int32} (hown : s.vm.findClass own = some m.cls) (hconst : (Cond.constant own index v).before args s = true) (hd : decode c.code pc = .ok (.ldc index, 2)) (hp : pc + 2 = pc') (k : Run p.tables e below Φ T (mkF m pc' Ls (.int v :: rest))) : Run p.tables e below Φ T (mkF m pc Ls rest) := by
  subst hp
  exact k.back fun _ kt => X.ldcInt hx hown hconst (g := mkF m pc Ls rest) rfl hd _ kt
theorem Run.ldc2Long (X : Stand p l e R s m args below meth c T locs cells slots) (hx : p.tables.exec = Jvm.exec) {own : String} {index : Nat} {v : Int64} (hown : s.vm.findClass own = some m.cls) (hconst : (Cond.constantLong own index v).before args s = true) (hd : decode c.code pc = .ok (.ldc2_w index, 3)) (hp : pc + 3 = pc') (k : Run p.tables e below Φ T (mkF m pc' Ls (.long v :: rest))) : Run p.tables e below Φ T (mkF m pc Ls rest) := by
  subst hp
  exact k.back fun _ kt => X.ldc2Long hx hown hconst (g := mkF m pc Ls rest) rfl hd _ kt
theorem Run.switchHit (X : Stand p l e R s m args below meth c T locs cells slots) (hx : p.tables.exec = Jvm.exec) {default : Int} {pairs : Array (Int × Int)} {len : Nat} {a off : Int} {z : Int32} (hd : decode c.code pc = .ok (.lookupswitch default pairs, len)) (hs : (pairs.toList.zip (pairs.toList.drop 1)).all (fun (a, next) => a.1 < next.1) = true) (hf : pairs.find? (·.1 == z.toInt) = some (a, off)) (ho : 0 ≤ (pc : Int) + off) (hp : ((pc : Int) + off).toNat = pc') (k : Run p.tables e below Φ T (mkF m pc' Ls rest)) : Run p.tables e below Φ T (mkF m pc Ls (.int z :: rest)) := by
  subst hp
  exact k.back fun _ kt => X.lookupswitchHit hx (g := mkF m pc Ls (.int z :: rest)) rfl rfl hd hs hf ho _ kt
theorem Run.switchMiss (X : Stand p l e R s m args below meth c T locs cells slots) (hx : p.tables.exec = Jvm.exec) {default : Int} {pairs : Array (Int × Int)} {len : Nat} {z : Int32} (hd : decode c.code pc = .ok (.lookupswitch default pairs, len)) (hs : (pairs.toList.zip (pairs.toList.drop 1)).all (fun (a, next) => a.1 < next.1) = true) (hf : pairs.find? (·.1 == z.toInt) = none) (ho : 0 ≤ (pc : Int) + default) (hp : ((pc : Int) + default).toNat = pc') (k : Run p.tables e below Φ T (mkF m pc' Ls rest)) : Run p.tables e below Φ T (mkF m pc Ls (.int z :: rest)) := by
  subst hp
  exact k.back fun _ kt => X.lookupswitchMiss hx (g := mkF m pc Ls (.int z :: rest)) rfl rfl hd hs hf ho _ kt
/-- a body that writes nothing returns r -/
abbrev QPure (n0 : Nat) (h0 : Heap) (r : Value) : Option Value → Heap → List Loc → Prop := fun v h L => v = some r ∧ Fr n0 L ∧ h = h0
theorem Run.retInt (X : Stand p l e R s m args below meth c T locs cells slots) (hx : p.tables.exec = Jvm.exec) {K N : Nat} {Q : Option Value → Heap → List Loc → Prop} {z : Int32} (hlk : meth.locks = false) (hret : meth.sig.returnType = some .int) (hd : decode c.code pc = .ok (.ireturn, 1)) (hQ : Q (some (.int z)) T.heap locs) (hc : cells ≤ K) (hn : slots ≤ N) : Run p.tables e below (FinR s K N Q) T (mkF m pc Ls (.int z :: rest)) := by
  obtain ⟨fs, hr, hrun, hended, hW, hsame⟩ := X.leave (v := (some (.int z))) (fun h => by rw [hret] at h; cases h) hlk
  exact ⟨_, _, retOut X hx hret rfl (Or.inl ⟨rfl, Or.inl rfl, z, rfl⟩) hd hr, hrun, hended, _, _, rfl, hQ, ⟨_, rfl⟩, hW, hsame.mono hc hn⟩
theorem Run.retLong (X : Stand p l e R s m args below meth c T locs cells slots) (hx : p.tables.exec = Jvm.exec) {K N : Nat} {Q : Option Value → Heap → List Loc → Prop} {z : Int64} (hlk : meth.locks = false) (hret : meth.sig.returnType = some .long) (hd : decode c.code pc = .ok (.lreturn, 1)) (hQ : Q (some (.long z)) T.heap locs) (hc : cells ≤ K) (hn : slots ≤ N) : Run p.tables e below (FinR s K N Q) T (mkF m pc Ls (.long z :: rest)) := by
  obtain ⟨fs, hr, hrun, hended, hW, hsame⟩ := X.leave (v := (some (.long z))) (fun h => by rw [hret] at h; cases h) hlk
  exact ⟨_, _, retOut X hx hret rfl (Or.inr (Or.inl ⟨rfl, rfl, z, rfl⟩)) hd hr, hrun, hended, _, _, rfl, hQ, ⟨_, rfl⟩, hW, hsame.mono hc hn⟩
theorem Run.retRef (X : Stand p l e R s m args below meth c T locs cells slots) (hx : p.tables.exec = Jvm.exec) {K N : Nat} {Q : Option Value → Heap → List Loc → Prop} {z : Addr} {t : FieldType} (hlk : meth.locks = false) (hret : meth.sig.returnType = some t) (ht : t.isReference = true) (hnr : narrow t (.ref z) = .ref z) (hd : decode c.code pc = .ok (.areturn, 1)) (hQ : Q (some (.ref z)) T.heap locs) (hc : cells ≤ K) (hn : slots ≤ N) : Run p.tables e below (FinR s K N Q) T (mkF m pc Ls (.ref z :: rest)) := by
  obtain ⟨fs, hr, hrun, hended, hW, hsame⟩ := X.leave (v := (some (.ref z))) (fun h => by rw [hret] at h; cases h) hlk
  exact ⟨_, _, retOut X hx hret hnr (Or.inr (Or.inr (Or.inr (Or.inr ⟨rfl, ht, rfl⟩)))) hd hr, hrun, hended, _, _, rfl, hQ, ⟨_, rfl⟩, hW, hsame.mono hc hn⟩
theorem Run.retSmall (X : Stand p l e R s m args below meth c T locs cells slots) (hx : p.tables.exec = Jvm.exec) {K N : Nat} {Q : Option Value → Heap → List Loc → Prop} {z z' : Int32} {t : FieldType} (hlk : meth.locks = false) (hret : meth.sig.returnType = some t) (ht : t = .boolean ∨ t = .byte ∨ t = .char ∨ t = .short) (hz : nar t z = z') (hd : decode c.code pc = .ok (.ireturn, 1)) (hQ : Q (some (.int z')) T.heap locs) (hc : cells ≤ K) (hn : slots ≤ N) : Run p.tables e below (FinR s K N Q) T (mkF m pc Ls (.int z :: rest)) := by
  obtain ⟨fs, hr, hrun, hended, hW, hsame⟩ := X.leave (v := (some (.int z'))) (fun h => by rw [hret] at h; cases h) hlk
  exact ⟨_, _, RoadKit.retN X hx hret ht hd (by rw [hz]; exact hr), hrun, hended, _, _, rfl, hQ, ⟨_, rfl⟩, hW, hsame.mono hc hn⟩
theorem Run.retVoid (X : Stand p l e R s m args below meth c T locs cells slots) (hx : p.tables.exec = Jvm.exec) {K N : Nat} {Q : Option Value → Heap → List Loc → Prop} (hlk : meth.locks = false) (hret : meth.sig.returnType = none) (hd : decode c.code pc = .ok (.return_, 1)) (hQ : Q none T.heap locs) (hc : cells ≤ K) (hn : slots ≤ N) : Run p.tables e below (FinR s K N Q) T (mkF m pc Ls []) := by
  obtain ⟨fs, hr, hrun, hended, hW, hsame⟩ := X.leave (v := none) (fun _ => rfl) hlk
  exact ⟨_, _, X.returnOut hx hret hd hr, hrun, hended, _, _, rfl, hQ, ⟨_, rfl⟩, hW, hsame.mono hc hn⟩
theorem callStatic (X : Stand p l e R s m args below meth c T locs cells slots) (hx : p.tables.exec = Jvm.exec) {a0 : Array Value} {Z : State} {h : Heap} {own : String} {index : Nat} {bytes : ByteArray} {maxL : Nat} {ret : Option FieldType} {rm : Room} {W : Nat} {Qc : Option Value → Heap → List Loc → Prop} {y : MethodName} {argsL : List Value} (hZ : Z.Warmed39 s.vm) (hown : s.vm.findClass own = some m.cls) (w1 : (Cond.methodLink own index y).before a0 Z = true) (w2 : (Cond.static y).before a0 Z = true) (w3 : (Cond.initialized y.cls).before a0 Z = true) (w4 : (Cond.code y bytes maxL ret).before a0 Z = true) (hy : y.cls ≠ "java/lang/invoke/MethodHandle" ∧ y.cls ≠ "java/lang/invoke/VarHandle") (eT : T.heap = h) (hM : MetFree l y (head1 [Cond.code y bytes maxL ret] rm) (fun av U => av = argsL.toArray ∧ Z.Warmed39 U.vm ∧ U.heap = h) (fun _ _ _ _ _ => True) (fun _ U o U' => ∃ v L, o = .returned v ∧ Qc v U'.heap L ∧ FrameEnd U o U' L rm.cells rm.slots)) (hd : decode c.code pc = .ok (.invokestatic index, 3)) (hlen : ∀ sig, parseMethodDescriptor y.desc = some sig → argsL.length = sig.parameters.length) (hf : rm.frames + 1 ≤ R.frames) (hl : W + (maxL + 11) + rm.locals ≤ R.locals) (hsize : Ls.size = c.maxLocals) (hW : (rest.map fun v => v.category).sum ≤ W) (hcs : cells + rm.cells ≤ R.cells) (hss : slots + rm.slots ≤ R.slots) :
    ∃ (T' : State) (L : List Loc) (v : Option Value), Stand p l e R s m args below meth c T' (locs ++ L) (cells + rm.cells) (slots + rm.slots) ∧ Qc v T'.heap L ∧ ∀ t, Steps p.tables e below (T'.setTop (mkF m (pc + 3) Ls (v.toList ++ rest))) t → Steps p.tables e below (T.setTop (mkF m pc Ls (argsL.reverse ++ rest))) t := by
  obtain ⟨v, vm, ⟨T', L', k', n'⟩, -, X', ⟨L, hQ, l1, l2, l3⟩, st⟩ := Jvm.LawKit.callS X hx (y := y) hown (mvT hZ w1) (mvT hZ w2) (mvT hZ w3) (mvT hZ w4) hy (backOf (W := W) hM hZ w4 w3 hf hl) (g := mkF m pc Ls (argsL.reverse ++ rest)) rfl hsize (argsL := argsL) (rest := rest) hlen rfl (by show 2 * 0 + _ ≤ _; omega) hd (fun _ _ => ⟨rfl, eT, hcs, hss⟩)
  dsimp only [Pt.U, Pt.locs, Pt.cells, Pt.slots] at X' hQ l1 l2 l3 st
  subst l1 l2 l3
  exact ⟨T', L, v, X', hQ, st⟩
theorem callSpecial (X : Stand p l e R s m args below meth c T locs cells slots) (hx : p.tables.exec = Jvm.exec) {a0 : Array Value} {Z : State} {h : Heap} {own : String} {index : Nat} {bytes : ByteArray} {maxL : Nat} {rm : Room} {W : Nat} {Qc : Option Value → Heap → List Loc → Prop} {y : MethodName} {a : Addr} {argsL : List Value} (hy1 : y.name = "<init>") (hZ : Z.Warmed39 s.vm) (hown : s.vm.findClass own = some m.cls) (w1 : (Cond.methodLink own index y).before a0 Z = true) (w2 : (Cond.instanceMethod y).before a0 Z = true) (w3 : (Cond.initialized y.cls).before a0 Z = true) (w4 : (Cond.code y bytes maxL none).before a0 Z = true) (hy : y.cls ≠ "java/lang/invoke/MethodHandle" ∧ y.cls ≠ "java/lang/invoke/VarHandle") (eT : T.heap = h) (hM : MetFree l y (head1 [Cond.code y bytes maxL none] rm) (fun av U => av = (.ref a :: argsL).toArray ∧ Z.Warmed39 U.vm ∧ U.heap = h) (fun _ _ _ _ _ => True) (fun _ U o U' => ∃ v L, o = .returned v ∧ Qc v U'.heap L ∧ FrameEnd U o U' L rm.cells rm.slots)) (hd : decode c.code pc = .ok (.invokespecial index, 3)) (hlen : ∀ sig, parseMethodDescriptor y.desc = some sig → argsL.length = sig.parameters.length) (hf : rm.frames + 1 ≤ R.frames) (hl : W + (maxL + 11) + rm.locals ≤ R.locals) (hsize : Ls.size = c.maxLocals) (hW : (rest.map fun v => v.category).sum ≤ W) (hcs : cells + rm.cells ≤ R.cells) (hss : slots + rm.slots ≤ R.slots) :
    ∃ (T' : State) (L : List Loc) (v : Option Value), Stand p l e R s m args below meth c T' (locs ++ L) (cells + rm.cells) (slots + rm.slots) ∧ Qc v T'.heap L ∧ ∀ t, Steps p.tables e below (T'.setTop (mkF m (pc + 3) Ls (v.toList ++ rest))) t → Steps p.tables e below (T.setTop (mkF m pc Ls (argsL.reverse ++ .ref a :: rest))) t := by
  obtain ⟨v, vm, ⟨T', L', k', n'⟩, -, X', ⟨L, hQ, l1, l2, l3⟩, st⟩ := X.specialBack hx (y := y) hy1 hown (mvT hZ w1) (mvT hZ w2) (mvT hZ w4) hy (backOf (W := W) hM hZ w4 w3 hf hl) (g := mkF m pc Ls (argsL.reverse ++ .ref a :: rest)) rfl hsize (Steps.refl _) (a := a) (argsL := argsL) (rest := rest) hlen rfl (by show 2 * 0 + _ ≤ _; omega) hd (fun _ _ => ⟨rfl, eT, hcs, hss⟩)
  dsimp only [Pt.U, Pt.locs, Pt.cells, Pt.slots] at X' hQ l1 l2 l3 st
  subst l1 l2 l3
  exact ⟨T', L, v, X', hQ, fun t kt => st.trans kt⟩
theorem callVirtual (X : Stand p l e R s m args below meth c T locs cells slots) (hx : p.tables.exec = Jvm.exec) {a0 : Array Value} {Z : State} {h : Heap} {own : String} {index : Nat} {bytes : ByteArray} {maxL : Nat} {ret : Option FieldType} {rm : Room} {W : Nat} {Qc : Option Value → Heap → List Loc → Prop} {y z : MethodName} {C : String} {a : Addr} {argsL : List Value} (hZ : Z.Warmed39 s.vm) (hown : s.vm.findClass own = some m.cls) (w1 : (Cond.methodLink own index y).before a0 Z = true) (w2 : (Cond.declares y).before a0 Z = true) (hnf : NotFace s y) (w5 : (Cond.selects C y z).before a0 Z = true) (w6 : (Cond.instanceMethod z).before a0 Z = true) (w3 : (Cond.initialized z.cls).before a0 Z = true) (w4 : (Cond.code z bytes maxL ret).before a0 Z = true) (hy : y.cls ≠ "java/lang/invoke/MethodHandle" ∧ y.cls ≠ "java/lang/invoke/VarHandle") (eT : T.heap = h) (E : Exa Z h a C) (hM : MetFree l z (head1 [Cond.code z bytes maxL ret] rm) (fun av U => av = (.ref a :: argsL).toArray ∧ Z.Warmed39 U.vm ∧ U.heap = h) (fun _ _ _ _ _ => True) (fun _ U o U' => ∃ v L, o = .returned v ∧ Qc v U'.heap L ∧ FrameEnd U o U' L rm.cells rm.slots)) (hd : decode c.code pc = .ok (.invokevirtual index, 3)) (hlen : ∀ sig, parseMethodDescriptor y.desc = some sig → argsL.length = sig.parameters.length) (hf : rm.frames + 1 ≤ R.frames) (hl : W + (maxL + 11) + rm.locals ≤ R.locals) (hsize : Ls.size = c.maxLocals) (hW : (rest.map fun v => v.category).sum ≤ W) (hcs : cells + rm.cells ≤ R.cells) (hss : slots + rm.slots ≤ R.slots) :
    ∃ (T' : State) (L : List Loc) (v : Option Value), Stand p l e R s m args below meth c T' (locs ++ L) (cells + rm.cells) (slots + rm.slots) ∧ Qc v T'.heap L ∧ ∀ t, Steps p.tables e below (T'.setTop (mkF m (pc + 3) Ls (v.toList ++ rest))) t → Steps p.tables e below (T.setTop (mkF m pc Ls (argsL.reverse ++ .ref a :: rest))) t := by
  obtain ⟨cB, kB, qa, -, qc⟩ := isOf hZ eT E
  obtain ⟨v, vm, ⟨T', L', k', n'⟩, -, X', ⟨L, hQ, l1, l2, l3⟩, st⟩ := X.virtualBack hx (y := y) (z := z) hown (mvT hZ w1) (mvT hZ w2) hnf (mvT hZ w5) (mvT hZ w6) hy (backOf (W := W) hM hZ w4 w3 hf hl) qa qc (g := mkF m pc Ls (argsL.reverse ++ .ref a :: rest)) rfl hsize (Steps.refl _) (argsL := argsL) (rest := rest) hlen rfl (by show 2 * 0 + _ ≤ _; omega) hd (fun _ _ => ⟨rfl, eT, hcs, hss⟩)
  dsimp only [Pt.U, Pt.locs, Pt.cells, Pt.slots] at X' hQ l1 l2 l3 st
  subst l1 l2 l3
  exact ⟨T', L, v, X', hQ, fun t kt => st.trans kt⟩
end Steps
section Arrays
variable {Z : State} {h h' : Heap} {a b : Addr} {ty : FieldType} {n : Int32} {f : Int32 → Int32} {sl : Nat} {v : Value} {ws : List Addr}
/-- the array at a: of kind ty, n places, the place j holds the int f j -/
def Ints (Z : State) (h : Heap) (a : Addr) (ty : FieldType) (n : Int32) (f : Int32 → Int32) : Prop := ∃ cl : Cell, Arr Z h a cl ty ∧ cl.slots.size = n.toNatClampNeg ∧ ¬ n < 0 ∧ ∀ j : Int32, ¬ j < 0 → j < n → cl.slots[j.toNatClampNeg]? = some (.int (f j))
theorem Ints.lt (F : Ints Z h a ty n f) : a < h.size := by obtain ⟨_, A, -⟩ := F; exact A.lt
theorem Ints.ext (E : Ext h h') (F : Ints Z h a ty n f) : Ints Z h' a ty n f := by obtain ⟨c, A, r⟩ := F; exact ⟨c, A.ext E, r⟩
theorem Ints.other (W : Wr h h' b sl v) (F : Ints Z h a ty n f) (q : a ≠ b) : Ints Z h' a ty n f := by obtain ⟨c, A, r⟩ := F; exact ⟨c, A.other W q, r⟩
theorem Ints.keep (F : Ints Z h a ty n f) (K : Keep h h' ws) (q : a ∉ ws) : Ints Z h' a ty n f := by obtain ⟨c, A, r⟩ := F; exact ⟨c, ⟨K.2.1 a c A.1 q, A.2⟩, r⟩
theorem Ints.inb {cl : Cell} (S : cl.slots.size = n.toNatClampNeg) {j : Int32} (h1 : ¬ j < 0) (h2 : j < n) : ¬ (j < 0 ∨ cl.slots.size ≤ j.toNatClampNeg) := inb_of S ⟨h1, h2⟩
theorem nat_inj {i j : Int32} (hi : ¬ i < 0) (hj : ¬ j < 0) (q : i.toNatClampNeg = j.toNatClampNeg) : i = j := Int32.toInt_inj.mp (by rw [nat_of hi, nat_of hj, q])
theorem Ints.set {j : Int32} {x : Int32} {cl : Cell} (A : Arr Z h a cl ty) (S : cl.slots.size = n.toNatClampNeg) (hn : ¬ n < 0) (H : ∀ j : Int32, ¬ j < 0 → j < n → cl.slots[j.toNatClampNeg]? = some (.int (f j))) (h1 : ¬ j < 0) (h2 : j < n) (W : Wr h h' a j.toNatClampNeg (.int x)) : Ints Z h' a ty n (fun i => if i = j then x else f i) := by
  refine ⟨_, A.same W, by rw [← S]; simp [Cell.setSlot], hn, fun i hi hi2 => ?_⟩
  have hlt : i.toNatClampNeg < cl.slots.size := Nat.lt_of_not_le fun q => inb_of S ⟨hi, hi2⟩ (Or.inr q)
  by_cases e : i = j
  · subst e; simp [Cell.setSlot, hlt]
  · have hne : j.toNatClampNeg ≠ i.toNatClampNeg := fun q => e (nat_inj hi h1 q.symm)
    simp only [if_neg e]
    rw [← H i hi hi2]
    simp [Cell.setSlot, Array.getElem?_setIfInBounds_ne hne]
theorem Ints.new {k : ClassId} (A : Arr Z h a (newA k ty n) ty) (hn : ¬ n < 0) (hd : defaultValue ty = .int 0) : Ints Z h a ty n (fun _ => 0) := by
  obtain ⟨cl, A', -, S, -, H, -⟩ := Arv.new A hn
  exact ⟨cl, A', S, hn, fun j h1 h2 => by rw [H _ (Nat.lt_of_not_le fun q => inb_of S ⟨h1, h2⟩ (Or.inr q))]; simp [hd]⟩
theorem Ints.congr {g : Int32 → Int32} (F : Ints Z h a ty n f) (q : ∀ j : Int32, ¬ j < 0 → j < n → f j = g j) : Ints Z h a ty n g := by
  obtain ⟨cl, A, S, hn, H⟩ := F
  exact ⟨cl, A, S, hn, fun j h1 h2 => by rw [← q j h1 h2]; exact H j h1 h2⟩
end Arrays
section ArraySteps
variable {p : Program} {l : Launch} {e : Env} {R : Room} {s : State} {m : MethodId} {args : Array Value} {below : List Frame} {meth : Method} {c : Code} {T : State} {locs : List Loc} {cells slots : Nat} {Φ : Outcome → State → Prop} {pc pc' : Nat} {Ls : Array Slot} {rest : List Value} {Z : State} {h : Heap} {a : Addr} {n j : Int32} {f : Int32 → Int32}
theorem Run.iaload (X : Stand p l e R s m args below meth c T locs cells slots) (hx : p.tables.exec = Jvm.exec) (hZ : Z.Warmed39 s.vm) (eT : T.heap = h) (F : Ints Z h a .int n f) (h1 : ¬ j < 0) (h2 : j < n) (hd : decode c.code pc = .ok (.iaload, 1)) (hp : pc + 1 = pc') (k : Run p.tables e below Φ T (mkF m pc' Ls (.int (f j) :: rest))) : Run p.tables e below Φ T (mkF m pc Ls (.int j :: .ref a :: rest)) := by
  subst hp
  obtain ⟨cl, A, S, hn, H⟩ := F
  exact k.back fun _ kt => X.iaload hx (by rw [eT]; exact A.1) (State.isArrayOf_alike hZ.alike A.2.1) A.2.2 (inb_of S ⟨h1, h2⟩) (H j h1 h2) (g := mkF m pc Ls (.int j :: .ref a :: rest)) rfl rfl hd _ kt
theorem Run.baload (X : Stand p l e R s m args below meth c T locs cells slots) (hx : p.tables.exec = Jvm.exec) (hZ : Z.Warmed39 s.vm) (eT : T.heap = h) (F : Ints Z h a .byte n f) (h1 : ¬ j < 0) (h2 : j < n) (hd : decode c.code pc = .ok (.baload, 1)) (hp : pc + 1 = pc') (k : Run p.tables e below Φ T (mkF m pc' Ls (.int (f j) :: rest))) : Run p.tables e below Φ T (mkF m pc Ls (.int j :: .ref a :: rest)) := by
  subst hp
  obtain ⟨cl, A, S, hn, H⟩ := F
  exact k.back fun _ kt => X.baloadBytes hx (by rw [eT]; exact A.1) (State.isArrayOf_alike hZ.alike A.2.1) A.2.2 (inb_of S ⟨h1, h2⟩) (H j h1 h2) (g := mkF m pc Ls (.int j :: .ref a :: rest)) rfl rfl hd _ kt
theorem Run.zaload (X : Stand p l e R s m args below meth c T locs cells slots) (hx : p.tables.exec = Jvm.exec) (hZ : Z.Warmed39 s.vm) (eT : T.heap = h) (F : Ints Z h a .boolean n f) (h1 : ¬ j < 0) (h2 : j < n) (hd : decode c.code pc = .ok (.baload, 1)) (hp : pc + 1 = pc') (k : Run p.tables e below Φ T (mkF m pc' Ls (.int (f j) :: rest))) : Run p.tables e below Φ T (mkF m pc Ls (.int j :: .ref a :: rest)) := by
  subst hp
  obtain ⟨cl, A, S, hn, H⟩ := F
  exact k.back fun _ kt => X.baloadBooleans hx (by rw [eT]; exact A.1) (State.isArrayOf_alike hZ.alike A.2.1) A.2.2 (inb_of S ⟨h1, h2⟩) (H j h1 h2) (g := mkF m pc Ls (.int j :: .ref a :: rest)) rfl rfl hd _ kt
theorem Run.arraylength (X : Stand p l e R s m args below meth c T locs cells slots) (hx : p.tables.exec = Jvm.exec) {ty : FieldType} (hZ : Z.Warmed39 s.vm) (eT : T.heap = h) (F : Ints Z h a ty n f) (hd : decode c.code pc = .ok (.arraylength, 1)) (hp : pc + 1 = pc') (k : Run p.tables e below Φ T (mkF m pc' Ls (.int n :: rest))) : Run p.tables e below Φ T (mkF m pc Ls (.ref a :: rest)) := by
  subst hp
  obtain ⟨cl, A, S, hn, H⟩ := F
  rw [← len_of S hn] at k
  exact k.back fun _ kt => X.arraylength hx (by rw [eT]; exact A.1) (State.isArrayOf_alike hZ.alike A.2.1) (g := mkF m pc Ls (.ref a :: rest)) rfl rfl hd _ kt
theorem st_iastore (X : Stand p l e R s m args below meth c T locs cells slots) (hx : p.tables.exec = Jvm.exec) {x : Int32} (hZ : Z.Warmed39 s.vm) (eT : T.heap = h) (F : Ints Z h a .int n f) (h1 : ¬ j < 0) (h2 : j < n) (hd : decode c.code pc = .ok (.iastore, 1)) : ∃ T' h' sl v, Stand p l e R s m args below meth c T' (locs ++ [⟨a, sl⟩]) cells slots ∧ T'.heap = h' ∧ Wr h h' a sl v ∧ Ints Z h' a .int n (fun i => if i = j then x else f i) ∧ ∀ t, Steps p.tables e below (T'.setTop (mkF m (pc + 1) Ls rest)) t → Steps p.tables e below (T.setTop (mkF m pc Ls (.int x :: .int j :: .ref a :: rest))) t := by
  obtain ⟨cl, A, S, hn, H⟩ := F
  obtain ⟨T', h', X', e', W, st⟩ := stI X hx hZ eT A (j := j) (x := x) (inb_of S ⟨h1, h2⟩) (g := mkF m pc Ls (.int x :: .int j :: .ref a :: rest)) rfl rfl hd
  exact ⟨T', h', _, _, X', e', W, Ints.set A S hn H h1 h2 W, st⟩
theorem st_bastore (X : Stand p l e R s m args below meth c T locs cells slots) (hx : p.tables.exec = Jvm.exec) {x : Int32} (hZ : Z.Warmed39 s.vm) (eT : T.heap = h) (F : Ints Z h a .byte n f) (h1 : ¬ j < 0) (h2 : j < n) (hd : decode c.code pc = .ok (.bastore, 1)) : ∃ T' h' sl v, Stand p l e R s m args below meth c T' (locs ++ [⟨a, sl⟩]) cells slots ∧ T'.heap = h' ∧ Wr h h' a sl v ∧ Ints Z h' a .byte n (fun i => if i = j then x.toInt8.toInt32 else f i) ∧ ∀ t, Steps p.tables e below (T'.setTop (mkF m (pc + 1) Ls rest)) t → Steps p.tables e below (T.setTop (mkF m pc Ls (.int x :: .int j :: .ref a :: rest))) t := by
  obtain ⟨cl, A, S, hn, H⟩ := F
  obtain ⟨T', h', X', e', W, st⟩ := stB X hx hZ eT A (j := j) (x := x) (inb_of S ⟨h1, h2⟩) (g := mkF m pc Ls (.int x :: .int j :: .ref a :: rest)) rfl rfl hd
  exact ⟨T', h', _, _, X', e', W, Ints.set A S hn H h1 h2 W, st⟩
theorem st_zastore (X : Stand p l e R s m args below meth c T locs cells slots) (hx : p.tables.exec = Jvm.exec) {x : Int32} (hZ : Z.Warmed39 s.vm) (eT : T.heap = h) (F : Ints Z h a .boolean n f) (h1 : ¬ j < 0) (h2 : j < n) (hd : decode c.code pc = .ok (.bastore, 1)) : ∃ T' h' sl v, Stand p l e R s m args below meth c T' (locs ++ [⟨a, sl⟩]) cells slots ∧ T'.heap = h' ∧ Wr h h' a sl v ∧ Ints Z h' a .boolean n (fun i => if i = j then x &&& 1 else f i) ∧ ∀ t, Steps p.tables e below (T'.setTop (mkF m (pc + 1) Ls rest)) t → Steps p.tables e below (T.setTop (mkF m pc Ls (.int x :: .int j :: .ref a :: rest))) t := by
  obtain ⟨cl, A, S, hn, H⟩ := F
  obtain ⟨T', h', X', e', W, st⟩ := stZ X hx hZ eT A (j := j) (x := x) (inb_of S ⟨h1, h2⟩) (g := mkF m pc Ls (.int x :: .int j :: .ref a :: rest)) rfl rfl hd
  exact ⟨T', h', _, _, X', e', W, Ints.set A S hn H h1 h2 W, st⟩
theorem st_newarray (X : Stand p l e R s m args below meth c T locs cells slots) (hx : p.tables.exec = Jvm.exec) {aty : ArrayType} {a0 : Array Value} (hZ : Z.Warmed39 s.vm) (w : (Cond.arrayClass (newarray.typeOf aty)).before a0 Z = true) (eT : T.heap = h) (hd : decode c.code pc = .ok (.newarray aty, 2)) (hn : ¬ n < 0) {cap : Nat} (hcap : n.toNatClampNeg ≤ cap) (hb : cap * 8 ≤ 536870912) (hc : cells + 1 ≤ R.cells) (hl : slots + cap ≤ R.slots) (hdef : defaultValue (newarray.typeOf aty) = .int 0) : ∃ T' h' b, Stand p l e R s m args below meth c T' locs (cells + 1) (slots + cap) ∧ T'.heap = h' ∧ Ext h h' ∧ b = h.size ∧ Ints Z h' b (newarray.typeOf aty) n (fun _ => 0) ∧ ∀ t, Steps p.tables e below (T'.setTop (mkF m (pc + 2) Ls (.ref b :: rest))) t → Steps p.tables e below (T.setTop (mkF m pc Ls (.int n :: rest))) t := by
  obtain ⟨T', h', cA, X', e', E, A, st⟩ := newP X hx hZ w eT (g := mkF m pc Ls (.int n :: rest)) rfl hd rfl hn hcap hb hc hl
  exact ⟨T', h', _, X', e', E, rfl, Ints.new A hn hdef, st⟩
end ArraySteps
section Table
variable {Z : State} {args : Array Value} {t : Term} {a : Addr} {c : Cell} {ty : FieldType} {n j : Int32}
theorem tab_ints {h : Heap} (F : Tab Z h a c ty n) : Ints Z h a ty n (atv c) := ⟨c, F.1, F.2.1, F.2.2.1, fun j h1 h2 => F.2.2.2 j (inb_of F.2.1 ⟨h1, h2⟩)⟩
theorem tab_all {q : Jvm.Cond} (et : ∀ idx, t.eval args Z none idx Z = some (.ref a)) (F : Tab Z Z.heap a c ty n) (h : (Jvm.Cond.all t q).value args Z none Z [] = some true) (h1 : ¬ j < 0) (h2 : j < n) : q.value args Z none Z [j.toNatClampNeg] = some true :=
  Jvm.Cond.all_elim (et []) (F.1.fin (Vm.Alike.refl _)) h _ (Nat.lt_of_not_le fun y => inb_of F.2.1 ⟨h1, h2⟩ (Or.inr y))
theorem tab_elem (et : ∀ idx, t.eval args Z none idx Z = some (.ref a)) (F : Tab Z Z.heap a c ty n) (h1 : ¬ j < 0) (h2 : j < n) : (Term.elem t (.index 0)).eval args Z none [j.toNatClampNeg] Z = some (.int (atv c j)) :=
  (elem_f (et _) (idx_at h1) (F.1.fin (Vm.Alike.refl _)) h1).trans (F.2.2.2 j (inb_of F.2.1 ⟨h1, h2⟩))
theorem tab_le {x v : Int32} (et : ∀ idx, t.eval args Z none idx Z = some (.ref a)) (F : Tab Z Z.heap a c ty n) (h : (Jvm.Cond.all t (.or (.le (.int x) (.index 0)) (.eq (.elem t (.index 0)) (.int v)))).value args Z none Z [] = some true) (j : Int32) (h1 : ¬ j < 0) (h2 : j < n) : x ≤ j ∨ atv c j = v :=
  or_e2 (Jvm.Cond.le_ints (Term.int_eval x) (idx_at h1)) (Jvm.Cond.eq_ints (tab_elem et F h1 h2) (Term.int_eval v)) (tab_all et F h h1 h2)
theorem tab_in {x y v : Int32} (et : ∀ idx, t.eval args Z none idx Z = some (.ref a)) (F : Tab Z Z.heap a c ty n) (h : (Jvm.Cond.all t (.or (.lt (.index 0) (.int x)) (.or (.le (.int y) (.index 0)) (.eq (.elem t (.index 0)) (.int v))))).value args Z none Z [] = some true) (j : Int32) (h1 : ¬ j < 0) (h2 : j < n) : j < x ∨ ¬ j < y ∨ atv c j = v :=
  or3 (tab_all et F h h1 h2) (Jvm.Cond.lt_ints (idx_at h1) (Term.int_eval x)) (Jvm.Cond.le_ints (Term.int_eval y) (idx_at h1)) (Jvm.Cond.eq_ints (tab_elem et F h1 h2) (Term.int_eval v))
theorem tab_one {k v : Int32} (et : ∀ idx, t.eval args Z none idx Z = some (.ref a)) (F : Tab Z Z.heap a c ty n) (h1 : ¬ k < 0) (h2 : k < n) (h : (Jvm.Cond.eq (.elem t (.int k)) (.int v)).value args Z none Z [] = some true) : atv c k = v := by
  have e := (elem_f (et []) (Term.int_eval (args := args) (first := Z) (o := none) (idx := []) (s := Z) k) (F.1.fin (Vm.Alike.refl _)) h1).trans (F.2.2.2 k (inb_of F.2.1 ⟨h1, h2⟩))
  have q := (Jvm.Cond.eq_ints e (Term.int_eval v)).symm.trans h
  simpa using q
theorem tab_ge {x v : Int32} (et : ∀ idx, t.eval args Z none idx Z = some (.ref a)) (F : Tab Z Z.heap a c ty n) (h : (Jvm.Cond.all t (.or (.lt (.index 0) (.int x)) (.eq (.elem t (.index 0)) (.int v)))).value args Z none Z [] = some true) (j : Int32) (h1 : ¬ j < 0) (h2 : j < n) : j < x ∨ atv c j = v :=
  or_e2 (Jvm.Cond.lt_ints (idx_at h1) (Term.int_eval x)) (Jvm.Cond.eq_ints (tab_elem et F h1 h2) (Term.int_eval v)) (tab_all et F h h1 h2)
theorem tab_start (hf : Fit Z) (et : t.eval args Z none [] Z = some (.ref a)) (A : Arr Z Z.heap a c ty) (hl : (Jvm.Cond.eq (Term.length t) (.int n)).value args Z none Z [] = some true) (ht : ty = .int ∨ ty = .boolean ∨ ty = .byte ∨ ty = .char ∨ ty = .short) (hn : ¬ n < 0) : Tab Z Z.heap a c ty n := by
  have e := eqv_i (Term.int_eval n) hl
  have ha : Z.arrayAt? a = some c := A.fin (Vm.Alike.refl _)
  by_cases q : c.slots.size < 2 ^ 31
  · have e2 := len_f et ha q
    exact Tab.start hf A ht q (by simpa using Option.some.inj (e2.symm.trans e)) hn
  · simp [Term.eval, et, ha, q] at e
theorem small_int (N : Nat) (hN : N < 2147483648) (P : Int32 → Prop) (H : ∀ k : Fin N, P (Int32.ofNat k.val)) (c : Int32) (h1 : ¬ c < 0) (h2 : c < Int32.ofNat N) : P c := by
  have e : c.toInt = (c.toNatClampNeg : Int) := nat_of h1
  have hc : Int32.ofNat c.toNatClampNeg = c := by
    apply Int32.toInt_inj.mp
    rw [Int32.toInt_ofNat_of_lt (by have := c.toInt_lt; omega), e]
  have h3 : c.toInt < (Int32.ofNat N).toInt := Int32.lt_iff_toInt_lt.mp h2
  rw [Int32.toInt_ofNat_of_lt (by omega)] at h3
  rw [← hc]
  exact H ⟨c.toNatClampNeg, by omega⟩
end Table
end Jvm.OwnRun

namespace Jvm.Pilot.@@N@@
open Jvm Jvm.ClassFile Sem Op Lib Jvm.Free Jvm.Stand Jvm.LawKit Jvm.RoadKit Jvm.OwnRun Bundle Jvm.Pilot.@@N@@.Jvm.D
theorem own_pd0 : parseMethodDescriptor "(J)J" = some ⟨[.long], some .long⟩ := by decide +kernel
theorem own_pd1 : parseMethodDescriptor "(J)V" = some ⟨[.long], none⟩ := by decide +kernel
theorem own_pd2 : parseMethodDescriptor "(JJJ)Z" = some ⟨[.long, .long, .long], some .boolean⟩ := by decide +kernel
theorem own_pd3 : parseMethodDescriptor "(JJ)Z" = some ⟨[.long, .long], some .boolean⟩ := by decide +kernel
theorem own_pn0 : plainName "com/example/traceloom/traceloom/io/Bounds" = true := by first | (simp [plainName, overriddenIn]; done) | decide +kernel
theorem own_pn1 : plainName "com/example/traceloom/traceloom/io/BoundsTakePinLaw" = true := by first | (simp [plainName, overriddenIn]; done) | decide +kernel
theorem own_pn2 : plainName "com/example/traceloom/traceloom/io/Bounds$Budget" = true := by first | (simp [plainName, overriddenIn]; done) | decide +kernel
def own_F1 (q0 : Int64) : Int64 := (if (0 : Int32) < (lcmpW q0 (46116860184189992 : Int64)) then (9223372036854775807 : Int64) else (((200 : Int64) * q0) + (16777216 : Int64)))
theorem own_d1_0 : decode prog_27_method_3_code 0 = .ok (.lload_n 0, 1) := by decide +kernel
theorem own_d1_1 : decode prog_27_method_3_code 1 = .ok (.ldc2_w 15, 3) := by decide +kernel
theorem own_d1_4 : decode prog_27_method_3_code 4 = .ok (.lcmp, 1) := by decide +kernel
theorem own_d1_5 : decode prog_27_method_3_code 5 = .ok (.ifCond .le 7, 3) := by decide +kernel
theorem own_d1_8 : decode prog_27_method_3_code 8 = .ok (.ldc2_w 17, 3) := by decide +kernel
theorem own_d1_11 : decode prog_27_method_3_code 11 = .ok (.lreturn, 1) := by decide +kernel
theorem own_d1_12 : decode prog_27_method_3_code 12 = .ok (.ldc2_w 19, 3) := by decide +kernel
theorem own_d1_15 : decode prog_27_method_3_code 15 = .ok (.lload_n 0, 1) := by decide +kernel
theorem own_d1_16 : decode prog_27_method_3_code 16 = .ok (.lmul, 1) := by decide +kernel
theorem own_d1_17 : decode prog_27_method_3_code 17 = .ok (.ldc2_w 21, 3) := by decide +kernel
theorem own_d1_20 : decode prog_27_method_3_code 20 = .ok (.ladd, 1) := by decide +kernel
theorem own_d1_21 : decode prog_27_method_3_code 21 = .ok (.lreturn, 1) := by decide +kernel
theorem own_ef1 (m : MethodId) (x0 : Int64) : entryFrame m #[(.long x0)] 2 = mkF m 0 #[.val (.long x0), .second] [] := by first | (simp [entryFrame, mkF, argsToLocals, Value.category]; done) | rfl
set_option maxRecDepth 65536 in
set_option maxHeartbeats 40000000 in
theorem rm1 (l : Launch) (Z : State) (a0 : Array Value) (hw : ∀ d ∈ tables_1, d.before a0 Z = true) (ws : List Jvm.Cond) (q0 : Int64) (h0 : Heap) (n0 : Nat) (Z0 : n0 ≤ h0.size) :
    MetFree l (⟨"com/example/traceloom/traceloom/io/Bounds", "allowed", "(J)J"⟩ : MethodName) (head1 (Jvm.Cond.code (⟨"com/example/traceloom/traceloom/io/Bounds", "allowed", "(J)J"⟩ : MethodName) prog_27_method_3_code 2 (some .long) :: ws) ({ frames := 0, cells := 0, slots := 0, locals := 0 } : Room)) (fun a U => a = #[(.long q0)] ∧ Z.Warmed39 U.vm ∧ U.heap = h0) (fun _ _ _ _ _ => True) (fun _ U o U' => ∃ v L, o = .returned v ∧ (QPure n0 h0 (.long (own_F1 q0))) v U'.heap L ∧ FrameEnd U o U' L ({ frames := 0, cells := 0, slots := 0, locals := 0 } : Room).cells ({ frames := 0, cells := 0, slots := 0, locals := 0 } : Room).slots) := by
  refine MetFree.of_bodySF (plainFor_of_name own_pn0) hisR ?_
  intro p e s m args below meth c s₁ Bd hml0 hP hK
  obtain ⟨rfl, hZ, hh⟩ := hP
  have hx := Bd.exec
  have hby := Bd.bytes
  have hml : c.maxLocals = 2 := hml0
  have hown : s.vm.findClass "com/example/traceloom/traceloom/io/Bounds" = some m.cls := findClass_of_methodNamed Bd.named
  have hnm := (name_of_methodNamed Bd.named Bd.method).1
  have X0 : Stand p l e ({ frames := 0, cells := 0, slots := 0, locals := 0 } : Room) s m #[(.long q0)] below meth c s₁ [] 0 0 := Stand.of_body Bd
  have e0 : s₁.heap = h0 := by rw [← hh, Bd.state]; rfl
  have N0 := Fr.nil n0
  suffices H : Run p.tables e below (FinR s ({ frames := 0, cells := 0, slots := 0, locals := 0 } : Room).cells ({ frames := 0, cells := 0, slots := 0, locals := 0 } : Room).slots (QPure n0 h0 (.long (own_F1 q0)))) s₁ (mkF m 0 #[.val (.long q0), .second] []) by
    obtain ⟨s₂, o, k1, k2, k3, k4⟩ := H
    exact ⟨s₂, o, castTop (own_ef1 m q0) k1, k2, k3, k4⟩
  obtain ⟨r, hr⟩ : ∃ r, r = own_F1 q0 := ⟨_, rfl⟩
  rw [← hr]
  rw [own_F1] at hr
  refine Run.lloadN (pc' := 1) X0 hx (hb hby own_d1_0) rfl rfl ?_
  refine Run.ldc2Long (pc' := 4) (v := (46116860184189992 : Int64)) X0 hx hown (mvT hZ (hw _ (List.mem_of_getElem? (i := 5) rfl))) (hb hby own_d1_1) rfl ?_
  refine Run.lcmp (pc' := 5) X0 hx (hb hby own_d1_4) rfl ?_
  by_cases hc5 : (0 : Int32) < (lcmpW q0 (46116860184189992 : Int64))
  · rw [if_pos hc5] at hr
    refine Run.ifNo (pc' := 8) X0 hx (hb hby own_d1_5) ((if0 _ _).trans (tlt hc5).2.2.2) rfl ?_
    refine Run.ldc2Long (pc' := 11) (v := (9223372036854775807 : Int64)) X0 hx hown (mvT hZ (hw _ (List.mem_of_getElem? (i := 31) rfl))) (hb hby own_d1_8) rfl ?_
    exact Run.retLong X0 hx Bd.notSynchronized Bd.returns (hb hby own_d1_11) ⟨by rw [hr], N0, e0⟩ (by decide) (by decide)
  · rw [if_neg hc5] at hr
    refine Run.ifYes (pc' := 12) X0 hx (hb hby own_d1_5) ((if0 _ _).trans (flt hc5).2.2.2) (by decide) (by decide) ?_
    refine Run.ldc2Long (pc' := 15) (v := (200 : Int64)) X0 hx hown (mvT hZ (hw _ (List.mem_of_getElem? (i := 6) rfl))) (hb hby own_d1_12) rfl ?_
    refine Run.lloadN (pc' := 16) X0 hx (hb hby own_d1_15) rfl rfl ?_
    refine Run.lmul (pc' := 17) X0 hx (hb hby own_d1_16) rfl ?_
    refine Run.ldc2Long (pc' := 20) (v := (16777216 : Int64)) X0 hx hown (mvT hZ (hw _ (List.mem_of_getElem? (i := 7) rfl))) (hb hby own_d1_17) rfl ?_
    refine Run.ladd (pc' := 21) X0 hx (hb hby own_d1_20) rfl ?_
    exact Run.retLong X0 hx Bd.notSynchronized Bd.returns (hb hby own_d1_21) ⟨by rw [hr], N0, e0⟩ (by decide) (by decide)
def own_R (w1 w2 q1 q2 : Int64) : Int32 := (if (0 : Int32) < (lcmpW q1 (0 : Int64)) then (if (0 : Int32) < (lcmpW q2 ((w1 - w2) / q1)) then (0 : Int32) else (1 : Int32)) else (1 : Int32))
def own_N (w1 w2 q1 q2 : Int64) : Int64 := (if (0 : Int32) < (lcmpW q1 (0 : Int64)) then (if (0 : Int32) < (lcmpW q2 ((w1 - w2) / q1)) then w2 else (w2 + (q1 * q2))) else (w2 + (q1 * q2)))
theorem own_ne3 {b : Int64} (h : (0 : Int32) < lcmpW b (0 : Int64)) : b ≠ 0 := fun e => by
  rw [lw_gt, e] at h
  exact absurd h (by decide)
theorem own_ne9 {b : Int64} (h : ¬ lcmpW b (0 : Int64) = (0 : Int32)) : b ≠ 0 := fun e => h ((lw_eq b 0).mpr e)

def own_f2_28 (q0 : Int64) (q1 : Int64) (q2 : Int64) (y28_0 : Int32) : Int32 := (y28_0 &&& 1)
def own_f2_12 (q0 : Int64) (q1 : Int64) (q2 : Int64) : Int32 := (1 : Int32)
def own_F2 (q0 : Int64) (q1 : Int64) (q2 : Int64) : Int32 := (if (lcmpW q0 (0 : Int64)) = (0 : Int32) then (own_f2_12 q0 q1 q2) else (if (lcmpW q1 (0 : Int64)) = (0 : Int32) then (own_f2_12 q0 q1 q2) else (if (0 : Int32) < (lcmpW q0 (q2 / q1)) then (own_f2_28 q0 q1 q2 (0 : Int32)) else (own_f2_28 q0 q1 q2 (1 : Int32)))))
theorem own_d2_0 : decode method_2_code 0 = .ok (.lload_n 0, 1) := by decide +kernel
theorem own_d2_1 : decode method_2_code 1 = .ok (.lconst 0, 1) := by decide +kernel
theorem own_d2_2 : decode method_2_code 2 = .ok (.lcmp, 1) := by decide +kernel
theorem own_d2_3 : decode method_2_code 3 = .ok (.ifCond .eq 9, 3) := by decide +kernel
theorem own_d2_6 : decode method_2_code 6 = .ok (.lload_n 2, 1) := by decide +kernel
theorem own_d2_7 : decode method_2_code 7 = .ok (.lconst 0, 1) := by decide +kernel
theorem own_d2_8 : decode method_2_code 8 = .ok (.lcmp, 1) := by decide +kernel
theorem own_d2_9 : decode method_2_code 9 = .ok (.ifCond .ne 5, 3) := by decide +kernel
theorem own_d2_12 : decode method_2_code 12 = .ok (.iconst 1, 1) := by decide +kernel
theorem own_d2_13 : decode method_2_code 13 = .ok (.ireturn, 1) := by decide +kernel
theorem own_d2_14 : decode method_2_code 14 = .ok (.lload_n 0, 1) := by decide +kernel
theorem own_d2_15 : decode method_2_code 15 = .ok (.lload 4, 2) := by decide +kernel
theorem own_d2_17 : decode method_2_code 17 = .ok (.lload_n 2, 1) := by decide +kernel
theorem own_d2_18 : decode method_2_code 18 = .ok (.ldiv, 1) := by decide +kernel
theorem own_d2_19 : decode method_2_code 19 = .ok (.lcmp, 1) := by decide +kernel
theorem own_d2_20 : decode method_2_code 20 = .ok (.ifCond .gt 7, 3) := by decide +kernel
theorem own_d2_23 : decode method_2_code 23 = .ok (.iconst 1, 1) := by decide +kernel
theorem own_d2_24 : decode method_2_code 24 = .ok (.goto 4, 3) := by decide +kernel
theorem own_d2_27 : decode method_2_code 27 = .ok (.iconst 0, 1) := by decide +kernel
theorem own_d2_28 : decode method_2_code 28 = .ok (.ireturn, 1) := by decide +kernel
theorem own_ef2 (m : MethodId) (x0 : Int64) (x1 : Int64) (x2 : Int64) : entryFrame m #[(.long x0), (.long x1), (.long x2)] 6 = mkF m 0 #[.val (.long x0), .second, .val (.long x1), .second, .val (.long x2), .second] [] := by first | (simp [entryFrame, mkF, argsToLocals, Value.category]; done) | rfl
set_option maxRecDepth 65536 in
set_option maxHeartbeats 40000000 in
theorem rm2 (l : Launch) (Z : State) (a0 : Array Value) (hw : ∀ d ∈ tables_1, d.before a0 Z = true) (ws : List Jvm.Cond) (q0 : Int64) (q1 : Int64) (q2 : Int64) (h0 : Heap) (n0 : Nat) (Z0 : n0 ≤ h0.size) :
    MetFree l (⟨"com/example/traceloom/traceloom/io/BoundsTakePinLaw", "fits", "(JJJ)Z"⟩ : MethodName) (head1 (Jvm.Cond.code (⟨"com/example/traceloom/traceloom/io/BoundsTakePinLaw", "fits", "(JJJ)Z"⟩ : MethodName) method_2_code 6 (some .boolean) :: ws) ({ frames := 0, cells := 0, slots := 0, locals := 0 } : Room)) (fun a U => a = #[(.long q0), (.long q1), (.long q2)] ∧ Z.Warmed39 U.vm ∧ U.heap = h0) (fun _ _ _ _ _ => True) (fun _ U o U' => ∃ v L, o = .returned v ∧ (QPure n0 h0 (.int (own_F2 q0 q1 q2))) v U'.heap L ∧ FrameEnd U o U' L ({ frames := 0, cells := 0, slots := 0, locals := 0 } : Room).cells ({ frames := 0, cells := 0, slots := 0, locals := 0 } : Room).slots) := by
  refine MetFree.of_bodySF (plainFor_of_name own_pn1) hisR ?_
  intro p e s m args below meth c s₁ Bd hml0 hP hK
  obtain ⟨rfl, hZ, hh⟩ := hP
  have hx := Bd.exec
  have hby := Bd.bytes
  have hml : c.maxLocals = 6 := hml0
  have hown : s.vm.findClass "com/example/traceloom/traceloom/io/BoundsTakePinLaw" = some m.cls := findClass_of_methodNamed Bd.named
  have hnm := (name_of_methodNamed Bd.named Bd.method).1
  have X0 : Stand p l e ({ frames := 0, cells := 0, slots := 0, locals := 0 } : Room) s m #[(.long q0), (.long q1), (.long q2)] below meth c s₁ [] 0 0 := Stand.of_body Bd
  have e0 : s₁.heap = h0 := by rw [← hh, Bd.state]; rfl
  have N0 := Fr.nil n0
  suffices H : Run p.tables e below (FinR s ({ frames := 0, cells := 0, slots := 0, locals := 0 } : Room).cells ({ frames := 0, cells := 0, slots := 0, locals := 0 } : Room).slots (QPure n0 h0 (.int (own_F2 q0 q1 q2)))) s₁ (mkF m 0 #[.val (.long q0), .second, .val (.long q1), .second, .val (.long q2), .second] []) by
    obtain ⟨s₂, o, k1, k2, k3, k4⟩ := H
    exact ⟨s₂, o, castTop (own_ef2 m q0 q1 q2) k1, k2, k3, k4⟩
  obtain ⟨r, hr⟩ : ∃ r, r = own_F2 q0 q1 q2 := ⟨_, rfl⟩
  rw [← hr]
  have J28 : ∀ (y28_0 : Int32) (r : Int32), r = (own_f2_28 q0 q1 q2 y28_0) → ∀ (T : State) (locs : List Loc), Stand p l e ({ frames := 0, cells := 0, slots := 0, locals := 0 } : Room) s m #[(.long q0), (.long q1), (.long q2)] below meth c T locs 0 0 → T.heap = h0 → Fr n0 locs → Run p.tables e below (FinR s ({ frames := 0, cells := 0, slots := 0, locals := 0 } : Room).cells ({ frames := 0, cells := 0, slots := 0, locals := 0 } : Room).slots (QPure n0 h0 (.int r))) T (mkF m 28 #[.val (.long q0), .second, .val (.long q1), .second, .val (.long q2), .second] [(.int y28_0)]) := by
    clear hr
    intro y28_0 r hr T locs X eT N
    rw [own_f2_28] at hr
    exact Run.retSmall X hx (t := .boolean) (z' := (y28_0 &&& 1)) Bd.notSynchronized Bd.returns (by simp) rfl (hb hby own_d2_28) ⟨by rw [hr], N, eT⟩ (by decide) (by decide)
  have J12 : ∀  (r : Int32), r = (own_f2_12 q0 q1 q2) → ∀ (T : State) (locs : List Loc), Stand p l e ({ frames := 0, cells := 0, slots := 0, locals := 0 } : Room) s m #[(.long q0), (.long q1), (.long q2)] below meth c T locs 0 0 → T.heap = h0 → Fr n0 locs → Run p.tables e below (FinR s ({ frames := 0, cells := 0, slots := 0, locals := 0 } : Room).cells ({ frames := 0, cells := 0, slots := 0, locals := 0 } : Room).slots (QPure n0 h0 (.int r))) T (mkF m 12 #[.val (.long q0), .second, .val (.long q1), .second, .val (.long q2), .second] []) := by
    clear hr
    intro  r hr T locs X eT N
    rw [own_f2_12] at hr
    refine Run.iconst (pc' := 13) (v := (1 : Int32)) X hx (hb hby own_d2_12) rfl rfl ?_
    exact Run.retSmall X hx (t := .boolean) (z' := (1 : Int32)) Bd.notSynchronized Bd.returns (by simp) rfl (hb hby own_d2_13) ⟨by rw [hr], N, eT⟩ (by decide) (by decide)
  rw [own_F2] at hr
  refine Run.lloadN (pc' := 1) X0 hx (hb hby own_d2_0) rfl rfl ?_
  refine Run.lconst (pc' := 2) (v := (0 : Int64)) X0 hx (hb hby own_d2_1) rfl rfl ?_
  refine Run.lcmp (pc' := 3) X0 hx (hb hby own_d2_2) rfl ?_
  by_cases hc3 : (lcmpW q0 (0 : Int64)) = (0 : Int32)
  · rw [if_pos hc3] at hr
    refine Run.ifYes (pc' := 12) X0 hx (hb hby own_d2_3) ((if0 _ _).trans (teq hc3).1) (by decide) (by decide) ?_
    exact J12  _ hr _ _ X0 e0 N0
  · rw [if_neg hc3] at hr
    refine Run.ifNo (pc' := 6) X0 hx (hb hby own_d2_3) ((if0 _ _).trans (feq hc3).1) rfl ?_
    refine Run.lloadN (pc' := 7) X0 hx (hb hby own_d2_6) rfl rfl ?_
    refine Run.lconst (pc' := 8) (v := (0 : Int64)) X0 hx (hb hby own_d2_7) rfl rfl ?_
    refine Run.lcmp (pc' := 9) X0 hx (hb hby own_d2_8) rfl ?_
    by_cases hc9 : (lcmpW q1 (0 : Int64)) = (0 : Int32)
    · rw [if_pos hc9] at hr
      refine Run.ifNo (pc' := 12) X0 hx (hb hby own_d2_9) ((if0 _ _).trans (teq hc9).2) rfl ?_
      exact J12  _ hr _ _ X0 e0 N0
    · rw [if_neg hc9] at hr
      refine Run.ifYes (pc' := 14) X0 hx (hb hby own_d2_9) ((if0 _ _).trans (feq hc9).2) (by decide) (by decide) ?_
      refine Run.lloadN (pc' := 15) X0 hx (hb hby own_d2_14) rfl rfl ?_
      refine Run.lload (pc' := 17) X0 hx (hb hby own_d2_15) rfl rfl ?_
      refine Run.lloadN (pc' := 18) X0 hx (hb hby own_d2_17) rfl rfl ?_
      refine Run.ldiv (pc' := 19) X0 hx (hb hby own_d2_18) (own_ne9 hc9) rfl ?_
      refine Run.lcmp (pc' := 20) X0 hx (hb hby own_d2_19) rfl ?_
      by_cases hc20 : (0 : Int32) < (lcmpW q0 (q2 / q1))
      · rw [if_pos hc20] at hr
        refine Run.ifYes (pc' := 27) X0 hx (hb hby own_d2_20) ((if0 _ _).trans (tlt hc20).2.2.1) (by decide) (by decide) ?_
        refine Run.iconst (pc' := 28) (v := (0 : Int32)) X0 hx (hb hby own_d2_27) rfl rfl ?_
        exact J28 (0 : Int32) _ hr _ _ X0 e0 N0
      · rw [if_neg hc20] at hr
        refine Run.ifNo (pc' := 23) X0 hx (hb hby own_d2_20) ((if0 _ _).trans (flt hc20).2.2.1) rfl ?_
        refine Run.iconst (pc' := 24) (v := (1 : Int32)) X0 hx (hb hby own_d2_23) rfl rfl ?_
        refine Run.goto (pc' := 28) X0 hx (hb hby own_d2_24) (by decide) (by decide) ?_
        exact J28 (1 : Int32) _ hr _ _ X0 e0 N0
theorem own_d3_0 : decode prog_28_method_1_code 0 = .ok (.aload_n 0, 1) := by decide +kernel
theorem own_d3_1 : decode prog_28_method_1_code 1 = .ok (.invokespecial 1, 3) := by decide +kernel
theorem own_d3_4 : decode prog_28_method_1_code 4 = .ok (.aload_n 0, 1) := by decide +kernel
theorem own_d3_5 : decode prog_28_method_1_code 5 = .ok (.lload_n 1, 1) := by decide +kernel
theorem own_d3_6 : decode prog_28_method_1_code 6 = .ok (.invokestatic 7, 3) := by decide +kernel
theorem own_d3_9 : decode prog_28_method_1_code 9 = .ok (.putfield 13, 3) := by decide +kernel
theorem own_d3_12 : decode prog_28_method_1_code 12 = .ok (.return_, 1) := by decide +kernel
theorem own_ef3 (m : MethodId) (x0 : Addr) (x1 : Int64) : entryFrame m #[(.ref x0), (.long x1)] 3 = mkF m 0 #[.val (.ref x0), .val (.long x1), .second] [] := by first | (simp [entryFrame, mkF, argsToLocals, Value.category]; done) | rfl
set_option maxRecDepth 65536 in
set_option maxHeartbeats 40000000 in
theorem rm3 (l : Launch) (Z : State) (a0 : Array Value) (hw : ∀ d ∈ tables_1, d.before a0 Z = true) (ws : List Jvm.Cond) (o0 : Addr) (q1 : Int64) (h0 : Heap) (n0 : Nat) (Z0 : n0 ≤ h0.size) (E_o : Exa Z h0 o0 "com/example/traceloom/traceloom/io/Bounds$Budget") (F_allowed : Fld Z h0 o0 "com/example/traceloom/traceloom/io/Bounds$Budget" "allowed" "J" (.long (0 : Int64))) (F_taken : Fld Z h0 o0 "com/example/traceloom/traceloom/io/Bounds$Budget" "taken" "J" (.long (0 : Int64))) (g_o : n0 ≤ o0) :
    MetFree l (⟨"com/example/traceloom/traceloom/io/Bounds$Budget", "<init>", "(J)V"⟩ : MethodName) (head1 (Jvm.Cond.code (⟨"com/example/traceloom/traceloom/io/Bounds$Budget", "<init>", "(J)V"⟩ : MethodName) prog_28_method_1_code 3 none :: ws) ({ frames := 1, cells := 0, slots := 0, locals := 14 } : Room)) (fun a U => a = #[(.ref o0), (.long q1)] ∧ Z.Warmed39 U.vm ∧ U.heap = h0) (fun _ _ _ _ _ => True) (fun _ U o U' => ∃ v L, o = .returned v ∧ (Say (fun v h L => v = none ∧ Fr n0 L ∧ Keep h0 h [o0] ∧ Exa Z h o0 "com/example/traceloom/traceloom/io/Bounds$Budget" ∧ Fld Z h o0 "com/example/traceloom/traceloom/io/Bounds$Budget" "allowed" "J" (.long (own_F1 q1)) ∧ Fld Z h o0 "com/example/traceloom/traceloom/io/Bounds$Budget" "taken" "J" (.long (0 : Int64)))) v U'.heap L ∧ FrameEnd U o U' L ({ frames := 1, cells := 0, slots := 0, locals := 14 } : Room).cells ({ frames := 1, cells := 0, slots := 0, locals := 14 } : Room).slots) := by
  refine MetFree.of_bodySF (plainFor_of_name own_pn2) hisR ?_
  intro p e s m args below meth c s₁ Bd hml0 hP hK
  obtain ⟨rfl, hZ, hh⟩ := hP
  have hx := Bd.exec
  have hby := Bd.bytes
  have hml : c.maxLocals = 3 := hml0
  have hown : s.vm.findClass "com/example/traceloom/traceloom/io/Bounds$Budget" = some m.cls := findClass_of_methodNamed Bd.named
  have hnm := (name_of_methodNamed Bd.named Bd.method).1
  have X0 : Stand p l e ({ frames := 1, cells := 0, slots := 0, locals := 14 } : Room) s m #[(.ref o0), (.long q1)] below meth c s₁ [] 0 0 := Stand.of_body Bd
  have e0 : s₁.heap = h0 := by rw [← hh, Bd.state]; rfl
  have N0 := Fr.nil n0
  suffices H : Run p.tables e below (FinR s ({ frames := 1, cells := 0, slots := 0, locals := 14 } : Room).cells ({ frames := 1, cells := 0, slots := 0, locals := 14 } : Room).slots (Say (fun v h L => v = none ∧ Fr n0 L ∧ Keep h0 h [o0] ∧ Exa Z h o0 "com/example/traceloom/traceloom/io/Bounds$Budget" ∧ Fld Z h o0 "com/example/traceloom/traceloom/io/Bounds$Budget" "allowed" "J" (.long (own_F1 q1)) ∧ Fld Z h o0 "com/example/traceloom/traceloom/io/Bounds$Budget" "taken" "J" (.long (0 : Int64))))) s₁ (mkF m 0 #[.val (.ref o0), .val (.long q1), .second] []) by
    obtain ⟨s₂, o, k1, k2, k3, k4⟩ := H
    exact ⟨s₂, o, castTop (own_ef3 m o0 q1) k1, k2, k3, k4⟩
  refine Run.aloadN (pc' := 1) X0 hx (hb hby own_d3_0) rfl rfl ?_
  obtain ⟨T1, X1, e1, st1⟩ := initO X0 hx hZ hown (hw _ (List.mem_of_getElem? (i := 14) rfl)) (hw _ (List.mem_of_getElem? (i := 15) rfl)) (hw _ (List.mem_of_getElem? (i := 16) rfl)) e0 (g := (mkF m 1 #[.val (.ref o0), .val (.long q1), .second] [(.ref o0)])) rfl (by rw [hml]; rfl) rfl (hb hby own_d3_1) (by decide) (W := 0) (by show 2 * 0 + _ ≤ _; exact Nat.le_of_eq rfl) (by decide)
  refine Run.back (g' := (mkF m 4 #[.val (.ref o0), .val (.long q1), .second] [])) st1 ?_
  refine Run.aloadN (pc' := 5) X1 hx (hb hby own_d3_4) rfl rfl ?_
  refine Run.lloadN (pc' := 6) X1 hx (hb hby own_d3_5) rfl rfl ?_
  obtain ⟨T2, L2, v2, X2, Q2, st2⟩ := callStatic X1 hx (y := (⟨"com/example/traceloom/traceloom/io/Bounds", "allowed", "(J)J"⟩ : MethodName)) (Ls := #[.val (.ref o0), .val (.long q1), .second]) (rest := [(.ref o0)]) (W := 1) (argsL := [(.long q1)]) hZ hown (hw _ (List.mem_of_getElem? (i := 17) rfl)) (hw _ (List.mem_of_getElem? (i := 2) rfl)) (hw _ (List.mem_of_getElem? (i := 3) rfl)) (hw _ (List.mem_of_getElem? (i := 4) rfl)) (by decide) e1 (rm1 l Z a0 hw [] q1  h0 n0 Z0 ) (hb hby own_d3_6) (lenOf own_pd0 rfl) (by decide) (by decide) (by rw [hml]; rfl) (Nat.le_of_eq rfl) (by decide) (by decide)
  obtain ⟨rfl, M2, e2⟩ := Q2
  have N2 := Fr.app N0 M2
  refine Run.back (g' := (mkF m 9 #[.val (.ref o0), .val (.long q1), .second] [(.long (own_F1 q1)), (.ref o0)])) st2 ?_
  obtain ⟨T3, h3, X3, e3, W3, st3⟩ := putF X2 hx hZ hown (host := "") (Or.inl (hw _ (List.mem_of_getElem? (i := 18) rfl))) Via.refl e2 F_allowed E_o (Or.inr ⟨(hw _ (List.mem_of_getElem? (i := 19) rfl)), rfl, hnm⟩) (hw _ (List.mem_of_getElem? (i := 9) rfl)) (ty := .long) (by decide) rfl rfl (g := (mkF m 9 #[.val (.ref o0), .val (.long q1), .second] [(.long (own_F1 q1)), (.ref o0)])) rfl rfl (hb hby own_d3_9)
  have N3 := Fr.snoc X3 N2 g_o
  have fq4 := Exa.wr W3 E_o
  have fq5 := Fld.same W3 F_allowed
  have fq6 := Fld.other W3 F_taken (Or.inr (slot_ne (Or.inl (hw _ (List.mem_of_getElem? (i := 30) rfl))) (Or.inr (hw _ (List.mem_of_getElem? (i := 19) rfl))) (by decide) (t := .long) (t' := .long) (by decide) (by decide)))
  have Z3 : n0 ≤ h3.size := Nat.le_trans Z0 (Keep.of_wr W3).1
  have K3 := (Keep.refl h0 [o0]).wr W3 (Or.inl (List.mem_of_getElem? (i := 0) rfl))
  refine Run.back (g' := (mkF m 12 #[.val (.ref o0), .val (.long q1), .second] [])) st3 ?_
  exact Run.retVoid X3 hx Bd.notSynchronized Bd.returns (hb hby own_d3_12) ⟨rfl, N3, by rw [e3]; exact K3, by rw [e3]; exact fq4, by rw [e3]; exact fq5, by rw [e3]; exact fq6⟩ (by decide) (by decide)
theorem own_d4_0 : decode prog_28_method_2_code 0 = .ok (.lload_n 1, 1) := by decide +kernel
theorem own_d4_1 : decode prog_28_method_2_code 1 = .ok (.lconst 0, 1) := by decide +kernel
theorem own_d4_2 : decode prog_28_method_2_code 2 = .ok (.lcmp, 1) := by decide +kernel
theorem own_d4_3 : decode prog_28_method_2_code 3 = .ok (.ifCond .le 21, 3) := by decide +kernel
theorem own_d4_6 : decode prog_28_method_2_code 6 = .ok (.lload_n 3, 1) := by decide +kernel
theorem own_d4_7 : decode prog_28_method_2_code 7 = .ok (.aload_n 0, 1) := by decide +kernel
theorem own_d4_8 : decode prog_28_method_2_code 8 = .ok (.getfield 13, 3) := by decide +kernel
theorem own_d4_11 : decode prog_28_method_2_code 11 = .ok (.aload_n 0, 1) := by decide +kernel
theorem own_d4_12 : decode prog_28_method_2_code 12 = .ok (.getfield 18, 3) := by decide +kernel
theorem own_d4_15 : decode prog_28_method_2_code 15 = .ok (.lsub, 1) := by decide +kernel
theorem own_d4_16 : decode prog_28_method_2_code 16 = .ok (.lload_n 1, 1) := by decide +kernel
theorem own_d4_17 : decode prog_28_method_2_code 17 = .ok (.ldiv, 1) := by decide +kernel
theorem own_d4_18 : decode prog_28_method_2_code 18 = .ok (.lcmp, 1) := by decide +kernel
theorem own_d4_19 : decode prog_28_method_2_code 19 = .ok (.ifCond .le 5, 3) := by decide +kernel
theorem own_d4_22 : decode prog_28_method_2_code 22 = .ok (.iconst 0, 1) := by decide +kernel
theorem own_d4_23 : decode prog_28_method_2_code 23 = .ok (.ireturn, 1) := by decide +kernel
theorem own_d4_24 : decode prog_28_method_2_code 24 = .ok (.aload_n 0, 1) := by decide +kernel
theorem own_d4_25 : decode prog_28_method_2_code 25 = .ok (.dup, 1) := by decide +kernel
theorem own_d4_26 : decode prog_28_method_2_code 26 = .ok (.getfield 18, 3) := by decide +kernel
theorem own_d4_29 : decode prog_28_method_2_code 29 = .ok (.lload_n 1, 1) := by decide +kernel
theorem own_d4_30 : decode prog_28_method_2_code 30 = .ok (.lload_n 3, 1) := by decide +kernel
theorem own_d4_31 : decode prog_28_method_2_code 31 = .ok (.lmul, 1) := by decide +kernel
theorem own_d4_32 : decode prog_28_method_2_code 32 = .ok (.ladd, 1) := by decide +kernel
theorem own_d4_33 : decode prog_28_method_2_code 33 = .ok (.putfield 18, 3) := by decide +kernel
theorem own_d4_36 : decode prog_28_method_2_code 36 = .ok (.iconst 1, 1) := by decide +kernel
theorem own_d4_37 : decode prog_28_method_2_code 37 = .ok (.ireturn, 1) := by decide +kernel
theorem own_ef4 (m : MethodId) (x0 : Addr) (x1 : Int64) (x2 : Int64) : entryFrame m #[(.ref x0), (.long x1), (.long x2)] 5 = mkF m 0 #[.val (.ref x0), .val (.long x1), .second, .val (.long x2), .second] [] := by first | (simp [entryFrame, mkF, argsToLocals, Value.category]; done) | rfl
set_option maxRecDepth 65536 in
set_option maxHeartbeats 40000000 in
theorem rm4 (l : Launch) (Z : State) (a0 : Array Value) (hw : ∀ d ∈ tables_1, d.before a0 Z = true) (ws : List Jvm.Cond) (o0 : Addr) (q1 : Int64) (q2 : Int64) (w1 : Int64) (w2 : Int64) (h0 : Heap) (n0 : Nat) (Z0 : n0 ≤ h0.size) (E_o : Exa Z h0 o0 "com/example/traceloom/traceloom/io/Bounds$Budget") (F_allowed : Fld Z h0 o0 "com/example/traceloom/traceloom/io/Bounds$Budget" "allowed" "J" (.long w1)) (F_taken : Fld Z h0 o0 "com/example/traceloom/traceloom/io/Bounds$Budget" "taken" "J" (.long w2)) (g_o : n0 ≤ o0) :
    MetFree l (⟨"com/example/traceloom/traceloom/io/Bounds$Budget", "take", "(JJ)Z"⟩ : MethodName) (head1 (Jvm.Cond.code (⟨"com/example/traceloom/traceloom/io/Bounds$Budget", "take", "(JJ)Z"⟩ : MethodName) prog_28_method_2_code 5 (some .boolean) :: ws) ({ frames := 0, cells := 0, slots := 0, locals := 0 } : Room)) (fun a U => a = #[(.ref o0), (.long q1), (.long q2)] ∧ Z.Warmed39 U.vm ∧ U.heap = h0) (fun _ _ _ _ _ => True) (fun _ U o U' => ∃ v L, o = .returned v ∧ (Say (fun v h L => v = some (.int (own_R w1 w2 q1 q2)) ∧ Fr n0 L ∧ Keep h0 h [o0] ∧ Exa Z h o0 "com/example/traceloom/traceloom/io/Bounds$Budget" ∧ Fld Z h o0 "com/example/traceloom/traceloom/io/Bounds$Budget" "allowed" "J" (.long w1) ∧ Fld Z h o0 "com/example/traceloom/traceloom/io/Bounds$Budget" "taken" "J" (.long (own_N w1 w2 q1 q2)))) v U'.heap L ∧ FrameEnd U o U' L ({ frames := 0, cells := 0, slots := 0, locals := 0 } : Room).cells ({ frames := 0, cells := 0, slots := 0, locals := 0 } : Room).slots) := by
  refine MetFree.of_bodySF (plainFor_of_name own_pn2) hisR ?_
  intro p e s m args below meth c s₁ Bd hml0 hP hK
  obtain ⟨rfl, hZ, hh⟩ := hP
  have hx := Bd.exec
  have hby := Bd.bytes
  have hml : c.maxLocals = 5 := hml0
  have hown : s.vm.findClass "com/example/traceloom/traceloom/io/Bounds$Budget" = some m.cls := findClass_of_methodNamed Bd.named
  have hnm := (name_of_methodNamed Bd.named Bd.method).1
  have X0 : Stand p l e ({ frames := 0, cells := 0, slots := 0, locals := 0 } : Room) s m #[(.ref o0), (.long q1), (.long q2)] below meth c s₁ [] 0 0 := Stand.of_body Bd
  have e0 : s₁.heap = h0 := by rw [← hh, Bd.state]; rfl
  have N0 := Fr.nil n0
  suffices H : Run p.tables e below (FinR s ({ frames := 0, cells := 0, slots := 0, locals := 0 } : Room).cells ({ frames := 0, cells := 0, slots := 0, locals := 0 } : Room).slots (Say (fun v h L => v = some (.int (own_R w1 w2 q1 q2)) ∧ Fr n0 L ∧ Keep h0 h [o0] ∧ Exa Z h o0 "com/example/traceloom/traceloom/io/Bounds$Budget" ∧ Fld Z h o0 "com/example/traceloom/traceloom/io/Bounds$Budget" "allowed" "J" (.long w1) ∧ Fld Z h o0 "com/example/traceloom/traceloom/io/Bounds$Budget" "taken" "J" (.long (own_N w1 w2 q1 q2))))) s₁ (mkF m 0 #[.val (.ref o0), .val (.long q1), .second, .val (.long q2), .second] []) by
    obtain ⟨s₂, o, k1, k2, k3, k4⟩ := H
    exact ⟨s₂, o, castTop (own_ef4 m o0 q1 q2) k1, k2, k3, k4⟩
  refine Run.lloadN (pc' := 1) X0 hx (hb hby own_d4_0) rfl rfl ?_
  refine Run.lconst (pc' := 2) (v := (0 : Int64)) X0 hx (hb hby own_d4_1) rfl rfl ?_
  refine Run.lcmp (pc' := 3) X0 hx (hb hby own_d4_2) rfl ?_
  by_cases hc3 : (0 : Int32) < (lcmpW q1 (0 : Int64))
  · skip
    refine Run.ifNo (pc' := 6) X0 hx (hb hby own_d4_3) ((if0 _ _).trans (tlt hc3).2.2.2) rfl ?_
    refine Run.lloadN (pc' := 7) X0 hx (hb hby own_d4_6) rfl rfl ?_
    refine Run.aloadN (pc' := 8) X0 hx (hb hby own_d4_7) rfl rfl ?_
    obtain ⟨T1, X1, e1, st1⟩ := getF X0 hx hZ hown (host := "") (Or.inl (hw _ (List.mem_of_getElem? (i := 18) rfl))) Via.refl e0 F_allowed (g := (mkF m 8 #[.val (.ref o0), .val (.long q1), .second, .val (.long q2), .second] [(.ref o0), (.long q2)])) rfl rfl (hb hby own_d4_8)
    refine Run.back (g' := (mkF m 11 #[.val (.ref o0), .val (.long q1), .second, .val (.long q2), .second] [(.long w1), (.long q2)])) st1 ?_
    refine Run.aloadN (pc' := 12) X1 hx (hb hby own_d4_11) rfl rfl ?_
    obtain ⟨T2, X2, e2, st2⟩ := getF X1 hx hZ hown (host := "") (Or.inl (hw _ (List.mem_of_getElem? (i := 29) rfl))) Via.refl e1 F_taken (g := (mkF m 12 #[.val (.ref o0), .val (.long q1), .second, .val (.long q2), .second] [(.ref o0), (.long w1), (.long q2)])) rfl rfl (hb hby own_d4_12)
    refine Run.back (g' := (mkF m 15 #[.val (.ref o0), .val (.long q1), .second, .val (.long q2), .second] [(.long w2), (.long w1), (.long q2)])) st2 ?_
    refine Run.lsub (pc' := 16) X2 hx (hb hby own_d4_15) rfl ?_
    refine Run.lloadN (pc' := 17) X2 hx (hb hby own_d4_16) rfl rfl ?_
    refine Run.ldiv (pc' := 18) X2 hx (hb hby own_d4_17) (own_ne3 hc3) rfl ?_
    refine Run.lcmp (pc' := 19) X2 hx (hb hby own_d4_18) rfl ?_
    by_cases hc19 : (0 : Int32) < (lcmpW q2 ((w1 - w2) / q1))
    · skip
      refine Run.ifNo (pc' := 22) X2 hx (hb hby own_d4_19) ((if0 _ _).trans (tlt hc19).2.2.2) rfl ?_
      refine Run.iconst (pc' := 23) (v := (0 : Int32)) X2 hx (hb hby own_d4_22) rfl rfl ?_
      exact Run.retSmall X2 hx (t := .boolean) (z' := (0 : Int32)) Bd.notSynchronized Bd.returns (by simp) rfl (hb hby own_d4_23) ⟨by rw [own_R, if_pos hc3, if_pos hc19], N0, by rw [e2]; exact (Keep.refl h0 [o0]), by rw [e2]; exact E_o, by rw [e2]; exact F_allowed, by rw [e2]; exact (by rw [own_N, if_pos hc3, if_pos hc19]; exact F_taken)⟩ (by decide) (by decide)
    · skip
      refine Run.ifYes (pc' := 24) X2 hx (hb hby own_d4_19) ((if0 _ _).trans (flt hc19).2.2.2) (by decide) (by decide) ?_
      refine Run.aloadN (pc' := 25) X2 hx (hb hby own_d4_24) rfl rfl ?_
      refine Run.dup (pc' := 26) X2 hx (hb hby own_d4_25) rfl rfl ?_
      obtain ⟨T3, X3, e3, st3⟩ := getF X2 hx hZ hown (host := "") (Or.inl (hw _ (List.mem_of_getElem? (i := 29) rfl))) Via.refl e2 F_taken (g := (mkF m 26 #[.val (.ref o0), .val (.long q1), .second, .val (.long q2), .second] [(.ref o0), (.ref o0)])) rfl rfl (hb hby own_d4_26)
      refine Run.back (g' := (mkF m 29 #[.val (.ref o0), .val (.long q1), .second, .val (.long q2), .second] [(.long w2), (.ref o0)])) st3 ?_
      refine Run.lloadN (pc' := 30) X3 hx (hb hby own_d4_29) rfl rfl ?_
      refine Run.lloadN (pc' := 31) X3 hx (hb hby own_d4_30) rfl rfl ?_
      refine Run.lmul (pc' := 32) X3 hx (hb hby own_d4_31) rfl ?_
      refine Run.ladd (pc' := 33) X3 hx (hb hby own_d4_32) rfl ?_
      obtain ⟨T4, h4, X4, e4, W4, st4⟩ := putF X3 hx hZ hown (host := "") (Or.inl (hw _ (List.mem_of_getElem? (i := 29) rfl))) Via.refl e3 F_taken E_o (Or.inl (hw _ (List.mem_of_getElem? (i := 30) rfl))) (hw _ (List.mem_of_getElem? (i := 9) rfl)) (ty := .long) (by decide) rfl rfl (g := (mkF m 33 #[.val (.ref o0), .val (.long q1), .second, .val (.long q2), .second] [(.long (w2 + (q1 * q2))), (.ref o0)])) rfl rfl (hb hby own_d4_33)
      have N4 := Fr.snoc X4 N0 g_o
      have fq5 := Exa.wr W4 E_o
      have fq6 := Fld.other W4 F_allowed (Or.inr (slot_ne (Or.inr (hw _ (List.mem_of_getElem? (i := 19) rfl))) (Or.inl (hw _ (List.mem_of_getElem? (i := 30) rfl))) (by decide) (t := .long) (t' := .long) (by decide) (by decide)))
      have fq7 := Fld.same W4 F_taken
      have Z4 : n0 ≤ h4.size := Nat.le_trans Z0 (Keep.of_wr W4).1
      have K4 := (Keep.refl h0 [o0]).wr W4 (Or.inl (List.mem_of_getElem? (i := 0) rfl))
      refine Run.back (g' := (mkF m 36 #[.val (.ref o0), .val (.long q1), .second, .val (.long q2), .second] [])) st4 ?_
      refine Run.iconst (pc' := 37) (v := (1 : Int32)) X4 hx (hb hby own_d4_36) rfl rfl ?_
      exact Run.retSmall X4 hx (t := .boolean) (z' := (1 : Int32)) Bd.notSynchronized Bd.returns (by simp) rfl (hb hby own_d4_37) ⟨by rw [own_R, if_pos hc3, if_neg hc19], N4, by rw [e4]; exact K4, by rw [e4]; exact fq5, by rw [e4]; exact fq6, by rw [e4]; exact (by rw [own_N, if_pos hc3, if_neg hc19]; exact fq7)⟩ (by decide) (by decide)
  · skip
    refine Run.ifYes (pc' := 24) X0 hx (hb hby own_d4_3) ((if0 _ _).trans (flt hc3).2.2.2) (by decide) (by decide) ?_
    refine Run.aloadN (pc' := 25) X0 hx (hb hby own_d4_24) rfl rfl ?_
    refine Run.dup (pc' := 26) X0 hx (hb hby own_d4_25) rfl rfl ?_
    obtain ⟨T8, X8, e8, st8⟩ := getF X0 hx hZ hown (host := "") (Or.inl (hw _ (List.mem_of_getElem? (i := 29) rfl))) Via.refl e0 F_taken (g := (mkF m 26 #[.val (.ref o0), .val (.long q1), .second, .val (.long q2), .second] [(.ref o0), (.ref o0)])) rfl rfl (hb hby own_d4_26)
    refine Run.back (g' := (mkF m 29 #[.val (.ref o0), .val (.long q1), .second, .val (.long q2), .second] [(.long w2), (.ref o0)])) st8 ?_
    refine Run.lloadN (pc' := 30) X8 hx (hb hby own_d4_29) rfl rfl ?_
    refine Run.lloadN (pc' := 31) X8 hx (hb hby own_d4_30) rfl rfl ?_
    refine Run.lmul (pc' := 32) X8 hx (hb hby own_d4_31) rfl ?_
    refine Run.ladd (pc' := 33) X8 hx (hb hby own_d4_32) rfl ?_
    obtain ⟨T9, h9, X9, e9, W9, st9⟩ := putF X8 hx hZ hown (host := "") (Or.inl (hw _ (List.mem_of_getElem? (i := 29) rfl))) Via.refl e8 F_taken E_o (Or.inl (hw _ (List.mem_of_getElem? (i := 30) rfl))) (hw _ (List.mem_of_getElem? (i := 9) rfl)) (ty := .long) (by decide) rfl rfl (g := (mkF m 33 #[.val (.ref o0), .val (.long q1), .second, .val (.long q2), .second] [(.long (w2 + (q1 * q2))), (.ref o0)])) rfl rfl (hb hby own_d4_33)
    have N9 := Fr.snoc X9 N0 g_o
    have fq10 := Exa.wr W9 E_o
    have fq11 := Fld.other W9 F_allowed (Or.inr (slot_ne (Or.inr (hw _ (List.mem_of_getElem? (i := 19) rfl))) (Or.inl (hw _ (List.mem_of_getElem? (i := 30) rfl))) (by decide) (t := .long) (t' := .long) (by decide) (by decide)))
    have fq12 := Fld.same W9 F_taken
    have Z9 : n0 ≤ h9.size := Nat.le_trans Z0 (Keep.of_wr W9).1
    have K9 := (Keep.refl h0 [o0]).wr W9 (Or.inl (List.mem_of_getElem? (i := 0) rfl))
    refine Run.back (g' := (mkF m 36 #[.val (.ref o0), .val (.long q1), .second, .val (.long q2), .second] [])) st9 ?_
    refine Run.iconst (pc' := 37) (v := (1 : Int32)) X9 hx (hb hby own_d4_36) rfl rfl ?_
    exact Run.retSmall X9 hx (t := .boolean) (z' := (1 : Int32)) Bd.notSynchronized Bd.returns (by simp) rfl (hb hby own_d4_37) ⟨by rw [own_R, if_neg hc3], N9, by rw [e9]; exact K9, by rw [e9]; exact fq10, by rw [e9]; exact fq11, by rw [e9]; exact (by rw [own_N, if_neg hc3]; exact fq12)⟩ (by decide) (by decide)
theorem own_pos (x : Int64) : 0 ≤ (x &&& (9223372036854775807 : Int64)).toInt := by
  have h := c_maskL x 9223372036854775807 63 (by decide) (by decide)
  rw [h]
  omega
def own_Inv (a tk left : Int64) : Prop := 0 ≤ tk.toInt ∧ tk.toInt ≤ a.toInt ∧ left.toInt = a.toInt - tk.toInt
theorem own_bm (x : Int) (h1 : -9223372036854775808 ≤ x) (h2 : x < 9223372036854775808) : x.bmod (2 ^ 64) = x := by
  have := Int.bmod_emod (x := x) (m := 2 ^ 64)
  rw [Int.bmod_def]
  omega
theorem own_inv0 (x : Int64) : own_Inv (own_F1 (x &&& (9223372036854775807 : Int64))) (0 : Int64) (own_F1 (x &&& (9223372036854775807 : Int64))) := by
  have hx := own_pos x
  generalize (x &&& (9223372036854775807 : Int64)) = f at *
  have h0 : (0 : Int64).toInt = 0 := rfl
  refine ⟨by rw [h0]; omega, ?_, by rw [h0]; omega⟩
  rw [h0, own_F1]
  by_cases h : (0 : Int32) < lcmpW f (46116860184189992 : Int64)
  · rw [if_pos h]; decide
  · rw [if_neg h]
    rw [lw_gt, Int64.lt_iff_toInt_lt] at h
    have e : (46116860184189992 : Int64).toInt = 46116860184189992 := rfl
    rw [e] at h
    have e2 : (200 : Int64).toInt = 200 := rfl
    have e3 : (16777216 : Int64).toInt = 16777216 := rfl
    rw [Int64.toInt_add, Int64.toInt_mul, e2, e3, own_bm (200 * f.toInt) (by omega) (by omega), own_bm _ (by omega) (by omega)]
    omega
theorem own_div {x y : Int64} (hx : 0 ≤ x.toInt) (hy : 0 < y.toInt) : (x / y).toInt = x.toInt / y.toInt := by
  have hy' : y ≠ -1 := fun e => by rw [e] at hy; exact absurd hy (by decide)
  rw [Int64.toInt_div_of_ne_right x y hy', Int.tdiv_eq_ediv_of_nonneg hx]
theorem own_left {a tk left : Int64} (h : own_Inv a tk left) : a - tk = left := by
  obtain ⟨h1, h2, h3⟩ := h
  have ha := rng64 a
  apply Int64.toInt_inj.mp
  rw [Int64.toInt_sub, own_bm _ (by omega) (by omega), h3]
theorem own_lt0 (x : Int64) : (0 : Int32) < lcmpW x (0 : Int64) ↔ 0 < x.toInt := by
  rw [lw_gt, Int64.lt_iff_toInt_lt]; rfl
/-- what take says -/
theorem own_Rv {a tk left b t : Int64} (h : own_Inv a tk left) (hb : 0 ≤ b.toInt) (ht : 0 ≤ t.toInt) : own_R a tk b t = if b.toInt * t.toInt ≤ left.toInt then 1 else 0 := by
  have hl := own_left h
  obtain ⟨h1, h2, h3⟩ := h
  rw [own_R, hl]
  by_cases q : 0 < b.toInt
  · rw [if_pos ((own_lt0 b).mpr q)]
    have key : left.toInt / b.toInt < t.toInt ↔ left.toInt < t.toInt * b.toInt := Int.ediv_lt_iff_lt_mul q
    rw [Int.mul_comm] at key
    have cmp : (0 : Int32) < lcmpW t (left / b) ↔ left.toInt / b.toInt < t.toInt := by rw [lw_gt, Int64.lt_iff_toInt_lt, own_div (by omega) q]
    by_cases z : (0 : Int32) < lcmpW t (left / b)
    · rw [if_pos z, if_neg (by have := key.mp (cmp.mp z); omega)]
    · rw [if_neg z, if_pos (by have := mt key.mpr (mt cmp.mpr z); omega)]
  · have e : b.toInt = 0 := by omega
    rw [if_neg (fun z => q ((own_lt0 b).mp z)), if_pos (by rw [e]; omega)]
theorem own_Nv {a tk left b t : Int64} (h : own_Inv a tk left) (hb : 0 ≤ b.toInt) (ht : 0 ≤ t.toInt) : (own_N a tk b t).toInt = if b.toInt * t.toInt ≤ left.toInt then tk.toInt + b.toInt * t.toInt else tk.toInt := by
  have hl := own_left h
  have h' := h
  obtain ⟨h1, h2, h3⟩ := h
  have ha := rng64 a
  have hR := own_Rv h' hb ht
  rw [own_R] at hR
  rw [own_N]
  have hp : 0 ≤ b.toInt * t.toInt := Int.mul_nonneg hb ht
  have hsum : b.toInt * t.toInt ≤ left.toInt → (tk + b * t).toInt = tk.toInt + b.toInt * t.toInt := fun z => by
    rw [Int64.toInt_add, Int64.toInt_mul, own_bm (b.toInt * t.toInt) (by omega) (by omega), own_bm _ (by omega) (by omega)]
  by_cases z : b.toInt * t.toInt ≤ left.toInt
  · rw [if_pos z] at hR ⊢
    by_cases q : (0 : Int32) < lcmpW b (0 : Int64)
    · rw [if_pos q] at hR ⊢
      by_cases q2 : (0 : Int32) < lcmpW t ((a - tk) / b)
      · rw [if_pos q2] at hR; exact absurd hR (by decide)
      · rw [if_neg q2]; exact hsum z
    · rw [if_neg q]; exact hsum z
  · rw [if_neg z] at hR ⊢
    by_cases q : (0 : Int32) < lcmpW b (0 : Int64)
    · rw [if_pos q] at hR ⊢
      by_cases q2 : (0 : Int32) < lcmpW t ((a - tk) / b)
      · rw [if_pos q2]
      · rw [if_neg q2] at hR; exact absurd hR (by decide)
    · rw [if_neg q] at hR; exact absurd hR (by decide)
theorem own_Fv {left b t : Int64} (hl : 0 ≤ left.toInt) (hb : 0 ≤ b.toInt) (ht : 0 ≤ t.toInt) : own_F2 b t left = if b.toInt * t.toInt ≤ left.toInt then 1 else 0 := by
  have z0 : (0 : Int64).toInt = 0 := rfl
  have eqz : ∀ x : Int64, lcmpW x (0 : Int64) = (0 : Int32) ↔ x.toInt = 0 := fun x => by rw [lw_eq, ← Int64.toInt_inj, z0]
  rw [own_F2]
  by_cases q : lcmpW b (0 : Int64) = (0 : Int32)
  · rw [if_pos q, if_pos (by rw [(eqz b).mp q]; omega)]; rfl
  rw [if_neg q]
  by_cases q2 : lcmpW t (0 : Int64) = (0 : Int32)
  · rw [if_pos q2, if_pos (by rw [(eqz t).mp q2]; omega)]; rfl
  rw [if_neg q2]
  have tp : 0 < t.toInt := by have := mt (eqz t).mpr q2; omega
  have key : b.toInt ≤ left.toInt / t.toInt ↔ b.toInt * t.toInt ≤ left.toInt := Int.le_ediv_iff_mul_le tp
  have cmp : (0 : Int32) < lcmpW b (left / t) ↔ ¬ b.toInt ≤ left.toInt / t.toInt := by
    rw [lw_gt, Int64.lt_iff_toInt_lt, own_div hl tp]; omega
  by_cases z : (0 : Int32) < lcmpW b (left / t)
  · rw [if_pos z, if_neg (mt key.mpr (cmp.mp z))]; rfl
  · rw [if_neg z, if_pos (key.mp (by have := mt cmp.mpr z; omega))]; rfl
theorem own_eq {a tk left b t : Int64} (h : own_Inv a tk left) (hb : 0 ≤ b.toInt) (ht : 0 ≤ t.toInt) : own_R a tk b t = own_F2 b t left := by
  rw [own_Rv h hb ht, own_Fv (by obtain ⟨h1, h2, h3⟩ := h; omega) hb ht]
theorem own_no {a tk left b t : Int64} (h : own_Inv a tk left) (hb : 0 ≤ b.toInt) (ht : 0 ≤ t.toInt) (e : own_F2 b t left = (0 : Int32)) : own_Inv a (own_N a tk b t) left := by
  have hn := own_Nv h hb ht
  obtain ⟨h1, h2, h3⟩ := h
  rw [own_Fv (by omega) hb ht] at e
  have z : ¬ b.toInt * t.toInt ≤ left.toInt := fun z => by rw [if_pos z] at e; exact absurd e (by decide)
  rw [if_neg z] at hn
  exact ⟨by omega, by omega, by omega⟩
theorem own_yes {a tk left b t : Int64} (h : own_Inv a tk left) (hb : 0 ≤ b.toInt) (ht : 0 ≤ t.toInt) (e : ¬ own_F2 b t left = (0 : Int32)) : own_Inv a (own_N a tk b t) (left - (b * t)) := by
  have hn := own_Nv h hb ht
  have ha := rng64 a
  obtain ⟨h1, h2, h3⟩ := h
  rw [own_Fv (by omega) hb ht] at e
  have z : b.toInt * t.toInt ≤ left.toInt := Decidable.byContradiction fun z => by rw [if_neg z] at e; exact e rfl
  have hp : 0 ≤ b.toInt * t.toInt := Int.mul_nonneg hb ht
  rw [if_pos z] at hn
  refine ⟨by omega, by omega, ?_⟩
  rw [Int64.toInt_sub, Int64.toInt_mul, own_bm (b.toInt * t.toInt) (by omega) (by omega), own_bm _ (by omega) (by omega)]
  omega
theorem own_last {a tk left : Int64} (h : own_Inv a tk left) : ¬ own_R a tk left (1 : Int64) = (0 : Int32) := by
  have e1 : (1 : Int64).toInt = 1 := rfl
  have h' := h
  obtain ⟨h1, h2, h3⟩ := h
  rw [own_Rv h' (by omega) (by rw [e1]; omega), e1, if_pos (by omega)]
  decide
theorem own_over {a tk left : Int64} (h : own_Inv a tk left) : own_R a (own_N a tk left (1 : Int64)) (1 : Int64) (1 : Int64) = (0 : Int32) := by
  have e1 : (1 : Int64).toInt = 1 := rfl
  have z0 : (0 : Int64).toInt = 0 := rfl
  have h' := h
  obtain ⟨h1, h2, h3⟩ := h
  have hn := own_Nv h' (b := left) (t := 1) (by omega) (by rw [e1]; omega)
  rw [e1, if_pos (by omega)] at hn
  have hi : own_Inv a (own_N a tk left (1 : Int64)) (0 : Int64) := ⟨by omega, by omega, by omega⟩
  rw [own_Rv hi (by rw [e1]; omega) (by rw [e1]; omega), e1, z0, if_neg (by omega)]

theorem own_ef0 (m : MethodId) (x0 : Int64) (x1 : Int64) (x2 : Int64) (x3 : Int64) (x4 : Int64) : entryFrame m #[(.long x0), (.long x1), (.long x2), (.long x3), (.long x4)] maxLocals = mkF m 0 #[.val (.long x0), .second, .val (.long x1), .second, .val (.long x2), .second, .val (.long x3), .second, .val (.long x4), .second, .unset, .unset, .unset, .unset, .unset, .unset, .unset, .unset, .unset, .unset, .unset, .unset, .unset, .unset, .unset, .unset, .unset, .unset, .unset, .unset, .unset, .unset, .unset] [] := by first | (simp [entryFrame, mkF, argsToLocals, Value.category, maxLocals]; done) | rfl
set_option maxRecDepth 65536 in
set_option maxHeartbeats 40000000 in
theorem rm0 (l : Launch) (Z : State) (a0 : Array Value) (hw : ∀ d ∈ tables_1, d.before a0 Z = true) (ws : List Jvm.Cond) (q0 : Int64) (q1 : Int64) (q2 : Int64) (q3 : Int64) (q4 : Int64) (h0 : Heap) (n0 : Nat) (Z0 : n0 ≤ h0.size) :
    MetFree l x (head1 (Jvm.Cond.code x code maxLocals ret :: ws) room_1) (fun a U => a = #[(.long q0), (.long q1), (.long q2), (.long q3), (.long q4)] ∧ Z.Warmed39 U.vm ∧ U.heap = h0) (fun _ _ _ _ _ => True) (fun _ U o U' => ∃ v L, o = .returned v ∧ (Say (fun v h L => v = some (.int 1) ∧ Fr n0 L)) v U'.heap L ∧ FrameEnd U o U' L room_1.cells room_1.slots) := by
  refine MetFree.of_bodySF (plainFor_of_name own_pn1) hisR ?_
  intro p e s m args below meth c s₁ Bd hml0 hP hK
  obtain ⟨rfl, hZ, hh⟩ := hP
  have hx := Bd.exec
  have hby := Bd.bytes
  have hml : c.maxLocals = 33 := hml0
  have hown : s.vm.findClass "com/example/traceloom/traceloom/io/BoundsTakePinLaw" = some m.cls := findClass_of_methodNamed Bd.named
  have hnm := (name_of_methodNamed Bd.named Bd.method).1
  have X0 : Stand p l e room_1 s m #[(.long q0), (.long q1), (.long q2), (.long q3), (.long q4)] below meth c s₁ [] 0 0 := Stand.of_body Bd
  have e0 : s₁.heap = h0 := by rw [← hh, Bd.state]; rfl
  have N0 := Fr.nil n0
  suffices H : Run p.tables e below (FinR s room_1.cells room_1.slots (Say (fun v h L => v = some (.int 1) ∧ Fr n0 L))) s₁ (mkF m 0 #[.val (.long q0), .second, .val (.long q1), .second, .val (.long q2), .second, .val (.long q3), .second, .val (.long q4), .second, .unset, .unset, .unset, .unset, .unset, .unset, .unset, .unset, .unset, .unset, .unset, .unset, .unset, .unset, .unset, .unset, .unset, .unset, .unset, .unset, .unset, .unset, .unset] []) by
    obtain ⟨s₂, o, k1, k2, k3, k4⟩ := H
    exact ⟨s₂, o, castTop (own_ef0 m q0 q1 q2 q3 q4) k1, k2, k3, k4⟩
  refine Run.lloadN (pc' := 1) X0 hx (hb hby at_0) rfl rfl ?_
  refine Run.ldc2Long (pc' := 4) (v := (9223372036854775807 : Int64)) X0 hx hown (mvT hZ (hw _ (List.mem_of_getElem? (i := 0) rfl))) (hb hby at_1) rfl ?_
  refine Run.land (pc' := 5) X0 hx (hb hby at_4) rfl ?_
  refine Run.lstore (pc' := 7) X0 hx (l' := #[.val (.long q0), .second, .val (.long q1), .second, .val (.long q2), .second, .val (.long q3), .second, .val (.long q4), .second, .val (.long (q0 &&& (9223372036854775807 : Int64))), .second, .unset, .unset, .unset, .unset, .unset, .unset, .unset, .unset, .unset, .unset, .unset, .unset, .unset, .unset, .unset, .unset, .unset, .unset, .unset, .unset, .unset]) (hb hby at_5) rfl rfl ?_
  refine Run.lloadN (pc' := 8) X0 hx (hb hby at_7) rfl rfl ?_
  refine Run.ldc2Long (pc' := 11) (v := (9223372036854775807 : Int64)) X0 hx hown (mvT hZ (hw _ (List.mem_of_getElem? (i := 0) rfl))) (hb hby at_8) rfl ?_
  refine Run.land (pc' := 12) X0 hx (hb hby at_11) rfl ?_
  refine Run.lstore (pc' := 14) X0 hx (l' := #[.val (.long q0), .second, .val (.long q1), .second, .val (.long q2), .second, .val (.long q3), .second, .val (.long q4), .second, .val (.long (q0 &&& (9223372036854775807 : Int64))), .second, .val (.long (q1 &&& (9223372036854775807 : Int64))), .second, .unset, .unset, .unset, .unset, .unset, .unset, .unset, .unset, .unset, .unset, .unset, .unset, .unset, .unset, .unset, .unset, .unset, .unset, .unset]) (hb hby at_12) rfl rfl ?_
  refine Run.lload (pc' := 16) X0 hx (hb hby at_14) rfl rfl ?_
  refine Run.ldc2Long (pc' := 19) (v := (9223372036854775807 : Int64)) X0 hx hown (mvT hZ (hw _ (List.mem_of_getElem? (i := 0) rfl))) (hb hby at_16) rfl ?_
  refine Run.land (pc' := 20) X0 hx (hb hby at_19) rfl ?_
  refine Run.lstore (pc' := 22) X0 hx (l' := #[.val (.long q0), .second, .val (.long q1), .second, .val (.long q2), .second, .val (.long q3), .second, .val (.long q4), .second, .val (.long (q0 &&& (9223372036854775807 : Int64))), .second, .val (.long (q1 &&& (9223372036854775807 : Int64))), .second, .val (.long (q2 &&& (9223372036854775807 : Int64))), .second, .unset, .unset, .unset, .unset, .unset, .unset, .unset, .unset, .unset, .unset, .unset, .unset, .unset, .unset, .unset, .unset, .unset]) (hb hby at_20) rfl rfl ?_
  refine Run.lload (pc' := 24) X0 hx (hb hby at_22) rfl rfl ?_
  refine Run.ldc2Long (pc' := 27) (v := (9223372036854775807 : Int64)) X0 hx hown (mvT hZ (hw _ (List.mem_of_getElem? (i := 0) rfl))) (hb hby at_24) rfl ?_
  refine Run.land (pc' := 28) X0 hx (hb hby at_27) rfl ?_
  refine Run.lstore (pc' := 30) X0 hx (l' := #[.val (.long q0), .second, .val (.long q1), .second, .val (.long q2), .second, .val (.long q3), .second, .val (.long q4), .second, .val (.long (q0 &&& (9223372036854775807 : Int64))), .second, .val (.long (q1 &&& (9223372036854775807 : Int64))), .second, .val (.long (q2 &&& (9223372036854775807 : Int64))), .second, .val (.long (q3 &&& (9223372036854775807 : Int64))), .second, .unset, .unset, .unset, .unset, .unset, .unset, .unset, .unset, .unset, .unset, .unset, .unset, .unset, .unset, .unset]) (hb hby at_28) rfl rfl ?_
  refine Run.lload (pc' := 32) X0 hx (hb hby at_30) rfl rfl ?_
  refine Run.ldc2Long (pc' := 35) (v := (9223372036854775807 : Int64)) X0 hx hown (mvT hZ (hw _ (List.mem_of_getElem? (i := 0) rfl))) (hb hby at_32) rfl ?_
  refine Run.land (pc' := 36) X0 hx (hb hby at_35) rfl ?_
  refine Run.lstore (pc' := 38) X0 hx (l' := #[.val (.long q0), .second, .val (.long q1), .second, .val (.long q2), .second, .val (.long q3), .second, .val (.long q4), .second, .val (.long (q0 &&& (9223372036854775807 : Int64))), .second, .val (.long (q1 &&& (9223372036854775807 : Int64))), .second, .val (.long (q2 &&& (9223372036854775807 : Int64))), .second, .val (.long (q3 &&& (9223372036854775807 : Int64))), .second, .val (.long (q4 &&& (9223372036854775807 : Int64))), .second, .unset, .unset, .unset, .unset, .unset, .unset, .unset, .unset, .unset, .unset, .unset, .unset, .unset]) (hb hby at_36) rfl rfl ?_
  refine Run.lload (pc' := 40) X0 hx (hb hby at_38) rfl rfl ?_
  obtain ⟨T1, L1, v1, X1, Q1, st1⟩ := callStatic X0 hx (y := (⟨"com/example/traceloom/traceloom/io/Bounds", "allowed", "(J)J"⟩ : MethodName)) (Ls := #[.val (.long q0), .second, .val (.long q1), .second, .val (.long q2), .second, .val (.long q3), .second, .val (.long q4), .second, .val (.long (q0 &&& (9223372036854775807 : Int64))), .second, .val (.long (q1 &&& (9223372036854775807 : Int64))), .second, .val (.long (q2 &&& (9223372036854775807 : Int64))), .second, .val (.long (q3 &&& (9223372036854775807 : Int64))), .second, .val (.long (q4 &&& (9223372036854775807 : Int64))), .second, .unset, .unset, .unset, .unset, .unset, .unset, .unset, .unset, .unset, .unset, .unset, .unset, .unset]) (rest := []) (W := 0) (argsL := [(.long (q0 &&& (9223372036854775807 : Int64)))]) hZ hown (hw _ (List.mem_of_getElem? (i := 1) rfl)) (hw _ (List.mem_of_getElem? (i := 2) rfl)) (hw _ (List.mem_of_getElem? (i := 3) rfl)) (hw _ (List.mem_of_getElem? (i := 4) rfl)) (by decide) e0 (rm1 l Z a0 hw [] (q0 &&& (9223372036854775807 : Int64))  h0 n0 Z0 ) (hb hby at_40) (lenOf own_pd0 rfl) (by decide) (by decide) (by rw [hml]; rfl) (Nat.le_of_eq rfl) (by decide) (by decide)
  obtain ⟨rfl, M1, e1⟩ := Q1
  have N1 := Fr.app N0 M1
  refine Run.back (g' := (mkF m 43 #[.val (.long q0), .second, .val (.long q1), .second, .val (.long q2), .second, .val (.long q3), .second, .val (.long q4), .second, .val (.long (q0 &&& (9223372036854775807 : Int64))), .second, .val (.long (q1 &&& (9223372036854775807 : Int64))), .second, .val (.long (q2 &&& (9223372036854775807 : Int64))), .second, .val (.long (q3 &&& (9223372036854775807 : Int64))), .second, .val (.long (q4 &&& (9223372036854775807 : Int64))), .second, .unset, .unset, .unset, .unset, .unset, .unset, .unset, .unset, .unset, .unset, .unset, .unset, .unset] [(.long (own_F1 (q0 &&& (9223372036854775807 : Int64))))])) st1 ?_
  refine Run.lstore (pc' := 45) X1 hx (l' := #[.val (.long q0), .second, .val (.long q1), .second, .val (.long q2), .second, .val (.long q3), .second, .val (.long q4), .second, .val (.long (q0 &&& (9223372036854775807 : Int64))), .second, .val (.long (q1 &&& (9223372036854775807 : Int64))), .second, .val (.long (q2 &&& (9223372036854775807 : Int64))), .second, .val (.long (q3 &&& (9223372036854775807 : Int64))), .second, .val (.long (q4 &&& (9223372036854775807 : Int64))), .second, .val (.long (own_F1 (q0 &&& (9223372036854775807 : Int64)))), .second, .unset, .unset, .unset, .unset, .unset, .unset, .unset, .unset, .unset, .unset, .unset]) (hb hby at_43) rfl rfl ?_
  obtain ⟨T2, h2, X2, e2, E2, A2, D2, -, st2⟩ := newO X1 hx hZ hown (hw _ (List.mem_of_getElem? (i := 8) rfl)) (hw _ (List.mem_of_getElem? (i := 9) rfl)) (hw _ (List.mem_of_getElem? (i := 10) rfl)) e1 (g := (mkF m 45 #[.val (.long q0), .second, .val (.long q1), .second, .val (.long q2), .second, .val (.long q3), .second, .val (.long q4), .second, .val (.long (q0 &&& (9223372036854775807 : Int64))), .second, .val (.long (q1 &&& (9223372036854775807 : Int64))), .second, .val (.long (q2 &&& (9223372036854775807 : Int64))), .second, .val (.long (q3 &&& (9223372036854775807 : Int64))), .second, .val (.long (q4 &&& (9223372036854775807 : Int64))), .second, .val (.long (own_F1 (q0 &&& (9223372036854775807 : Int64)))), .second, .unset, .unset, .unset, .unset, .unset, .unset, .unset, .unset, .unset, .unset, .unset] [])) rfl (hb hby at_45) (by decide) (by decide)
  obtain ⟨b2, g2⟩ : ∃ z, z = h0.size := ⟨_, rfl⟩
  rw [← g2] at A2 D2 st2
  have G2 : n0 ≤ b2 := Nat.le_trans Z0 (Nat.le_of_eq g2.symm)
  have Z2 : n0 ≤ h2.size := Nat.le_trans Z0 E2.1
  have F2_allowed : Fld Z h2 b2 "com/example/traceloom/traceloom/io/Bounds$Budget" "allowed" "J" (.long (0 : Int64)) := D2 (Or.inr (hw _ (List.mem_of_getElem? (i := 19) rfl))) (ty := .long) (by decide)
  have F2_taken : Fld Z h2 b2 "com/example/traceloom/traceloom/io/Bounds$Budget" "taken" "J" (.long (0 : Int64)) := D2 (Or.inl (hw _ (List.mem_of_getElem? (i := 30) rfl))) (ty := .long) (by decide)
  refine Run.back (g' := (mkF m 48 #[.val (.long q0), .second, .val (.long q1), .second, .val (.long q2), .second, .val (.long q3), .second, .val (.long q4), .second, .val (.long (q0 &&& (9223372036854775807 : Int64))), .second, .val (.long (q1 &&& (9223372036854775807 : Int64))), .second, .val (.long (q2 &&& (9223372036854775807 : Int64))), .second, .val (.long (q3 &&& (9223372036854775807 : Int64))), .second, .val (.long (q4 &&& (9223372036854775807 : Int64))), .second, .val (.long (own_F1 (q0 &&& (9223372036854775807 : Int64)))), .second, .unset, .unset, .unset, .unset, .unset, .unset, .unset, .unset, .unset, .unset, .unset] [(.ref b2)])) st2 ?_
  refine Run.dup (pc' := 49) X2 hx (hb hby at_48) rfl rfl ?_
  refine Run.lload (pc' := 51) X2 hx (hb hby at_49) rfl rfl ?_
  obtain ⟨T3, L3, v3, X3, Q3, st3⟩ := callSpecial X2 hx (y := (⟨"com/example/traceloom/traceloom/io/Bounds$Budget", "<init>", "(J)V"⟩ : MethodName)) (a := b2) (Ls := #[.val (.long q0), .second, .val (.long q1), .second, .val (.long q2), .second, .val (.long q3), .second, .val (.long q4), .second, .val (.long (q0 &&& (9223372036854775807 : Int64))), .second, .val (.long (q1 &&& (9223372036854775807 : Int64))), .second, .val (.long (q2 &&& (9223372036854775807 : Int64))), .second, .val (.long (q3 &&& (9223372036854775807 : Int64))), .second, .val (.long (q4 &&& (9223372036854775807 : Int64))), .second, .val (.long (own_F1 (q0 &&& (9223372036854775807 : Int64)))), .second, .unset, .unset, .unset, .unset, .unset, .unset, .unset, .unset, .unset, .unset, .unset]) (rest := [(.ref b2)]) (W := 1) (argsL := [(.long (q0 &&& (9223372036854775807 : Int64)))]) rfl hZ hown (hw _ (List.mem_of_getElem? (i := 11) rfl)) (hw _ (List.mem_of_getElem? (i := 12) rfl)) (hw _ (List.mem_of_getElem? (i := 10) rfl)) (hw _ (List.mem_of_getElem? (i := 13) rfl)) (by decide) e2 (rm3 l Z a0 hw [] b2 (q0 &&& (9223372036854775807 : Int64))  h2 n0 Z2 A2 F2_allowed F2_taken G2 ) (hb hby at_51) (lenOf own_pd1 rfl) (by decide) (by decide) (by rw [hml]; rfl) (Nat.le_of_eq rfl) (by decide) (by decide)
  obtain ⟨rfl, M3, K3, E3, F3_allowed, F3_taken⟩ := Q3
  have N3 := Fr.app N1 M3
  have fq4 := Exa.keep A2 K3
  have Z3 : n0 ≤ T3.heap.size := Nat.le_trans Z2 K3.1
  refine Run.back (g' := (mkF m 54 #[.val (.long q0), .second, .val (.long q1), .second, .val (.long q2), .second, .val (.long q3), .second, .val (.long q4), .second, .val (.long (q0 &&& (9223372036854775807 : Int64))), .second, .val (.long (q1 &&& (9223372036854775807 : Int64))), .second, .val (.long (q2 &&& (9223372036854775807 : Int64))), .second, .val (.long (q3 &&& (9223372036854775807 : Int64))), .second, .val (.long (q4 &&& (9223372036854775807 : Int64))), .second, .val (.long (own_F1 (q0 &&& (9223372036854775807 : Int64)))), .second, .unset, .unset, .unset, .unset, .unset, .unset, .unset, .unset, .unset, .unset, .unset] [(.ref b2)])) st3 ?_
  refine Run.astore (pc' := 56) X3 hx (l' := #[.val (.long q0), .second, .val (.long q1), .second, .val (.long q2), .second, .val (.long q3), .second, .val (.long q4), .second, .val (.long (q0 &&& (9223372036854775807 : Int64))), .second, .val (.long (q1 &&& (9223372036854775807 : Int64))), .second, .val (.long (q2 &&& (9223372036854775807 : Int64))), .second, .val (.long (q3 &&& (9223372036854775807 : Int64))), .second, .val (.long (q4 &&& (9223372036854775807 : Int64))), .second, .val (.long (own_F1 (q0 &&& (9223372036854775807 : Int64)))), .second, .val (.ref b2), .unset, .unset, .unset, .unset, .unset, .unset, .unset, .unset, .unset, .unset]) (hb hby at_54) rfl rfl ?_
  have inv0 := own_inv0 q0
  refine Run.lload (pc' := 58) X3 hx (hb hby at_56) rfl rfl ?_
  refine Run.lload (pc' := 60) X3 hx (hb hby at_58) rfl rfl ?_
  refine Run.lload (pc' := 62) X3 hx (hb hby at_60) rfl rfl ?_
  obtain ⟨T5, L5, v5, X5, Q5, st5⟩ := callStatic X3 hx (y := (⟨"com/example/traceloom/traceloom/io/BoundsTakePinLaw", "fits", "(JJJ)Z"⟩ : MethodName)) (Ls := #[.val (.long q0), .second, .val (.long q1), .second, .val (.long q2), .second, .val (.long q3), .second, .val (.long q4), .second, .val (.long (q0 &&& (9223372036854775807 : Int64))), .second, .val (.long (q1 &&& (9223372036854775807 : Int64))), .second, .val (.long (q2 &&& (9223372036854775807 : Int64))), .second, .val (.long (q3 &&& (9223372036854775807 : Int64))), .second, .val (.long (q4 &&& (9223372036854775807 : Int64))), .second, .val (.long (own_F1 (q0 &&& (9223372036854775807 : Int64)))), .second, .val (.ref b2), .unset, .unset, .unset, .unset, .unset, .unset, .unset, .unset, .unset, .unset]) (rest := []) (W := 0) (argsL := [(.long (q1 &&& (9223372036854775807 : Int64))), (.long (q2 &&& (9223372036854775807 : Int64))), (.long (own_F1 (q0 &&& (9223372036854775807 : Int64))))]) hZ hown (hw _ (List.mem_of_getElem? (i := 20) rfl)) (hw _ (List.mem_of_getElem? (i := 21) rfl)) (hw _ (List.mem_of_getElem? (i := 22) rfl)) (hw _ (List.mem_of_getElem? (i := 23) rfl)) (by decide) rfl (rm2 l Z a0 hw [] (q1 &&& (9223372036854775807 : Int64)) (q2 &&& (9223372036854775807 : Int64)) (own_F1 (q0 &&& (9223372036854775807 : Int64)))  T3.heap n0 Z3 ) (hb hby at_62) (lenOf own_pd2 rfl) (by decide) (by decide) (by rw [hml]; rfl) (Nat.le_of_eq rfl) (by decide) (by decide)
  obtain ⟨rfl, M5, e5⟩ := Q5
  have N5 := Fr.app N3 M5
  refine Run.back (g' := (mkF m 65 #[.val (.long q0), .second, .val (.long q1), .second, .val (.long q2), .second, .val (.long q3), .second, .val (.long q4), .second, .val (.long (q0 &&& (9223372036854775807 : Int64))), .second, .val (.long (q1 &&& (9223372036854775807 : Int64))), .second, .val (.long (q2 &&& (9223372036854775807 : Int64))), .second, .val (.long (q3 &&& (9223372036854775807 : Int64))), .second, .val (.long (q4 &&& (9223372036854775807 : Int64))), .second, .val (.long (own_F1 (q0 &&& (9223372036854775807 : Int64)))), .second, .val (.ref b2), .unset, .unset, .unset, .unset, .unset, .unset, .unset, .unset, .unset, .unset] [(.int (own_F2 (q1 &&& (9223372036854775807 : Int64)) (q2 &&& (9223372036854775807 : Int64)) (own_F1 (q0 &&& (9223372036854775807 : Int64)))))])) st5 ?_
  refine Run.istore (pc' := 67) X5 hx (l' := #[.val (.long q0), .second, .val (.long q1), .second, .val (.long q2), .second, .val (.long q3), .second, .val (.long q4), .second, .val (.long (q0 &&& (9223372036854775807 : Int64))), .second, .val (.long (q1 &&& (9223372036854775807 : Int64))), .second, .val (.long (q2 &&& (9223372036854775807 : Int64))), .second, .val (.long (q3 &&& (9223372036854775807 : Int64))), .second, .val (.long (q4 &&& (9223372036854775807 : Int64))), .second, .val (.long (own_F1 (q0 &&& (9223372036854775807 : Int64)))), .second, .val (.ref b2), .val (.int (own_F2 (q1 &&& (9223372036854775807 : Int64)) (q2 &&& (9223372036854775807 : Int64)) (own_F1 (q0 &&& (9223372036854775807 : Int64))))), .unset, .unset, .unset, .unset, .unset, .unset, .unset, .unset, .unset]) (hb hby at_65) rfl rfl ?_
  refine Run.aload (pc' := 69) X5 hx (hb hby at_67) rfl rfl ?_
  refine Run.lload (pc' := 71) X5 hx (hb hby at_69) rfl rfl ?_
  refine Run.lload (pc' := 73) X5 hx (hb hby at_71) rfl rfl ?_
  obtain ⟨T6, L6, v6, X6, Q6, st6⟩ := callVirtual X5 hx (y := (⟨"com/example/traceloom/traceloom/io/Bounds$Budget", "take", "(JJ)Z"⟩ : MethodName)) (z := (⟨"com/example/traceloom/traceloom/io/Bounds$Budget", "take", "(JJ)Z"⟩ : MethodName)) (C := "com/example/traceloom/traceloom/io/Bounds$Budget") (a := b2) (Ls := #[.val (.long q0), .second, .val (.long q1), .second, .val (.long q2), .second, .val (.long q3), .second, .val (.long q4), .second, .val (.long (q0 &&& (9223372036854775807 : Int64))), .second, .val (.long (q1 &&& (9223372036854775807 : Int64))), .second, .val (.long (q2 &&& (9223372036854775807 : Int64))), .second, .val (.long (q3 &&& (9223372036854775807 : Int64))), .second, .val (.long (q4 &&& (9223372036854775807 : Int64))), .second, .val (.long (own_F1 (q0 &&& (9223372036854775807 : Int64)))), .second, .val (.ref b2), .val (.int (own_F2 (q1 &&& (9223372036854775807 : Int64)) (q2 &&& (9223372036854775807 : Int64)) (own_F1 (q0 &&& (9223372036854775807 : Int64))))), .unset, .unset, .unset, .unset, .unset, .unset, .unset, .unset, .unset]) (rest := []) (W := 0) (argsL := [(.long (q1 &&& (9223372036854775807 : Int64))), (.long (q2 &&& (9223372036854775807 : Int64)))]) hZ hown (hw _ (List.mem_of_getElem? (i := 24) rfl)) (hw _ (List.mem_of_getElem? (i := 25) rfl)) (notFace_of_selects (args := #[]) (mvT hZ (hw _ (List.mem_of_getElem? (i := 27) rfl)))) (hw _ (List.mem_of_getElem? (i := 27) rfl)) (hw _ (List.mem_of_getElem? (i := 26) rfl)) (hw _ (List.mem_of_getElem? (i := 10) rfl)) (hw _ (List.mem_of_getElem? (i := 28) rfl)) (by decide) e5 E3 (rm4 l Z a0 hw [] b2 (q1 &&& (9223372036854775807 : Int64)) (q2 &&& (9223372036854775807 : Int64)) (own_F1 (q0 &&& (9223372036854775807 : Int64))) (0 : Int64) T3.heap n0 Z3 E3 F3_allowed F3_taken G2 ) (hb hby at_73) (lenOf own_pd3 rfl) (by decide) (by decide) (by rw [hml]; rfl) (Nat.le_of_eq rfl) (by decide) (by decide)
  obtain ⟨rfl, M6, K6, E6, F6_allowed, F6_taken⟩ := Q6
  have N6 := Fr.app N5 M6
  have fq7 := Exa.keep E3 K6
  have Z6 : n0 ≤ T6.heap.size := Nat.le_trans Z3 K6.1
  refine Run.back (g' := (mkF m 76 #[.val (.long q0), .second, .val (.long q1), .second, .val (.long q2), .second, .val (.long q3), .second, .val (.long q4), .second, .val (.long (q0 &&& (9223372036854775807 : Int64))), .second, .val (.long (q1 &&& (9223372036854775807 : Int64))), .second, .val (.long (q2 &&& (9223372036854775807 : Int64))), .second, .val (.long (q3 &&& (9223372036854775807 : Int64))), .second, .val (.long (q4 &&& (9223372036854775807 : Int64))), .second, .val (.long (own_F1 (q0 &&& (9223372036854775807 : Int64)))), .second, .val (.ref b2), .val (.int (own_F2 (q1 &&& (9223372036854775807 : Int64)) (q2 &&& (9223372036854775807 : Int64)) (own_F1 (q0 &&& (9223372036854775807 : Int64))))), .unset, .unset, .unset, .unset, .unset, .unset, .unset, .unset, .unset] [(.int (own_R (own_F1 (q0 &&& (9223372036854775807 : Int64))) (0 : Int64) (q1 &&& (9223372036854775807 : Int64)) (q2 &&& (9223372036854775807 : Int64))))])) st6 ?_
  refine Run.istore (pc' := 78) X6 hx (l' := #[.val (.long q0), .second, .val (.long q1), .second, .val (.long q2), .second, .val (.long q3), .second, .val (.long q4), .second, .val (.long (q0 &&& (9223372036854775807 : Int64))), .second, .val (.long (q1 &&& (9223372036854775807 : Int64))), .second, .val (.long (q2 &&& (9223372036854775807 : Int64))), .second, .val (.long (q3 &&& (9223372036854775807 : Int64))), .second, .val (.long (q4 &&& (9223372036854775807 : Int64))), .second, .val (.long (own_F1 (q0 &&& (9223372036854775807 : Int64)))), .second, .val (.ref b2), .val (.int (own_F2 (q1 &&& (9223372036854775807 : Int64)) (q2 &&& (9223372036854775807 : Int64)) (own_F1 (q0 &&& (9223372036854775807 : Int64))))), .val (.int (own_R (own_F1 (q0 &&& (9223372036854775807 : Int64))) (0 : Int64) (q1 &&& (9223372036854775807 : Int64)) (q2 &&& (9223372036854775807 : Int64)))), .unset, .unset, .unset, .unset, .unset, .unset, .unset, .unset]) (hb hby at_76) rfl rfl ?_
  refine Run.iload (pc' := 80) X6 hx (hb hby at_78) rfl rfl ?_
  refine Run.iload (pc' := 82) X6 hx (hb hby at_80) rfl rfl ?_
  refine Run.icmpYes (pc' := 87) X6 hx (hb hby at_82) (teq (own_eq inv0 (own_pos q1) (own_pos q2))).1 (by decide) (by decide) ?_
  refine Run.iload (pc' := 89) X6 hx (hb hby at_87) rfl rfl ?_
  by_cases hc89 : (own_F2 (q1 &&& (9223372036854775807 : Int64)) (q2 &&& (9223372036854775807 : Int64)) (own_F1 (q0 &&& (9223372036854775807 : Int64)))) = (0 : Int32)
  · skip
    refine Run.ifYes (pc' := 103) X6 hx (hb hby at_89) ((if0 _ _).trans (teq hc89).1) (by decide) (by decide) ?_
    refine Run.lload (pc' := 105) X6 hx (hb hby at_103) rfl rfl ?_
    refine Run.lstore (pc' := 107) X6 hx (l' := #[.val (.long q0), .second, .val (.long q1), .second, .val (.long q2), .second, .val (.long q3), .second, .val (.long q4), .second, .val (.long (q0 &&& (9223372036854775807 : Int64))), .second, .val (.long (q1 &&& (9223372036854775807 : Int64))), .second, .val (.long (q2 &&& (9223372036854775807 : Int64))), .second, .val (.long (q3 &&& (9223372036854775807 : Int64))), .second, .val (.long (q4 &&& (9223372036854775807 : Int64))), .second, .val (.long (own_F1 (q0 &&& (9223372036854775807 : Int64)))), .second, .val (.ref b2), .val (.int (own_F2 (q1 &&& (9223372036854775807 : Int64)) (q2 &&& (9223372036854775807 : Int64)) (own_F1 (q0 &&& (9223372036854775807 : Int64))))), .val (.int (own_R (own_F1 (q0 &&& (9223372036854775807 : Int64))) (0 : Int64) (q1 &&& (9223372036854775807 : Int64)) (q2 &&& (9223372036854775807 : Int64)))), .val (.long (own_F1 (q0 &&& (9223372036854775807 : Int64)))), .second, .unset, .unset, .unset, .unset, .unset, .unset]) (hb hby at_105) rfl rfl ?_
    have inv1 := own_no inv0 (own_pos q1) (own_pos q2) hc89
    refine Run.lload (pc' := 109) X6 hx (hb hby at_107) rfl rfl ?_
    refine Run.lload (pc' := 111) X6 hx (hb hby at_109) rfl rfl ?_
    refine Run.lload (pc' := 113) X6 hx (hb hby at_111) rfl rfl ?_
    obtain ⟨T8, L8, v8, X8, Q8, st8⟩ := callStatic X6 hx (y := (⟨"com/example/traceloom/traceloom/io/BoundsTakePinLaw", "fits", "(JJJ)Z"⟩ : MethodName)) (Ls := #[.val (.long q0), .second, .val (.long q1), .second, .val (.long q2), .second, .val (.long q3), .second, .val (.long q4), .second, .val (.long (q0 &&& (9223372036854775807 : Int64))), .second, .val (.long (q1 &&& (9223372036854775807 : Int64))), .second, .val (.long (q2 &&& (9223372036854775807 : Int64))), .second, .val (.long (q3 &&& (9223372036854775807 : Int64))), .second, .val (.long (q4 &&& (9223372036854775807 : Int64))), .second, .val (.long (own_F1 (q0 &&& (9223372036854775807 : Int64)))), .second, .val (.ref b2), .val (.int (own_F2 (q1 &&& (9223372036854775807 : Int64)) (q2 &&& (9223372036854775807 : Int64)) (own_F1 (q0 &&& (9223372036854775807 : Int64))))), .val (.int (own_R (own_F1 (q0 &&& (9223372036854775807 : Int64))) (0 : Int64) (q1 &&& (9223372036854775807 : Int64)) (q2 &&& (9223372036854775807 : Int64)))), .val (.long (own_F1 (q0 &&& (9223372036854775807 : Int64)))), .second, .unset, .unset, .unset, .unset, .unset, .unset]) (rest := []) (W := 0) (argsL := [(.long (q3 &&& (9223372036854775807 : Int64))), (.long (q4 &&& (9223372036854775807 : Int64))), (.long (own_F1 (q0 &&& (9223372036854775807 : Int64))))]) hZ hown (hw _ (List.mem_of_getElem? (i := 20) rfl)) (hw _ (List.mem_of_getElem? (i := 21) rfl)) (hw _ (List.mem_of_getElem? (i := 22) rfl)) (hw _ (List.mem_of_getElem? (i := 23) rfl)) (by decide) rfl (rm2 l Z a0 hw [] (q3 &&& (9223372036854775807 : Int64)) (q4 &&& (9223372036854775807 : Int64)) (own_F1 (q0 &&& (9223372036854775807 : Int64)))  T6.heap n0 Z6 ) (hb hby at_113) (lenOf own_pd2 rfl) (by decide) (by decide) (by rw [hml]; rfl) (Nat.le_of_eq rfl) (by decide) (by decide)
    obtain ⟨rfl, M8, e8⟩ := Q8
    have N8 := Fr.app N6 M8
    refine Run.back (g' := (mkF m 116 #[.val (.long q0), .second, .val (.long q1), .second, .val (.long q2), .second, .val (.long q3), .second, .val (.long q4), .second, .val (.long (q0 &&& (9223372036854775807 : Int64))), .second, .val (.long (q1 &&& (9223372036854775807 : Int64))), .second, .val (.long (q2 &&& (9223372036854775807 : Int64))), .second, .val (.long (q3 &&& (9223372036854775807 : Int64))), .second, .val (.long (q4 &&& (9223372036854775807 : Int64))), .second, .val (.long (own_F1 (q0 &&& (9223372036854775807 : Int64)))), .second, .val (.ref b2), .val (.int (own_F2 (q1 &&& (9223372036854775807 : Int64)) (q2 &&& (9223372036854775807 : Int64)) (own_F1 (q0 &&& (9223372036854775807 : Int64))))), .val (.int (own_R (own_F1 (q0 &&& (9223372036854775807 : Int64))) (0 : Int64) (q1 &&& (9223372036854775807 : Int64)) (q2 &&& (9223372036854775807 : Int64)))), .val (.long (own_F1 (q0 &&& (9223372036854775807 : Int64)))), .second, .unset, .unset, .unset, .unset, .unset, .unset] [(.int (own_F2 (q3 &&& (9223372036854775807 : Int64)) (q4 &&& (9223372036854775807 : Int64)) (own_F1 (q0 &&& (9223372036854775807 : Int64)))))])) st8 ?_
    refine Run.istore (pc' := 118) X8 hx (l' := #[.val (.long q0), .second, .val (.long q1), .second, .val (.long q2), .second, .val (.long q3), .second, .val (.long q4), .second, .val (.long (q0 &&& (9223372036854775807 : Int64))), .second, .val (.long (q1 &&& (9223372036854775807 : Int64))), .second, .val (.long (q2 &&& (9223372036854775807 : Int64))), .second, .val (.long (q3 &&& (9223372036854775807 : Int64))), .second, .val (.long (q4 &&& (9223372036854775807 : Int64))), .second, .val (.long (own_F1 (q0 &&& (9223372036854775807 : Int64)))), .second, .val (.ref b2), .val (.int (own_F2 (q1 &&& (9223372036854775807 : Int64)) (q2 &&& (9223372036854775807 : Int64)) (own_F1 (q0 &&& (9223372036854775807 : Int64))))), .val (.int (own_R (own_F1 (q0 &&& (9223372036854775807 : Int64))) (0 : Int64) (q1 &&& (9223372036854775807 : Int64)) (q2 &&& (9223372036854775807 : Int64)))), .val (.long (own_F1 (q0 &&& (9223372036854775807 : Int64)))), .second, .val (.int (own_F2 (q3 &&& (9223372036854775807 : Int64)) (q4 &&& (9223372036854775807 : Int64)) (own_F1 (q0 &&& (9223372036854775807 : Int64))))), .unset, .unset, .unset, .unset, .unset]) (hb hby at_116) rfl rfl ?_
    refine Run.aload (pc' := 120) X8 hx (hb hby at_118) rfl rfl ?_
    refine Run.lload (pc' := 122) X8 hx (hb hby at_120) rfl rfl ?_
    refine Run.lload (pc' := 124) X8 hx (hb hby at_122) rfl rfl ?_
    obtain ⟨T9, L9, v9, X9, Q9, st9⟩ := callVirtual X8 hx (y := (⟨"com/example/traceloom/traceloom/io/Bounds$Budget", "take", "(JJ)Z"⟩ : MethodName)) (z := (⟨"com/example/traceloom/traceloom/io/Bounds$Budget", "take", "(JJ)Z"⟩ : MethodName)) (C := "com/example/traceloom/traceloom/io/Bounds$Budget") (a := b2) (Ls := #[.val (.long q0), .second, .val (.long q1), .second, .val (.long q2), .second, .val (.long q3), .second, .val (.long q4), .second, .val (.long (q0 &&& (9223372036854775807 : Int64))), .second, .val (.long (q1 &&& (9223372036854775807 : Int64))), .second, .val (.long (q2 &&& (9223372036854775807 : Int64))), .second, .val (.long (q3 &&& (9223372036854775807 : Int64))), .second, .val (.long (q4 &&& (9223372036854775807 : Int64))), .second, .val (.long (own_F1 (q0 &&& (9223372036854775807 : Int64)))), .second, .val (.ref b2), .val (.int (own_F2 (q1 &&& (9223372036854775807 : Int64)) (q2 &&& (9223372036854775807 : Int64)) (own_F1 (q0 &&& (9223372036854775807 : Int64))))), .val (.int (own_R (own_F1 (q0 &&& (9223372036854775807 : Int64))) (0 : Int64) (q1 &&& (9223372036854775807 : Int64)) (q2 &&& (9223372036854775807 : Int64)))), .val (.long (own_F1 (q0 &&& (9223372036854775807 : Int64)))), .second, .val (.int (own_F2 (q3 &&& (9223372036854775807 : Int64)) (q4 &&& (9223372036854775807 : Int64)) (own_F1 (q0 &&& (9223372036854775807 : Int64))))), .unset, .unset, .unset, .unset, .unset]) (rest := []) (W := 0) (argsL := [(.long (q3 &&& (9223372036854775807 : Int64))), (.long (q4 &&& (9223372036854775807 : Int64)))]) hZ hown (hw _ (List.mem_of_getElem? (i := 24) rfl)) (hw _ (List.mem_of_getElem? (i := 25) rfl)) (notFace_of_selects (args := #[]) (mvT hZ (hw _ (List.mem_of_getElem? (i := 27) rfl)))) (hw _ (List.mem_of_getElem? (i := 27) rfl)) (hw _ (List.mem_of_getElem? (i := 26) rfl)) (hw _ (List.mem_of_getElem? (i := 10) rfl)) (hw _ (List.mem_of_getElem? (i := 28) rfl)) (by decide) e8 E6 (rm4 l Z a0 hw [] b2 (q3 &&& (9223372036854775807 : Int64)) (q4 &&& (9223372036854775807 : Int64)) (own_F1 (q0 &&& (9223372036854775807 : Int64))) (own_N (own_F1 (q0 &&& (9223372036854775807 : Int64))) (0 : Int64) (q1 &&& (9223372036854775807 : Int64)) (q2 &&& (9223372036854775807 : Int64))) T6.heap n0 Z6 E6 F6_allowed F6_taken G2 ) (hb hby at_124) (lenOf own_pd3 rfl) (by decide) (by decide) (by rw [hml]; rfl) (Nat.le_of_eq rfl) (by decide) (by decide)
    obtain ⟨rfl, M9, K9, E9, F9_allowed, F9_taken⟩ := Q9
    have N9 := Fr.app N8 M9
    have fq10 := Exa.keep E6 K9
    have Z9 : n0 ≤ T9.heap.size := Nat.le_trans Z6 K9.1
    refine Run.back (g' := (mkF m 127 #[.val (.long q0), .second, .val (.long q1), .second, .val (.long q2), .second, .val (.long q3), .second, .val (.long q4), .second, .val (.long (q0 &&& (9223372036854775807 : Int64))), .second, .val (.long (q1 &&& (9223372036854775807 : Int64))), .second, .val (.long (q2 &&& (9223372036854775807 : Int64))), .second, .val (.long (q3 &&& (9223372036854775807 : Int64))), .second, .val (.long (q4 &&& (9223372036854775807 : Int64))), .second, .val (.long (own_F1 (q0 &&& (9223372036854775807 : Int64)))), .second, .val (.ref b2), .val (.int (own_F2 (q1 &&& (9223372036854775807 : Int64)) (q2 &&& (9223372036854775807 : Int64)) (own_F1 (q0 &&& (9223372036854775807 : Int64))))), .val (.int (own_R (own_F1 (q0 &&& (9223372036854775807 : Int64))) (0 : Int64) (q1 &&& (9223372036854775807 : Int64)) (q2 &&& (9223372036854775807 : Int64)))), .val (.long (own_F1 (q0 &&& (9223372036854775807 : Int64)))), .second, .val (.int (own_F2 (q3 &&& (9223372036854775807 : Int64)) (q4 &&& (9223372036854775807 : Int64)) (own_F1 (q0 &&& (9223372036854775807 : Int64))))), .unset, .unset, .unset, .unset, .unset] [(.int (own_R (own_F1 (q0 &&& (9223372036854775807 : Int64))) (own_N (own_F1 (q0 &&& (9223372036854775807 : Int64))) (0 : Int64) (q1 &&& (9223372036854775807 : Int64)) (q2 &&& (9223372036854775807 : Int64))) (q3 &&& (9223372036854775807 : Int64)) (q4 &&& (9223372036854775807 : Int64))))])) st9 ?_
    refine Run.istore (pc' := 129) X9 hx (l' := #[.val (.long q0), .second, .val (.long q1), .second, .val (.long q2), .second, .val (.long q3), .second, .val (.long q4), .second, .val (.long (q0 &&& (9223372036854775807 : Int64))), .second, .val (.long (q1 &&& (9223372036854775807 : Int64))), .second, .val (.long (q2 &&& (9223372036854775807 : Int64))), .second, .val (.long (q3 &&& (9223372036854775807 : Int64))), .second, .val (.long (q4 &&& (9223372036854775807 : Int64))), .second, .val (.long (own_F1 (q0 &&& (9223372036854775807 : Int64)))), .second, .val (.ref b2), .val (.int (own_F2 (q1 &&& (9223372036854775807 : Int64)) (q2 &&& (9223372036854775807 : Int64)) (own_F1 (q0 &&& (9223372036854775807 : Int64))))), .val (.int (own_R (own_F1 (q0 &&& (9223372036854775807 : Int64))) (0 : Int64) (q1 &&& (9223372036854775807 : Int64)) (q2 &&& (9223372036854775807 : Int64)))), .val (.long (own_F1 (q0 &&& (9223372036854775807 : Int64)))), .second, .val (.int (own_F2 (q3 &&& (9223372036854775807 : Int64)) (q4 &&& (9223372036854775807 : Int64)) (own_F1 (q0 &&& (9223372036854775807 : Int64))))), .val (.int (own_R (own_F1 (q0 &&& (9223372036854775807 : Int64))) (own_N (own_F1 (q0 &&& (9223372036854775807 : Int64))) (0 : Int64) (q1 &&& (9223372036854775807 : Int64)) (q2 &&& (9223372036854775807 : Int64))) (q3 &&& (9223372036854775807 : Int64)) (q4 &&& (9223372036854775807 : Int64)))), .unset, .unset, .unset, .unset]) (hb hby at_127) rfl rfl ?_
    refine Run.iload (pc' := 131) X9 hx (hb hby at_129) rfl rfl ?_
    refine Run.iload (pc' := 133) X9 hx (hb hby at_131) rfl rfl ?_
    refine Run.icmpYes (pc' := 138) X9 hx (hb hby at_133) (teq (own_eq inv1 (own_pos q3) (own_pos q4))).1 (by decide) (by decide) ?_
    refine Run.iload (pc' := 140) X9 hx (hb hby at_138) rfl rfl ?_
    by_cases hc140 : (own_F2 (q3 &&& (9223372036854775807 : Int64)) (q4 &&& (9223372036854775807 : Int64)) (own_F1 (q0 &&& (9223372036854775807 : Int64)))) = (0 : Int32)
    · skip
      refine Run.ifYes (pc' := 154) X9 hx (hb hby at_140) ((if0 _ _).trans (teq hc140).1) (by decide) (by decide) ?_
      refine Run.lload (pc' := 156) X9 hx (hb hby at_154) rfl rfl ?_
      refine Run.lstore (pc' := 158) X9 hx (l' := #[.val (.long q0), .second, .val (.long q1), .second, .val (.long q2), .second, .val (.long q3), .second, .val (.long q4), .second, .val (.long (q0 &&& (9223372036854775807 : Int64))), .second, .val (.long (q1 &&& (9223372036854775807 : Int64))), .second, .val (.long (q2 &&& (9223372036854775807 : Int64))), .second, .val (.long (q3 &&& (9223372036854775807 : Int64))), .second, .val (.long (q4 &&& (9223372036854775807 : Int64))), .second, .val (.long (own_F1 (q0 &&& (9223372036854775807 : Int64)))), .second, .val (.ref b2), .val (.int (own_F2 (q1 &&& (9223372036854775807 : Int64)) (q2 &&& (9223372036854775807 : Int64)) (own_F1 (q0 &&& (9223372036854775807 : Int64))))), .val (.int (own_R (own_F1 (q0 &&& (9223372036854775807 : Int64))) (0 : Int64) (q1 &&& (9223372036854775807 : Int64)) (q2 &&& (9223372036854775807 : Int64)))), .val (.long (own_F1 (q0 &&& (9223372036854775807 : Int64)))), .second, .val (.int (own_F2 (q3 &&& (9223372036854775807 : Int64)) (q4 &&& (9223372036854775807 : Int64)) (own_F1 (q0 &&& (9223372036854775807 : Int64))))), .val (.int (own_R (own_F1 (q0 &&& (9223372036854775807 : Int64))) (own_N (own_F1 (q0 &&& (9223372036854775807 : Int64))) (0 : Int64) (q1 &&& (9223372036854775807 : Int64)) (q2 &&& (9223372036854775807 : Int64))) (q3 &&& (9223372036854775807 : Int64)) (q4 &&& (9223372036854775807 : Int64)))), .val (.long (own_F1 (q0 &&& (9223372036854775807 : Int64)))), .second, .unset, .unset]) (hb hby at_156) rfl rfl ?_
      have inv2 := own_no inv1 (own_pos q3) (own_pos q4) hc140
      refine Run.aload (pc' := 160) X9 hx (hb hby at_158) rfl rfl ?_
      refine Run.lload (pc' := 162) X9 hx (hb hby at_160) rfl rfl ?_
      refine Run.lconst (pc' := 163) (v := (1 : Int64)) X9 hx (hb hby at_162) rfl rfl ?_
      obtain ⟨T11, L11, v11, X11, Q11, st11⟩ := callVirtual X9 hx (y := (⟨"com/example/traceloom/traceloom/io/Bounds$Budget", "take", "(JJ)Z"⟩ : MethodName)) (z := (⟨"com/example/traceloom/traceloom/io/Bounds$Budget", "take", "(JJ)Z"⟩ : MethodName)) (C := "com/example/traceloom/traceloom/io/Bounds$Budget") (a := b2) (Ls := #[.val (.long q0), .second, .val (.long q1), .second, .val (.long q2), .second, .val (.long q3), .second, .val (.long q4), .second, .val (.long (q0 &&& (9223372036854775807 : Int64))), .second, .val (.long (q1 &&& (9223372036854775807 : Int64))), .second, .val (.long (q2 &&& (9223372036854775807 : Int64))), .second, .val (.long (q3 &&& (9223372036854775807 : Int64))), .second, .val (.long (q4 &&& (9223372036854775807 : Int64))), .second, .val (.long (own_F1 (q0 &&& (9223372036854775807 : Int64)))), .second, .val (.ref b2), .val (.int (own_F2 (q1 &&& (9223372036854775807 : Int64)) (q2 &&& (9223372036854775807 : Int64)) (own_F1 (q0 &&& (9223372036854775807 : Int64))))), .val (.int (own_R (own_F1 (q0 &&& (9223372036854775807 : Int64))) (0 : Int64) (q1 &&& (9223372036854775807 : Int64)) (q2 &&& (9223372036854775807 : Int64)))), .val (.long (own_F1 (q0 &&& (9223372036854775807 : Int64)))), .second, .val (.int (own_F2 (q3 &&& (9223372036854775807 : Int64)) (q4 &&& (9223372036854775807 : Int64)) (own_F1 (q0 &&& (9223372036854775807 : Int64))))), .val (.int (own_R (own_F1 (q0 &&& (9223372036854775807 : Int64))) (own_N (own_F1 (q0 &&& (9223372036854775807 : Int64))) (0 : Int64) (q1 &&& (9223372036854775807 : Int64)) (q2 &&& (9223372036854775807 : Int64))) (q3 &&& (9223372036854775807 : Int64)) (q4 &&& (9223372036854775807 : Int64)))), .val (.long (own_F1 (q0 &&& (9223372036854775807 : Int64)))), .second, .unset, .unset]) (rest := []) (W := 0) (argsL := [(.long (own_F1 (q0 &&& (9223372036854775807 : Int64)))), (.long (1 : Int64))]) hZ hown (hw _ (List.mem_of_getElem? (i := 24) rfl)) (hw _ (List.mem_of_getElem? (i := 25) rfl)) (notFace_of_selects (args := #[]) (mvT hZ (hw _ (List.mem_of_getElem? (i := 27) rfl)))) (hw _ (List.mem_of_getElem? (i := 27) rfl)) (hw _ (List.mem_of_getElem? (i := 26) rfl)) (hw _ (List.mem_of_getElem? (i := 10) rfl)) (hw _ (List.mem_of_getElem? (i := 28) rfl)) (by decide) rfl E9 (rm4 l Z a0 hw [] b2 (own_F1 (q0 &&& (9223372036854775807 : Int64))) (1 : Int64) (own_F1 (q0 &&& (9223372036854775807 : Int64))) (own_N (own_F1 (q0 &&& (9223372036854775807 : Int64))) (own_N (own_F1 (q0 &&& (9223372036854775807 : Int64))) (0 : Int64) (q1 &&& (9223372036854775807 : Int64)) (q2 &&& (9223372036854775807 : Int64))) (q3 &&& (9223372036854775807 : Int64)) (q4 &&& (9223372036854775807 : Int64))) T9.heap n0 Z9 E9 F9_allowed F9_taken G2 ) (hb hby at_163) (lenOf own_pd3 rfl) (by decide) (by decide) (by rw [hml]; rfl) (Nat.le_of_eq rfl) (by decide) (by decide)
      obtain ⟨rfl, M11, K11, E11, F11_allowed, F11_taken⟩ := Q11
      have N11 := Fr.app N9 M11
      have fq12 := Exa.keep E9 K11
      have Z11 : n0 ≤ T11.heap.size := Nat.le_trans Z9 K11.1
      refine Run.back (g' := (mkF m 166 #[.val (.long q0), .second, .val (.long q1), .second, .val (.long q2), .second, .val (.long q3), .second, .val (.long q4), .second, .val (.long (q0 &&& (9223372036854775807 : Int64))), .second, .val (.long (q1 &&& (9223372036854775807 : Int64))), .second, .val (.long (q2 &&& (9223372036854775807 : Int64))), .second, .val (.long (q3 &&& (9223372036854775807 : Int64))), .second, .val (.long (q4 &&& (9223372036854775807 : Int64))), .second, .val (.long (own_F1 (q0 &&& (9223372036854775807 : Int64)))), .second, .val (.ref b2), .val (.int (own_F2 (q1 &&& (9223372036854775807 : Int64)) (q2 &&& (9223372036854775807 : Int64)) (own_F1 (q0 &&& (9223372036854775807 : Int64))))), .val (.int (own_R (own_F1 (q0 &&& (9223372036854775807 : Int64))) (0 : Int64) (q1 &&& (9223372036854775807 : Int64)) (q2 &&& (9223372036854775807 : Int64)))), .val (.long (own_F1 (q0 &&& (9223372036854775807 : Int64)))), .second, .val (.int (own_F2 (q3 &&& (9223372036854775807 : Int64)) (q4 &&& (9223372036854775807 : Int64)) (own_F1 (q0 &&& (9223372036854775807 : Int64))))), .val (.int (own_R (own_F1 (q0 &&& (9223372036854775807 : Int64))) (own_N (own_F1 (q0 &&& (9223372036854775807 : Int64))) (0 : Int64) (q1 &&& (9223372036854775807 : Int64)) (q2 &&& (9223372036854775807 : Int64))) (q3 &&& (9223372036854775807 : Int64)) (q4 &&& (9223372036854775807 : Int64)))), .val (.long (own_F1 (q0 &&& (9223372036854775807 : Int64)))), .second, .unset, .unset] [(.int (own_R (own_F1 (q0 &&& (9223372036854775807 : Int64))) (own_N (own_F1 (q0 &&& (9223372036854775807 : Int64))) (own_N (own_F1 (q0 &&& (9223372036854775807 : Int64))) (0 : Int64) (q1 &&& (9223372036854775807 : Int64)) (q2 &&& (9223372036854775807 : Int64))) (q3 &&& (9223372036854775807 : Int64)) (q4 &&& (9223372036854775807 : Int64))) (own_F1 (q0 &&& (9223372036854775807 : Int64))) (1 : Int64)))])) st11 ?_
      refine Run.istore (pc' := 168) X11 hx (l' := #[.val (.long q0), .second, .val (.long q1), .second, .val (.long q2), .second, .val (.long q3), .second, .val (.long q4), .second, .val (.long (q0 &&& (9223372036854775807 : Int64))), .second, .val (.long (q1 &&& (9223372036854775807 : Int64))), .second, .val (.long (q2 &&& (9223372036854775807 : Int64))), .second, .val (.long (q3 &&& (9223372036854775807 : Int64))), .second, .val (.long (q4 &&& (9223372036854775807 : Int64))), .second, .val (.long (own_F1 (q0 &&& (9223372036854775807 : Int64)))), .second, .val (.ref b2), .val (.int (own_F2 (q1 &&& (9223372036854775807 : Int64)) (q2 &&& (9223372036854775807 : Int64)) (own_F1 (q0 &&& (9223372036854775807 : Int64))))), .val (.int (own_R (own_F1 (q0 &&& (9223372036854775807 : Int64))) (0 : Int64) (q1 &&& (9223372036854775807 : Int64)) (q2 &&& (9223372036854775807 : Int64)))), .val (.long (own_F1 (q0 &&& (9223372036854775807 : Int64)))), .second, .val (.int (own_F2 (q3 &&& (9223372036854775807 : Int64)) (q4 &&& (9223372036854775807 : Int64)) (own_F1 (q0 &&& (9223372036854775807 : Int64))))), .val (.int (own_R (own_F1 (q0 &&& (9223372036854775807 : Int64))) (own_N (own_F1 (q0 &&& (9223372036854775807 : Int64))) (0 : Int64) (q1 &&& (9223372036854775807 : Int64)) (q2 &&& (9223372036854775807 : Int64))) (q3 &&& (9223372036854775807 : Int64)) (q4 &&& (9223372036854775807 : Int64)))), .val (.long (own_F1 (q0 &&& (9223372036854775807 : Int64)))), .second, .val (.int (own_R (own_F1 (q0 &&& (9223372036854775807 : Int64))) (own_N (own_F1 (q0 &&& (9223372036854775807 : Int64))) (own_N (own_F1 (q0 &&& (9223372036854775807 : Int64))) (0 : Int64) (q1 &&& (9223372036854775807 : Int64)) (q2 &&& (9223372036854775807 : Int64))) (q3 &&& (9223372036854775807 : Int64)) (q4 &&& (9223372036854775807 : Int64))) (own_F1 (q0 &&& (9223372036854775807 : Int64))) (1 : Int64))), .unset]) (hb hby at_166) rfl rfl ?_
      refine Run.iload (pc' := 170) X11 hx (hb hby at_168) rfl rfl ?_
      refine Run.ifYes (pc' := 175) X11 hx (hb hby at_170) ((if0 _ _).trans (feq (own_last inv2)).2) (by decide) (by decide) ?_
      refine Run.aload (pc' := 177) X11 hx (hb hby at_175) rfl rfl ?_
      refine Run.lconst (pc' := 178) (v := (1 : Int64)) X11 hx (hb hby at_177) rfl rfl ?_
      refine Run.lconst (pc' := 179) (v := (1 : Int64)) X11 hx (hb hby at_178) rfl rfl ?_
      obtain ⟨T13, L13, v13, X13, Q13, st13⟩ := callVirtual X11 hx (y := (⟨"com/example/traceloom/traceloom/io/Bounds$Budget", "take", "(JJ)Z"⟩ : MethodName)) (z := (⟨"com/example/traceloom/traceloom/io/Bounds$Budget", "take", "(JJ)Z"⟩ : MethodName)) (C := "com/example/traceloom/traceloom/io/Bounds$Budget") (a := b2) (Ls := #[.val (.long q0), .second, .val (.long q1), .second, .val (.long q2), .second, .val (.long q3), .second, .val (.long q4), .second, .val (.long (q0 &&& (9223372036854775807 : Int64))), .second, .val (.long (q1 &&& (9223372036854775807 : Int64))), .second, .val (.long (q2 &&& (9223372036854775807 : Int64))), .second, .val (.long (q3 &&& (9223372036854775807 : Int64))), .second, .val (.long (q4 &&& (9223372036854775807 : Int64))), .second, .val (.long (own_F1 (q0 &&& (9223372036854775807 : Int64)))), .second, .val (.ref b2), .val (.int (own_F2 (q1 &&& (9223372036854775807 : Int64)) (q2 &&& (9223372036854775807 : Int64)) (own_F1 (q0 &&& (9223372036854775807 : Int64))))), .val (.int (own_R (own_F1 (q0 &&& (9223372036854775807 : Int64))) (0 : Int64) (q1 &&& (9223372036854775807 : Int64)) (q2 &&& (9223372036854775807 : Int64)))), .val (.long (own_F1 (q0 &&& (9223372036854775807 : Int64)))), .second, .val (.int (own_F2 (q3 &&& (9223372036854775807 : Int64)) (q4 &&& (9223372036854775807 : Int64)) (own_F1 (q0 &&& (9223372036854775807 : Int64))))), .val (.int (own_R (own_F1 (q0 &&& (9223372036854775807 : Int64))) (own_N (own_F1 (q0 &&& (9223372036854775807 : Int64))) (0 : Int64) (q1 &&& (9223372036854775807 : Int64)) (q2 &&& (9223372036854775807 : Int64))) (q3 &&& (9223372036854775807 : Int64)) (q4 &&& (9223372036854775807 : Int64)))), .val (.long (own_F1 (q0 &&& (9223372036854775807 : Int64)))), .second, .val (.int (own_R (own_F1 (q0 &&& (9223372036854775807 : Int64))) (own_N (own_F1 (q0 &&& (9223372036854775807 : Int64))) (own_N (own_F1 (q0 &&& (9223372036854775807 : Int64))) (0 : Int64) (q1 &&& (9223372036854775807 : Int64)) (q2 &&& (9223372036854775807 : Int64))) (q3 &&& (9223372036854775807 : Int64)) (q4 &&& (9223372036854775807 : Int64))) (own_F1 (q0 &&& (9223372036854775807 : Int64))) (1 : Int64))), .unset]) (rest := []) (W := 0) (argsL := [(.long (1 : Int64)), (.long (1 : Int64))]) hZ hown (hw _ (List.mem_of_getElem? (i := 24) rfl)) (hw _ (List.mem_of_getElem? (i := 25) rfl)) (notFace_of_selects (args := #[]) (mvT hZ (hw _ (List.mem_of_getElem? (i := 27) rfl)))) (hw _ (List.mem_of_getElem? (i := 27) rfl)) (hw _ (List.mem_of_getElem? (i := 26) rfl)) (hw _ (List.mem_of_getElem? (i := 10) rfl)) (hw _ (List.mem_of_getElem? (i := 28) rfl)) (by decide) rfl E11 (rm4 l Z a0 hw [] b2 (1 : Int64) (1 : Int64) (own_F1 (q0 &&& (9223372036854775807 : Int64))) (own_N (own_F1 (q0 &&& (9223372036854775807 : Int64))) (own_N (own_F1 (q0 &&& (9223372036854775807 : Int64))) (own_N (own_F1 (q0 &&& (9223372036854775807 : Int64))) (0 : Int64) (q1 &&& (9223372036854775807 : Int64)) (q2 &&& (9223372036854775807 : Int64))) (q3 &&& (9223372036854775807 : Int64)) (q4 &&& (9223372036854775807 : Int64))) (own_F1 (q0 &&& (9223372036854775807 : Int64))) (1 : Int64)) T11.heap n0 Z11 E11 F11_allowed F11_taken G2 ) (hb hby at_179) (lenOf own_pd3 rfl) (by decide) (by decide) (by rw [hml]; rfl) (Nat.le_of_eq rfl) (by decide) (by decide)
      obtain ⟨rfl, M13, K13, E13, F13_allowed, F13_taken⟩ := Q13
      have N13 := Fr.app N11 M13
      have fq14 := Exa.keep E11 K13
      have Z13 : n0 ≤ T13.heap.size := Nat.le_trans Z11 K13.1
      refine Run.back (g' := (mkF m 182 #[.val (.long q0), .second, .val (.long q1), .second, .val (.long q2), .second, .val (.long q3), .second, .val (.long q4), .second, .val (.long (q0 &&& (9223372036854775807 : Int64))), .second, .val (.long (q1 &&& (9223372036854775807 : Int64))), .second, .val (.long (q2 &&& (9223372036854775807 : Int64))), .second, .val (.long (q3 &&& (9223372036854775807 : Int64))), .second, .val (.long (q4 &&& (9223372036854775807 : Int64))), .second, .val (.long (own_F1 (q0 &&& (9223372036854775807 : Int64)))), .second, .val (.ref b2), .val (.int (own_F2 (q1 &&& (9223372036854775807 : Int64)) (q2 &&& (9223372036854775807 : Int64)) (own_F1 (q0 &&& (9223372036854775807 : Int64))))), .val (.int (own_R (own_F1 (q0 &&& (9223372036854775807 : Int64))) (0 : Int64) (q1 &&& (9223372036854775807 : Int64)) (q2 &&& (9223372036854775807 : Int64)))), .val (.long (own_F1 (q0 &&& (9223372036854775807 : Int64)))), .second, .val (.int (own_F2 (q3 &&& (9223372036854775807 : Int64)) (q4 &&& (9223372036854775807 : Int64)) (own_F1 (q0 &&& (9223372036854775807 : Int64))))), .val (.int (own_R (own_F1 (q0 &&& (9223372036854775807 : Int64))) (own_N (own_F1 (q0 &&& (9223372036854775807 : Int64))) (0 : Int64) (q1 &&& (9223372036854775807 : Int64)) (q2 &&& (9223372036854775807 : Int64))) (q3 &&& (9223372036854775807 : Int64)) (q4 &&& (9223372036854775807 : Int64)))), .val (.long (own_F1 (q0 &&& (9223372036854775807 : Int64)))), .second, .val (.int (own_R (own_F1 (q0 &&& (9223372036854775807 : Int64))) (own_N (own_F1 (q0 &&& (9223372036854775807 : Int64))) (own_N (own_F1 (q0 &&& (9223372036854775807 : Int64))) (0 : Int64) (q1 &&& (9223372036854775807 : Int64)) (q2 &&& (9223372036854775807 : Int64))) (q3 &&& (9223372036854775807 : Int64)) (q4 &&& (9223372036854775807 : Int64))) (own_F1 (q0 &&& (9223372036854775807 : Int64))) (1 : Int64))), .unset] [(.int (own_R (own_F1 (q0 &&& (9223372036854775807 : Int64))) (own_N (own_F1 (q0 &&& (9223372036854775807 : Int64))) (own_N (own_F1 (q0 &&& (9223372036854775807 : Int64))) (own_N (own_F1 (q0 &&& (9223372036854775807 : Int64))) (0 : Int64) (q1 &&& (9223372036854775807 : Int64)) (q2 &&& (9223372036854775807 : Int64))) (q3 &&& (9223372036854775807 : Int64)) (q4 &&& (9223372036854775807 : Int64))) (own_F1 (q0 &&& (9223372036854775807 : Int64))) (1 : Int64)) (1 : Int64) (1 : Int64)))])) st13 ?_
      refine Run.istore (pc' := 184) X13 hx (l' := #[.val (.long q0), .second, .val (.long q1), .second, .val (.long q2), .second, .val (.long q3), .second, .val (.long q4), .second, .val (.long (q0 &&& (9223372036854775807 : Int64))), .second, .val (.long (q1 &&& (9223372036854775807 : Int64))), .second, .val (.long (q2 &&& (9223372036854775807 : Int64))), .second, .val (.long (q3 &&& (9223372036854775807 : Int64))), .second, .val (.long (q4 &&& (9223372036854775807 : Int64))), .second, .val (.long (own_F1 (q0 &&& (9223372036854775807 : Int64)))), .second, .val (.ref b2), .val (.int (own_F2 (q1 &&& (9223372036854775807 : Int64)) (q2 &&& (9223372036854775807 : Int64)) (own_F1 (q0 &&& (9223372036854775807 : Int64))))), .val (.int (own_R (own_F1 (q0 &&& (9223372036854775807 : Int64))) (0 : Int64) (q1 &&& (9223372036854775807 : Int64)) (q2 &&& (9223372036854775807 : Int64)))), .val (.long (own_F1 (q0 &&& (9223372036854775807 : Int64)))), .second, .val (.int (own_F2 (q3 &&& (9223372036854775807 : Int64)) (q4 &&& (9223372036854775807 : Int64)) (own_F1 (q0 &&& (9223372036854775807 : Int64))))), .val (.int (own_R (own_F1 (q0 &&& (9223372036854775807 : Int64))) (own_N (own_F1 (q0 &&& (9223372036854775807 : Int64))) (0 : Int64) (q1 &&& (9223372036854775807 : Int64)) (q2 &&& (9223372036854775807 : Int64))) (q3 &&& (9223372036854775807 : Int64)) (q4 &&& (9223372036854775807 : Int64)))), .val (.long (own_F1 (q0 &&& (9223372036854775807 : Int64)))), .second, .val (.int (own_R (own_F1 (q0 &&& (9223372036854775807 : Int64))) (own_N (own_F1 (q0 &&& (9223372036854775807 : Int64))) (own_N (own_F1 (q0 &&& (9223372036854775807 : Int64))) (0 : Int64) (q1 &&& (9223372036854775807 : Int64)) (q2 &&& (9223372036854775807 : Int64))) (q3 &&& (9223372036854775807 : Int64)) (q4 &&& (9223372036854775807 : Int64))) (own_F1 (q0 &&& (9223372036854775807 : Int64))) (1 : Int64))), .val (.int (own_R (own_F1 (q0 &&& (9223372036854775807 : Int64))) (own_N (own_F1 (q0 &&& (9223372036854775807 : Int64))) (own_N (own_F1 (q0 &&& (9223372036854775807 : Int64))) (own_N (own_F1 (q0 &&& (9223372036854775807 : Int64))) (0 : Int64) (q1 &&& (9223372036854775807 : Int64)) (q2 &&& (9223372036854775807 : Int64))) (q3 &&& (9223372036854775807 : Int64)) (q4 &&& (9223372036854775807 : Int64))) (own_F1 (q0 &&& (9223372036854775807 : Int64))) (1 : Int64)) (1 : Int64) (1 : Int64)))]) (hb hby at_182) rfl rfl ?_
      refine Run.iload (pc' := 186) X13 hx (hb hby at_184) rfl rfl ?_
      refine Run.ifNo (pc' := 189) X13 hx (hb hby at_186) ((if0 _ _).trans (teq (own_over inv2)).2) rfl ?_
      refine Run.iconst (pc' := 190) (v := (1 : Int32)) X13 hx (hb hby at_189) rfl rfl ?_
      refine Run.goto (pc' := 194) X13 hx (hb hby at_190) (by decide) (by decide) ?_
      exact Run.retSmall X13 hx (t := .boolean) (z' := (1 : Int32)) Bd.notSynchronized Bd.returns (by simp) rfl (hb hby at_194) ⟨rfl, N13⟩ (by decide) (by decide)
    · skip
      refine Run.ifNo (pc' := 143) X9 hx (hb hby at_140) ((if0 _ _).trans (feq hc140).1) rfl ?_
      refine Run.lload (pc' := 145) X9 hx (hb hby at_143) rfl rfl ?_
      refine Run.lload (pc' := 147) X9 hx (hb hby at_145) rfl rfl ?_
      refine Run.lload (pc' := 149) X9 hx (hb hby at_147) rfl rfl ?_
      refine Run.lmul (pc' := 150) X9 hx (hb hby at_149) rfl ?_
      refine Run.lsub (pc' := 151) X9 hx (hb hby at_150) rfl ?_
      refine Run.goto (pc' := 156) X9 hx (hb hby at_151) (by decide) (by decide) ?_
      refine Run.lstore (pc' := 158) X9 hx (l' := #[.val (.long q0), .second, .val (.long q1), .second, .val (.long q2), .second, .val (.long q3), .second, .val (.long q4), .second, .val (.long (q0 &&& (9223372036854775807 : Int64))), .second, .val (.long (q1 &&& (9223372036854775807 : Int64))), .second, .val (.long (q2 &&& (9223372036854775807 : Int64))), .second, .val (.long (q3 &&& (9223372036854775807 : Int64))), .second, .val (.long (q4 &&& (9223372036854775807 : Int64))), .second, .val (.long (own_F1 (q0 &&& (9223372036854775807 : Int64)))), .second, .val (.ref b2), .val (.int (own_F2 (q1 &&& (9223372036854775807 : Int64)) (q2 &&& (9223372036854775807 : Int64)) (own_F1 (q0 &&& (9223372036854775807 : Int64))))), .val (.int (own_R (own_F1 (q0 &&& (9223372036854775807 : Int64))) (0 : Int64) (q1 &&& (9223372036854775807 : Int64)) (q2 &&& (9223372036854775807 : Int64)))), .val (.long (own_F1 (q0 &&& (9223372036854775807 : Int64)))), .second, .val (.int (own_F2 (q3 &&& (9223372036854775807 : Int64)) (q4 &&& (9223372036854775807 : Int64)) (own_F1 (q0 &&& (9223372036854775807 : Int64))))), .val (.int (own_R (own_F1 (q0 &&& (9223372036854775807 : Int64))) (own_N (own_F1 (q0 &&& (9223372036854775807 : Int64))) (0 : Int64) (q1 &&& (9223372036854775807 : Int64)) (q2 &&& (9223372036854775807 : Int64))) (q3 &&& (9223372036854775807 : Int64)) (q4 &&& (9223372036854775807 : Int64)))), .val (.long ((own_F1 (q0 &&& (9223372036854775807 : Int64))) - ((q3 &&& (9223372036854775807 : Int64)) * (q4 &&& (9223372036854775807 : Int64))))), .second, .unset, .unset]) (hb hby at_156) rfl rfl ?_
      have inv2 := own_yes inv1 (own_pos q3) (own_pos q4) hc140
      refine Run.aload (pc' := 160) X9 hx (hb hby at_158) rfl rfl ?_
      refine Run.lload (pc' := 162) X9 hx (hb hby at_160) rfl rfl ?_
      refine Run.lconst (pc' := 163) (v := (1 : Int64)) X9 hx (hb hby at_162) rfl rfl ?_
      obtain ⟨T15, L15, v15, X15, Q15, st15⟩ := callVirtual X9 hx (y := (⟨"com/example/traceloom/traceloom/io/Bounds$Budget", "take", "(JJ)Z"⟩ : MethodName)) (z := (⟨"com/example/traceloom/traceloom/io/Bounds$Budget", "take", "(JJ)Z"⟩ : MethodName)) (C := "com/example/traceloom/traceloom/io/Bounds$Budget") (a := b2) (Ls := #[.val (.long q0), .second, .val (.long q1), .second, .val (.long q2), .second, .val (.long q3), .second, .val (.long q4), .second, .val (.long (q0 &&& (9223372036854775807 : Int64))), .second, .val (.long (q1 &&& (9223372036854775807 : Int64))), .second, .val (.long (q2 &&& (9223372036854775807 : Int64))), .second, .val (.long (q3 &&& (9223372036854775807 : Int64))), .second, .val (.long (q4 &&& (9223372036854775807 : Int64))), .second, .val (.long (own_F1 (q0 &&& (9223372036854775807 : Int64)))), .second, .val (.ref b2), .val (.int (own_F2 (q1 &&& (9223372036854775807 : Int64)) (q2 &&& (9223372036854775807 : Int64)) (own_F1 (q0 &&& (9223372036854775807 : Int64))))), .val (.int (own_R (own_F1 (q0 &&& (9223372036854775807 : Int64))) (0 : Int64) (q1 &&& (9223372036854775807 : Int64)) (q2 &&& (9223372036854775807 : Int64)))), .val (.long (own_F1 (q0 &&& (9223372036854775807 : Int64)))), .second, .val (.int (own_F2 (q3 &&& (9223372036854775807 : Int64)) (q4 &&& (9223372036854775807 : Int64)) (own_F1 (q0 &&& (9223372036854775807 : Int64))))), .val (.int (own_R (own_F1 (q0 &&& (9223372036854775807 : Int64))) (own_N (own_F1 (q0 &&& (9223372036854775807 : Int64))) (0 : Int64) (q1 &&& (9223372036854775807 : Int64)) (q2 &&& (9223372036854775807 : Int64))) (q3 &&& (9223372036854775807 : Int64)) (q4 &&& (9223372036854775807 : Int64)))), .val (.long ((own_F1 (q0 &&& (9223372036854775807 : Int64))) - ((q3 &&& (9223372036854775807 : Int64)) * (q4 &&& (9223372036854775807 : Int64))))), .second, .unset, .unset]) (rest := []) (W := 0) (argsL := [(.long ((own_F1 (q0 &&& (9223372036854775807 : Int64))) - ((q3 &&& (9223372036854775807 : Int64)) * (q4 &&& (9223372036854775807 : Int64))))), (.long (1 : Int64))]) hZ hown (hw _ (List.mem_of_getElem? (i := 24) rfl)) (hw _ (List.mem_of_getElem? (i := 25) rfl)) (notFace_of_selects (args := #[]) (mvT hZ (hw _ (List.mem_of_getElem? (i := 27) rfl)))) (hw _ (List.mem_of_getElem? (i := 27) rfl)) (hw _ (List.mem_of_getElem? (i := 26) rfl)) (hw _ (List.mem_of_getElem? (i := 10) rfl)) (hw _ (List.mem_of_getElem? (i := 28) rfl)) (by decide) rfl E9 (rm4 l Z a0 hw [] b2 ((own_F1 (q0 &&& (9223372036854775807 : Int64))) - ((q3 &&& (9223372036854775807 : Int64)) * (q4 &&& (9223372036854775807 : Int64)))) (1 : Int64) (own_F1 (q0 &&& (9223372036854775807 : Int64))) (own_N (own_F1 (q0 &&& (9223372036854775807 : Int64))) (own_N (own_F1 (q0 &&& (9223372036854775807 : Int64))) (0 : Int64) (q1 &&& (9223372036854775807 : Int64)) (q2 &&& (9223372036854775807 : Int64))) (q3 &&& (9223372036854775807 : Int64)) (q4 &&& (9223372036854775807 : Int64))) T9.heap n0 Z9 E9 F9_allowed F9_taken G2 ) (hb hby at_163) (lenOf own_pd3 rfl) (by decide) (by decide) (by rw [hml]; rfl) (Nat.le_of_eq rfl) (by decide) (by decide)
      obtain ⟨rfl, M15, K15, E15, F15_allowed, F15_taken⟩ := Q15
      have N15 := Fr.app N9 M15
      have fq16 := Exa.keep E9 K15
      have Z15 : n0 ≤ T15.heap.size := Nat.le_trans Z9 K15.1
      refine Run.back (g' := (mkF m 166 #[.val (.long q0), .second, .val (.long q1), .second, .val (.long q2), .second, .val (.long q3), .second, .val (.long q4), .second, .val (.long (q0 &&& (9223372036854775807 : Int64))), .second, .val (.long (q1 &&& (9223372036854775807 : Int64))), .second, .val (.long (q2 &&& (9223372036854775807 : Int64))), .second, .val (.long (q3 &&& (9223372036854775807 : Int64))), .second, .val (.long (q4 &&& (9223372036854775807 : Int64))), .second, .val (.long (own_F1 (q0 &&& (9223372036854775807 : Int64)))), .second, .val (.ref b2), .val (.int (own_F2 (q1 &&& (9223372036854775807 : Int64)) (q2 &&& (9223372036854775807 : Int64)) (own_F1 (q0 &&& (9223372036854775807 : Int64))))), .val (.int (own_R (own_F1 (q0 &&& (9223372036854775807 : Int64))) (0 : Int64) (q1 &&& (9223372036854775807 : Int64)) (q2 &&& (9223372036854775807 : Int64)))), .val (.long (own_F1 (q0 &&& (9223372036854775807 : Int64)))), .second, .val (.int (own_F2 (q3 &&& (9223372036854775807 : Int64)) (q4 &&& (9223372036854775807 : Int64)) (own_F1 (q0 &&& (9223372036854775807 : Int64))))), .val (.int (own_R (own_F1 (q0 &&& (9223372036854775807 : Int64))) (own_N (own_F1 (q0 &&& (9223372036854775807 : Int64))) (0 : Int64) (q1 &&& (9223372036854775807 : Int64)) (q2 &&& (9223372036854775807 : Int64))) (q3 &&& (9223372036854775807 : Int64)) (q4 &&& (9223372036854775807 : Int64)))), .val (.long ((own_F1 (q0 &&& (9223372036854775807 : Int64))) - ((q3 &&& (9223372036854775807 : Int64)) * (q4 &&& (9223372036854775807 : Int64))))), .second, .unset, .unset] [(.int (own_R (own_F1 (q0 &&& (9223372036854775807 : Int64))) (own_N (own_F1 (q0 &&& (9223372036854775807 : Int64))) (own_N (own_F1 (q0 &&& (9223372036854775807 : Int64))) (0 : Int64) (q1 &&& (9223372036854775807 : Int64)) (q2 &&& (9223372036854775807 : Int64))) (q3 &&& (9223372036854775807 : Int64)) (q4 &&& (9223372036854775807 : Int64))) ((own_F1 (q0 &&& (9223372036854775807 : Int64))) - ((q3 &&& (9223372036854775807 : Int64)) * (q4 &&& (9223372036854775807 : Int64)))) (1 : Int64)))])) st15 ?_
      refine Run.istore (pc' := 168) X15 hx (l' := #[.val (.long q0), .second, .val (.long q1), .second, .val (.long q2), .second, .val (.long q3), .second, .val (.long q4), .second, .val (.long (q0 &&& (9223372036854775807 : Int64))), .second, .val (.long (q1 &&& (9223372036854775807 : Int64))), .second, .val (.long (q2 &&& (9223372036854775807 : Int64))), .second, .val (.long (q3 &&& (9223372036854775807 : Int64))), .second, .val (.long (q4 &&& (9223372036854775807 : Int64))), .second, .val (.long (own_F1 (q0 &&& (9223372036854775807 : Int64)))), .second, .val (.ref b2), .val (.int (own_F2 (q1 &&& (9223372036854775807 : Int64)) (q2 &&& (9223372036854775807 : Int64)) (own_F1 (q0 &&& (9223372036854775807 : Int64))))), .val (.int (own_R (own_F1 (q0 &&& (9223372036854775807 : Int64))) (0 : Int64) (q1 &&& (9223372036854775807 : Int64)) (q2 &&& (9223372036854775807 : Int64)))), .val (.long (own_F1 (q0 &&& (9223372036854775807 : Int64)))), .second, .val (.int (own_F2 (q3 &&& (9223372036854775807 : Int64)) (q4 &&& (9223372036854775807 : Int64)) (own_F1 (q0 &&& (9223372036854775807 : Int64))))), .val (.int (own_R (own_F1 (q0 &&& (9223372036854775807 : Int64))) (own_N (own_F1 (q0 &&& (9223372036854775807 : Int64))) (0 : Int64) (q1 &&& (9223372036854775807 : Int64)) (q2 &&& (9223372036854775807 : Int64))) (q3 &&& (9223372036854775807 : Int64)) (q4 &&& (9223372036854775807 : Int64)))), .val (.long ((own_F1 (q0 &&& (9223372036854775807 : Int64))) - ((q3 &&& (9223372036854775807 : Int64)) * (q4 &&& (9223372036854775807 : Int64))))), .second, .val (.int (own_R (own_F1 (q0 &&& (9223372036854775807 : Int64))) (own_N (own_F1 (q0 &&& (9223372036854775807 : Int64))) (own_N (own_F1 (q0 &&& (9223372036854775807 : Int64))) (0 : Int64) (q1 &&& (9223372036854775807 : Int64)) (q2 &&& (9223372036854775807 : Int64))) (q3 &&& (9223372036854775807 : Int64)) (q4 &&& (9223372036854775807 : Int64))) ((own_F1 (q0 &&& (9223372036854775807 : Int64))) - ((q3 &&& (9223372036854775807 : Int64)) * (q4 &&& (9223372036854775807 : Int64)))) (1 : Int64))), .unset]) (hb hby at_166) rfl rfl ?_
      refine Run.iload (pc' := 170) X15 hx (hb hby at_168) rfl rfl ?_
      refine Run.ifYes (pc' := 175) X15 hx (hb hby at_170) ((if0 _ _).trans (feq (own_last inv2)).2) (by decide) (by decide) ?_
      refine Run.aload (pc' := 177) X15 hx (hb hby at_175) rfl rfl ?_
      refine Run.lconst (pc' := 178) (v := (1 : Int64)) X15 hx (hb hby at_177) rfl rfl ?_
      refine Run.lconst (pc' := 179) (v := (1 : Int64)) X15 hx (hb hby at_178) rfl rfl ?_
      obtain ⟨T17, L17, v17, X17, Q17, st17⟩ := callVirtual X15 hx (y := (⟨"com/example/traceloom/traceloom/io/Bounds$Budget", "take", "(JJ)Z"⟩ : MethodName)) (z := (⟨"com/example/traceloom/traceloom/io/Bounds$Budget", "take", "(JJ)Z"⟩ : MethodName)) (C := "com/example/traceloom/traceloom/io/Bounds$Budget") (a := b2) (Ls := #[.val (.long q0), .second, .val (.long q1), .second, .val (.long q2), .second, .val (.long q3), .second, .val (.long q4), .second, .val (.long (q0 &&& (9223372036854775807 : Int64))), .second, .val (.long (q1 &&& (9223372036854775807 : Int64))), .second, .val (.long (q2 &&& (9223372036854775807 : Int64))), .second, .val (.long (q3 &&& (9223372036854775807 : Int64))), .second, .val (.long (q4 &&& (9223372036854775807 : Int64))), .second, .val (.long (own_F1 (q0 &&& (9223372036854775807 : Int64)))), .second, .val (.ref b2), .val (.int (own_F2 (q1 &&& (9223372036854775807 : Int64)) (q2 &&& (9223372036854775807 : Int64)) (own_F1 (q0 &&& (9223372036854775807 : Int64))))), .val (.int (own_R (own_F1 (q0 &&& (9223372036854775807 : Int64))) (0 : Int64) (q1 &&& (9223372036854775807 : Int64)) (q2 &&& (9223372036854775807 : Int64)))), .val (.long (own_F1 (q0 &&& (9223372036854775807 : Int64)))), .second, .val (.int (own_F2 (q3 &&& (9223372036854775807 : Int64)) (q4 &&& (9223372036854775807 : Int64)) (own_F1 (q0 &&& (9223372036854775807 : Int64))))), .val (.int (own_R (own_F1 (q0 &&& (9223372036854775807 : Int64))) (own_N (own_F1 (q0 &&& (9223372036854775807 : Int64))) (0 : Int64) (q1 &&& (9223372036854775807 : Int64)) (q2 &&& (9223372036854775807 : Int64))) (q3 &&& (9223372036854775807 : Int64)) (q4 &&& (9223372036854775807 : Int64)))), .val (.long ((own_F1 (q0 &&& (9223372036854775807 : Int64))) - ((q3 &&& (9223372036854775807 : Int64)) * (q4 &&& (9223372036854775807 : Int64))))), .second, .val (.int (own_R (own_F1 (q0 &&& (9223372036854775807 : Int64))) (own_N (own_F1 (q0 &&& (9223372036854775807 : Int64))) (own_N (own_F1 (q0 &&& (9223372036854775807 : Int64))) (0 : Int64) (q1 &&& (9223372036854775807 : Int64)) (q2 &&& (9223372036854775807 : Int64))) (q3 &&& (9223372036854775807 : Int64)) (q4 &&& (9223372036854775807 : Int64))) ((own_F1 (q0 &&& (9223372036854775807 : Int64))) - ((q3 &&& (9223372036854775807 : Int64)) * (q4 &&& (9223372036854775807 : Int64)))) (1 : Int64))), .unset]) (rest := []) (W := 0) (argsL := [(.long (1 : Int64)), (.long (1 : Int64))]) hZ hown (hw _ (List.mem_of_getElem? (i := 24) rfl)) (hw _ (List.mem_of_getElem? (i := 25) rfl)) (notFace_of_selects (args := #[]) (mvT hZ (hw _ (List.mem_of_getElem? (i := 27) rfl)))) (hw _ (List.mem_of_getElem? (i := 27) rfl)) (hw _ (List.mem_of_getElem? (i := 26) rfl)) (hw _ (List.mem_of_getElem? (i := 10) rfl)) (hw _ (List.mem_of_getElem? (i := 28) rfl)) (by decide) rfl E15 (rm4 l Z a0 hw [] b2 (1 : Int64) (1 : Int64) (own_F1 (q0 &&& (9223372036854775807 : Int64))) (own_N (own_F1 (q0 &&& (9223372036854775807 : Int64))) (own_N (own_F1 (q0 &&& (9223372036854775807 : Int64))) (own_N (own_F1 (q0 &&& (9223372036854775807 : Int64))) (0 : Int64) (q1 &&& (9223372036854775807 : Int64)) (q2 &&& (9223372036854775807 : Int64))) (q3 &&& (9223372036854775807 : Int64)) (q4 &&& (9223372036854775807 : Int64))) ((own_F1 (q0 &&& (9223372036854775807 : Int64))) - ((q3 &&& (9223372036854775807 : Int64)) * (q4 &&& (9223372036854775807 : Int64)))) (1 : Int64)) T15.heap n0 Z15 E15 F15_allowed F15_taken G2 ) (hb hby at_179) (lenOf own_pd3 rfl) (by decide) (by decide) (by rw [hml]; rfl) (Nat.le_of_eq rfl) (by decide) (by decide)
      obtain ⟨rfl, M17, K17, E17, F17_allowed, F17_taken⟩ := Q17
      have N17 := Fr.app N15 M17
      have fq18 := Exa.keep E15 K17
      have Z17 : n0 ≤ T17.heap.size := Nat.le_trans Z15 K17.1
      refine Run.back (g' := (mkF m 182 #[.val (.long q0), .second, .val (.long q1), .second, .val (.long q2), .second, .val (.long q3), .second, .val (.long q4), .second, .val (.long (q0 &&& (9223372036854775807 : Int64))), .second, .val (.long (q1 &&& (9223372036854775807 : Int64))), .second, .val (.long (q2 &&& (9223372036854775807 : Int64))), .second, .val (.long (q3 &&& (9223372036854775807 : Int64))), .second, .val (.long (q4 &&& (9223372036854775807 : Int64))), .second, .val (.long (own_F1 (q0 &&& (9223372036854775807 : Int64)))), .second, .val (.ref b2), .val (.int (own_F2 (q1 &&& (9223372036854775807 : Int64)) (q2 &&& (9223372036854775807 : Int64)) (own_F1 (q0 &&& (9223372036854775807 : Int64))))), .val (.int (own_R (own_F1 (q0 &&& (9223372036854775807 : Int64))) (0 : Int64) (q1 &&& (9223372036854775807 : Int64)) (q2 &&& (9223372036854775807 : Int64)))), .val (.long (own_F1 (q0 &&& (9223372036854775807 : Int64)))), .second, .val (.int (own_F2 (q3 &&& (9223372036854775807 : Int64)) (q4 &&& (9223372036854775807 : Int64)) (own_F1 (q0 &&& (9223372036854775807 : Int64))))), .val (.int (own_R (own_F1 (q0 &&& (9223372036854775807 : Int64))) (own_N (own_F1 (q0 &&& (9223372036854775807 : Int64))) (0 : Int64) (q1 &&& (9223372036854775807 : Int64)) (q2 &&& (9223372036854775807 : Int64))) (q3 &&& (9223372036854775807 : Int64)) (q4 &&& (9223372036854775807 : Int64)))), .val (.long ((own_F1 (q0 &&& (9223372036854775807 : Int64))) - ((q3 &&& (9223372036854775807 : Int64)) * (q4 &&& (9223372036854775807 : Int64))))), .second, .val (.int (own_R (own_F1 (q0 &&& (9223372036854775807 : Int64))) (own_N (own_F1 (q0 &&& (9223372036854775807 : Int64))) (own_N (own_F1 (q0 &&& (9223372036854775807 : Int64))) (0 : Int64) (q1 &&& (9223372036854775807 : Int64)) (q2 &&& (9223372036854775807 : Int64))) (q3 &&& (9223372036854775807 : Int64)) (q4 &&& (9223372036854775807 : Int64))) ((own_F1 (q0 &&& (9223372036854775807 : Int64))) - ((q3 &&& (9223372036854775807 : Int64)) * (q4 &&& (9223372036854775807 : Int64)))) (1 : Int64))), .unset] [(.int (own_R (own_F1 (q0 &&& (9223372036854775807 : Int64))) (own_N (own_F1 (q0 &&& (9223372036854775807 : Int64))) (own_N (own_F1 (q0 &&& (9223372036854775807 : Int64))) (own_N (own_F1 (q0 &&& (9223372036854775807 : Int64))) (0 : Int64) (q1 &&& (9223372036854775807 : Int64)) (q2 &&& (9223372036854775807 : Int64))) (q3 &&& (9223372036854775807 : Int64)) (q4 &&& (9223372036854775807 : Int64))) ((own_F1 (q0 &&& (9223372036854775807 : Int64))) - ((q3 &&& (9223372036854775807 : Int64)) * (q4 &&& (9223372036854775807 : Int64)))) (1 : Int64)) (1 : Int64) (1 : Int64)))])) st17 ?_
      refine Run.istore (pc' := 184) X17 hx (l' := #[.val (.long q0), .second, .val (.long q1), .second, .val (.long q2), .second, .val (.long q3), .second, .val (.long q4), .second, .val (.long (q0 &&& (9223372036854775807 : Int64))), .second, .val (.long (q1 &&& (9223372036854775807 : Int64))), .second, .val (.long (q2 &&& (9223372036854775807 : Int64))), .second, .val (.long (q3 &&& (9223372036854775807 : Int64))), .second, .val (.long (q4 &&& (9223372036854775807 : Int64))), .second, .val (.long (own_F1 (q0 &&& (9223372036854775807 : Int64)))), .second, .val (.ref b2), .val (.int (own_F2 (q1 &&& (9223372036854775807 : Int64)) (q2 &&& (9223372036854775807 : Int64)) (own_F1 (q0 &&& (9223372036854775807 : Int64))))), .val (.int (own_R (own_F1 (q0 &&& (9223372036854775807 : Int64))) (0 : Int64) (q1 &&& (9223372036854775807 : Int64)) (q2 &&& (9223372036854775807 : Int64)))), .val (.long (own_F1 (q0 &&& (9223372036854775807 : Int64)))), .second, .val (.int (own_F2 (q3 &&& (9223372036854775807 : Int64)) (q4 &&& (9223372036854775807 : Int64)) (own_F1 (q0 &&& (9223372036854775807 : Int64))))), .val (.int (own_R (own_F1 (q0 &&& (9223372036854775807 : Int64))) (own_N (own_F1 (q0 &&& (9223372036854775807 : Int64))) (0 : Int64) (q1 &&& (9223372036854775807 : Int64)) (q2 &&& (9223372036854775807 : Int64))) (q3 &&& (9223372036854775807 : Int64)) (q4 &&& (9223372036854775807 : Int64)))), .val (.long ((own_F1 (q0 &&& (9223372036854775807 : Int64))) - ((q3 &&& (9223372036854775807 : Int64)) * (q4 &&& (9223372036854775807 : Int64))))), .second, .val (.int (own_R (own_F1 (q0 &&& (9223372036854775807 : Int64))) (own_N (own_F1 (q0 &&& (9223372036854775807 : Int64))) (own_N (own_F1 (q0 &&& (9223372036854775807 : Int64))) (0 : Int64) (q1 &&& (9223372036854775807 : Int64)) (q2 &&& (9223372036854775807 : Int64))) (q3 &&& (9223372036854775807 : Int64)) (q4 &&& (9223372036854775807 : Int64))) ((own_F1 (q0 &&& (9223372036854775807 : Int64))) - ((q3 &&& (9223372036854775807 : Int64)) * (q4 &&& (9223372036854775807 : Int64)))) (1 : Int64))), .val (.int (own_R (own_F1 (q0 &&& (9223372036854775807 : Int64))) (own_N (own_F1 (q0 &&& (9223372036854775807 : Int64))) (own_N (own_F1 (q0 &&& (9223372036854775807 : Int64))) (own_N (own_F1 (q0 &&& (9223372036854775807 : Int64))) (0 : Int64) (q1 &&& (9223372036854775807 : Int64)) (q2 &&& (9223372036854775807 : Int64))) (q3 &&& (9223372036854775807 : Int64)) (q4 &&& (9223372036854775807 : Int64))) ((own_F1 (q0 &&& (9223372036854775807 : Int64))) - ((q3 &&& (9223372036854775807 : Int64)) * (q4 &&& (9223372036854775807 : Int64)))) (1 : Int64)) (1 : Int64) (1 : Int64)))]) (hb hby at_182) rfl rfl ?_
      refine Run.iload (pc' := 186) X17 hx (hb hby at_184) rfl rfl ?_
      refine Run.ifNo (pc' := 189) X17 hx (hb hby at_186) ((if0 _ _).trans (teq (own_over inv2)).2) rfl ?_
      refine Run.iconst (pc' := 190) (v := (1 : Int32)) X17 hx (hb hby at_189) rfl rfl ?_
      refine Run.goto (pc' := 194) X17 hx (hb hby at_190) (by decide) (by decide) ?_
      exact Run.retSmall X17 hx (t := .boolean) (z' := (1 : Int32)) Bd.notSynchronized Bd.returns (by simp) rfl (hb hby at_194) ⟨rfl, N17⟩ (by decide) (by decide)
  · skip
    refine Run.ifNo (pc' := 92) X6 hx (hb hby at_89) ((if0 _ _).trans (feq hc89).1) rfl ?_
    refine Run.lload (pc' := 94) X6 hx (hb hby at_92) rfl rfl ?_
    refine Run.lload (pc' := 96) X6 hx (hb hby at_94) rfl rfl ?_
    refine Run.lload (pc' := 98) X6 hx (hb hby at_96) rfl rfl ?_
    refine Run.lmul (pc' := 99) X6 hx (hb hby at_98) rfl ?_
    refine Run.lsub (pc' := 100) X6 hx (hb hby at_99) rfl ?_
    refine Run.goto (pc' := 105) X6 hx (hb hby at_100) (by decide) (by decide) ?_
    refine Run.lstore (pc' := 107) X6 hx (l' := #[.val (.long q0), .second, .val (.long q1), .second, .val (.long q2), .second, .val (.long q3), .second, .val (.long q4), .second, .val (.long (q0 &&& (9223372036854775807 : Int64))), .second, .val (.long (q1 &&& (9223372036854775807 : Int64))), .second, .val (.long (q2 &&& (9223372036854775807 : Int64))), .second, .val (.long (q3 &&& (9223372036854775807 : Int64))), .second, .val (.long (q4 &&& (9223372036854775807 : Int64))), .second, .val (.long (own_F1 (q0 &&& (9223372036854775807 : Int64)))), .second, .val (.ref b2), .val (.int (own_F2 (q1 &&& (9223372036854775807 : Int64)) (q2 &&& (9223372036854775807 : Int64)) (own_F1 (q0 &&& (9223372036854775807 : Int64))))), .val (.int (own_R (own_F1 (q0 &&& (9223372036854775807 : Int64))) (0 : Int64) (q1 &&& (9223372036854775807 : Int64)) (q2 &&& (9223372036854775807 : Int64)))), .val (.long ((own_F1 (q0 &&& (9223372036854775807 : Int64))) - ((q1 &&& (9223372036854775807 : Int64)) * (q2 &&& (9223372036854775807 : Int64))))), .second, .unset, .unset, .unset, .unset, .unset, .unset]) (hb hby at_105) rfl rfl ?_
    have inv1 := own_yes inv0 (own_pos q1) (own_pos q2) hc89
    refine Run.lload (pc' := 109) X6 hx (hb hby at_107) rfl rfl ?_
    refine Run.lload (pc' := 111) X6 hx (hb hby at_109) rfl rfl ?_
    refine Run.lload (pc' := 113) X6 hx (hb hby at_111) rfl rfl ?_
    obtain ⟨T19, L19, v19, X19, Q19, st19⟩ := callStatic X6 hx (y := (⟨"com/example/traceloom/traceloom/io/BoundsTakePinLaw", "fits", "(JJJ)Z"⟩ : MethodName)) (Ls := #[.val (.long q0), .second, .val (.long q1), .second, .val (.long q2), .second, .val (.long q3), .second, .val (.long q4), .second, .val (.long (q0 &&& (9223372036854775807 : Int64))), .second, .val (.long (q1 &&& (9223372036854775807 : Int64))), .second, .val (.long (q2 &&& (9223372036854775807 : Int64))), .second, .val (.long (q3 &&& (9223372036854775807 : Int64))), .second, .val (.long (q4 &&& (9223372036854775807 : Int64))), .second, .val (.long (own_F1 (q0 &&& (9223372036854775807 : Int64)))), .second, .val (.ref b2), .val (.int (own_F2 (q1 &&& (9223372036854775807 : Int64)) (q2 &&& (9223372036854775807 : Int64)) (own_F1 (q0 &&& (9223372036854775807 : Int64))))), .val (.int (own_R (own_F1 (q0 &&& (9223372036854775807 : Int64))) (0 : Int64) (q1 &&& (9223372036854775807 : Int64)) (q2 &&& (9223372036854775807 : Int64)))), .val (.long ((own_F1 (q0 &&& (9223372036854775807 : Int64))) - ((q1 &&& (9223372036854775807 : Int64)) * (q2 &&& (9223372036854775807 : Int64))))), .second, .unset, .unset, .unset, .unset, .unset, .unset]) (rest := []) (W := 0) (argsL := [(.long (q3 &&& (9223372036854775807 : Int64))), (.long (q4 &&& (9223372036854775807 : Int64))), (.long ((own_F1 (q0 &&& (9223372036854775807 : Int64))) - ((q1 &&& (9223372036854775807 : Int64)) * (q2 &&& (9223372036854775807 : Int64)))))]) hZ hown (hw _ (List.mem_of_getElem? (i := 20) rfl)) (hw _ (List.mem_of_getElem? (i := 21) rfl)) (hw _ (List.mem_of_getElem? (i := 22) rfl)) (hw _ (List.mem_of_getElem? (i := 23) rfl)) (by decide) rfl (rm2 l Z a0 hw [] (q3 &&& (9223372036854775807 : Int64)) (q4 &&& (9223372036854775807 : Int64)) ((own_F1 (q0 &&& (9223372036854775807 : Int64))) - ((q1 &&& (9223372036854775807 : Int64)) * (q2 &&& (9223372036854775807 : Int64))))  T6.heap n0 Z6 ) (hb hby at_113) (lenOf own_pd2 rfl) (by decide) (by decide) (by rw [hml]; rfl) (Nat.le_of_eq rfl) (by decide) (by decide)
    obtain ⟨rfl, M19, e19⟩ := Q19
    have N19 := Fr.app N6 M19
    refine Run.back (g' := (mkF m 116 #[.val (.long q0), .second, .val (.long q1), .second, .val (.long q2), .second, .val (.long q3), .second, .val (.long q4), .second, .val (.long (q0 &&& (9223372036854775807 : Int64))), .second, .val (.long (q1 &&& (9223372036854775807 : Int64))), .second, .val (.long (q2 &&& (9223372036854775807 : Int64))), .second, .val (.long (q3 &&& (9223372036854775807 : Int64))), .second, .val (.long (q4 &&& (9223372036854775807 : Int64))), .second, .val (.long (own_F1 (q0 &&& (9223372036854775807 : Int64)))), .second, .val (.ref b2), .val (.int (own_F2 (q1 &&& (9223372036854775807 : Int64)) (q2 &&& (9223372036854775807 : Int64)) (own_F1 (q0 &&& (9223372036854775807 : Int64))))), .val (.int (own_R (own_F1 (q0 &&& (9223372036854775807 : Int64))) (0 : Int64) (q1 &&& (9223372036854775807 : Int64)) (q2 &&& (9223372036854775807 : Int64)))), .val (.long ((own_F1 (q0 &&& (9223372036854775807 : Int64))) - ((q1 &&& (9223372036854775807 : Int64)) * (q2 &&& (9223372036854775807 : Int64))))), .second, .unset, .unset, .unset, .unset, .unset, .unset] [(.int (own_F2 (q3 &&& (9223372036854775807 : Int64)) (q4 &&& (9223372036854775807 : Int64)) ((own_F1 (q0 &&& (9223372036854775807 : Int64))) - ((q1 &&& (9223372036854775807 : Int64)) * (q2 &&& (9223372036854775807 : Int64))))))])) st19 ?_
    refine Run.istore (pc' := 118) X19 hx (l' := #[.val (.long q0), .second, .val (.long q1), .second, .val (.long q2), .second, .val (.long q3), .second, .val (.long q4), .second, .val (.long (q0 &&& (9223372036854775807 : Int64))), .second, .val (.long (q1 &&& (9223372036854775807 : Int64))), .second, .val (.long (q2 &&& (9223372036854775807 : Int64))), .second, .val (.long (q3 &&& (9223372036854775807 : Int64))), .second, .val (.long (q4 &&& (9223372036854775807 : Int64))), .second, .val (.long (own_F1 (q0 &&& (9223372036854775807 : Int64)))), .second, .val (.ref b2), .val (.int (own_F2 (q1 &&& (9223372036854775807 : Int64)) (q2 &&& (9223372036854775807 : Int64)) (own_F1 (q0 &&& (9223372036854775807 : Int64))))), .val (.int (own_R (own_F1 (q0 &&& (9223372036854775807 : Int64))) (0 : Int64) (q1 &&& (9223372036854775807 : Int64)) (q2 &&& (9223372036854775807 : Int64)))), .val (.long ((own_F1 (q0 &&& (9223372036854775807 : Int64))) - ((q1 &&& (9223372036854775807 : Int64)) * (q2 &&& (9223372036854775807 : Int64))))), .second, .val (.int (own_F2 (q3 &&& (9223372036854775807 : Int64)) (q4 &&& (9223372036854775807 : Int64)) ((own_F1 (q0 &&& (9223372036854775807 : Int64))) - ((q1 &&& (9223372036854775807 : Int64)) * (q2 &&& (9223372036854775807 : Int64)))))), .unset, .unset, .unset, .unset, .unset]) (hb hby at_116) rfl rfl ?_
    refine Run.aload (pc' := 120) X19 hx (hb hby at_118) rfl rfl ?_
    refine Run.lload (pc' := 122) X19 hx (hb hby at_120) rfl rfl ?_
    refine Run.lload (pc' := 124) X19 hx (hb hby at_122) rfl rfl ?_
    obtain ⟨T20, L20, v20, X20, Q20, st20⟩ := callVirtual X19 hx (y := (⟨"com/example/traceloom/traceloom/io/Bounds$Budget", "take", "(JJ)Z"⟩ : MethodName)) (z := (⟨"com/example/traceloom/traceloom/io/Bounds$Budget", "take", "(JJ)Z"⟩ : MethodName)) (C := "com/example/traceloom/traceloom/io/Bounds$Budget") (a := b2) (Ls := #[.val (.long q0), .second, .val (.long q1), .second, .val (.long q2), .second, .val (.long q3), .second, .val (.long q4), .second, .val (.long (q0 &&& (9223372036854775807 : Int64))), .second, .val (.long (q1 &&& (9223372036854775807 : Int64))), .second, .val (.long (q2 &&& (9223372036854775807 : Int64))), .second, .val (.long (q3 &&& (9223372036854775807 : Int64))), .second, .val (.long (q4 &&& (9223372036854775807 : Int64))), .second, .val (.long (own_F1 (q0 &&& (9223372036854775807 : Int64)))), .second, .val (.ref b2), .val (.int (own_F2 (q1 &&& (9223372036854775807 : Int64)) (q2 &&& (9223372036854775807 : Int64)) (own_F1 (q0 &&& (9223372036854775807 : Int64))))), .val (.int (own_R (own_F1 (q0 &&& (9223372036854775807 : Int64))) (0 : Int64) (q1 &&& (9223372036854775807 : Int64)) (q2 &&& (9223372036854775807 : Int64)))), .val (.long ((own_F1 (q0 &&& (9223372036854775807 : Int64))) - ((q1 &&& (9223372036854775807 : Int64)) * (q2 &&& (9223372036854775807 : Int64))))), .second, .val (.int (own_F2 (q3 &&& (9223372036854775807 : Int64)) (q4 &&& (9223372036854775807 : Int64)) ((own_F1 (q0 &&& (9223372036854775807 : Int64))) - ((q1 &&& (9223372036854775807 : Int64)) * (q2 &&& (9223372036854775807 : Int64)))))), .unset, .unset, .unset, .unset, .unset]) (rest := []) (W := 0) (argsL := [(.long (q3 &&& (9223372036854775807 : Int64))), (.long (q4 &&& (9223372036854775807 : Int64)))]) hZ hown (hw _ (List.mem_of_getElem? (i := 24) rfl)) (hw _ (List.mem_of_getElem? (i := 25) rfl)) (notFace_of_selects (args := #[]) (mvT hZ (hw _ (List.mem_of_getElem? (i := 27) rfl)))) (hw _ (List.mem_of_getElem? (i := 27) rfl)) (hw _ (List.mem_of_getElem? (i := 26) rfl)) (hw _ (List.mem_of_getElem? (i := 10) rfl)) (hw _ (List.mem_of_getElem? (i := 28) rfl)) (by decide) e19 E6 (rm4 l Z a0 hw [] b2 (q3 &&& (9223372036854775807 : Int64)) (q4 &&& (9223372036854775807 : Int64)) (own_F1 (q0 &&& (9223372036854775807 : Int64))) (own_N (own_F1 (q0 &&& (9223372036854775807 : Int64))) (0 : Int64) (q1 &&& (9223372036854775807 : Int64)) (q2 &&& (9223372036854775807 : Int64))) T6.heap n0 Z6 E6 F6_allowed F6_taken G2 ) (hb hby at_124) (lenOf own_pd3 rfl) (by decide) (by decide) (by rw [hml]; rfl) (Nat.le_of_eq rfl) (by decide) (by decide)
    obtain ⟨rfl, M20, K20, E20, F20_allowed, F20_taken⟩ := Q20
    have N20 := Fr.app N19 M20
    have fq21 := Exa.keep E6 K20
    have Z20 : n0 ≤ T20.heap.size := Nat.le_trans Z6 K20.1
    refine Run.back (g' := (mkF m 127 #[.val (.long q0), .second, .val (.long q1), .second, .val (.long q2), .second, .val (.long q3), .second, .val (.long q4), .second, .val (.long (q0 &&& (9223372036854775807 : Int64))), .second, .val (.long (q1 &&& (9223372036854775807 : Int64))), .second, .val (.long (q2 &&& (9223372036854775807 : Int64))), .second, .val (.long (q3 &&& (9223372036854775807 : Int64))), .second, .val (.long (q4 &&& (9223372036854775807 : Int64))), .second, .val (.long (own_F1 (q0 &&& (9223372036854775807 : Int64)))), .second, .val (.ref b2), .val (.int (own_F2 (q1 &&& (9223372036854775807 : Int64)) (q2 &&& (9223372036854775807 : Int64)) (own_F1 (q0 &&& (9223372036854775807 : Int64))))), .val (.int (own_R (own_F1 (q0 &&& (9223372036854775807 : Int64))) (0 : Int64) (q1 &&& (9223372036854775807 : Int64)) (q2 &&& (9223372036854775807 : Int64)))), .val (.long ((own_F1 (q0 &&& (9223372036854775807 : Int64))) - ((q1 &&& (9223372036854775807 : Int64)) * (q2 &&& (9223372036854775807 : Int64))))), .second, .val (.int (own_F2 (q3 &&& (9223372036854775807 : Int64)) (q4 &&& (9223372036854775807 : Int64)) ((own_F1 (q0 &&& (9223372036854775807 : Int64))) - ((q1 &&& (9223372036854775807 : Int64)) * (q2 &&& (9223372036854775807 : Int64)))))), .unset, .unset, .unset, .unset, .unset] [(.int (own_R (own_F1 (q0 &&& (9223372036854775807 : Int64))) (own_N (own_F1 (q0 &&& (9223372036854775807 : Int64))) (0 : Int64) (q1 &&& (9223372036854775807 : Int64)) (q2 &&& (9223372036854775807 : Int64))) (q3 &&& (9223372036854775807 : Int64)) (q4 &&& (9223372036854775807 : Int64))))])) st20 ?_
    refine Run.istore (pc' := 129) X20 hx (l' := #[.val (.long q0), .second, .val (.long q1), .second, .val (.long q2), .second, .val (.long q3), .second, .val (.long q4), .second, .val (.long (q0 &&& (9223372036854775807 : Int64))), .second, .val (.long (q1 &&& (9223372036854775807 : Int64))), .second, .val (.long (q2 &&& (9223372036854775807 : Int64))), .second, .val (.long (q3 &&& (9223372036854775807 : Int64))), .second, .val (.long (q4 &&& (9223372036854775807 : Int64))), .second, .val (.long (own_F1 (q0 &&& (9223372036854775807 : Int64)))), .second, .val (.ref b2), .val (.int (own_F2 (q1 &&& (9223372036854775807 : Int64)) (q2 &&& (9223372036854775807 : Int64)) (own_F1 (q0 &&& (9223372036854775807 : Int64))))), .val (.int (own_R (own_F1 (q0 &&& (9223372036854775807 : Int64))) (0 : Int64) (q1 &&& (9223372036854775807 : Int64)) (q2 &&& (9223372036854775807 : Int64)))), .val (.long ((own_F1 (q0 &&& (9223372036854775807 : Int64))) - ((q1 &&& (9223372036854775807 : Int64)) * (q2 &&& (9223372036854775807 : Int64))))), .second, .val (.int (own_F2 (q3 &&& (9223372036854775807 : Int64)) (q4 &&& (9223372036854775807 : Int64)) ((own_F1 (q0 &&& (9223372036854775807 : Int64))) - ((q1 &&& (9223372036854775807 : Int64)) * (q2 &&& (9223372036854775807 : Int64)))))), .val (.int (own_R (own_F1 (q0 &&& (9223372036854775807 : Int64))) (own_N (own_F1 (q0 &&& (9223372036854775807 : Int64))) (0 : Int64) (q1 &&& (9223372036854775807 : Int64)) (q2 &&& (9223372036854775807 : Int64))) (q3 &&& (9223372036854775807 : Int64)) (q4 &&& (9223372036854775807 : Int64)))), .unset, .unset, .unset, .unset]) (hb hby at_127) rfl rfl ?_
    refine Run.iload (pc' := 131) X20 hx (hb hby at_129) rfl rfl ?_
    refine Run.iload (pc' := 133) X20 hx (hb hby at_131) rfl rfl ?_
    refine Run.icmpYes (pc' := 138) X20 hx (hb hby at_133) (teq (own_eq inv1 (own_pos q3) (own_pos q4))).1 (by decide) (by decide) ?_
    refine Run.iload (pc' := 140) X20 hx (hb hby at_138) rfl rfl ?_
    by_cases hc140 : (own_F2 (q3 &&& (9223372036854775807 : Int64)) (q4 &&& (9223372036854775807 : Int64)) ((own_F1 (q0 &&& (9223372036854775807 : Int64))) - ((q1 &&& (9223372036854775807 : Int64)) * (q2 &&& (9223372036854775807 : Int64))))) = (0 : Int32)
    · skip
      refine Run.ifYes (pc' := 154) X20 hx (hb hby at_140) ((if0 _ _).trans (teq hc140).1) (by decide) (by decide) ?_
      refine Run.lload (pc' := 156) X20 hx (hb hby at_154) rfl rfl ?_
      refine Run.lstore (pc' := 158) X20 hx (l' := #[.val (.long q0), .second, .val (.long q1), .second, .val (.long q2), .second, .val (.long q3), .second, .val (.long q4), .second, .val (.long (q0 &&& (9223372036854775807 : Int64))), .second, .val (.long (q1 &&& (9223372036854775807 : Int64))), .second, .val (.long (q2 &&& (9223372036854775807 : Int64))), .second, .val (.long (q3 &&& (9223372036854775807 : Int64))), .second, .val (.long (q4 &&& (9223372036854775807 : Int64))), .second, .val (.long (own_F1 (q0 &&& (9223372036854775807 : Int64)))), .second, .val (.ref b2), .val (.int (own_F2 (q1 &&& (9223372036854775807 : Int64)) (q2 &&& (9223372036854775807 : Int64)) (own_F1 (q0 &&& (9223372036854775807 : Int64))))), .val (.int (own_R (own_F1 (q0 &&& (9223372036854775807 : Int64))) (0 : Int64) (q1 &&& (9223372036854775807 : Int64)) (q2 &&& (9223372036854775807 : Int64)))), .val (.long ((own_F1 (q0 &&& (9223372036854775807 : Int64))) - ((q1 &&& (9223372036854775807 : Int64)) * (q2 &&& (9223372036854775807 : Int64))))), .second, .val (.int (own_F2 (q3 &&& (9223372036854775807 : Int64)) (q4 &&& (9223372036854775807 : Int64)) ((own_F1 (q0 &&& (9223372036854775807 : Int64))) - ((q1 &&& (9223372036854775807 : Int64)) * (q2 &&& (9223372036854775807 : Int64)))))), .val (.int (own_R (own_F1 (q0 &&& (9223372036854775807 : Int64))) (own_N (own_F1 (q0 &&& (9223372036854775807 : Int64))) (0 : Int64) (q1 &&& (9223372036854775807 : Int64)) (q2 &&& (9223372036854775807 : Int64))) (q3 &&& (9223372036854775807 : Int64)) (q4 &&& (9223372036854775807 : Int64)))), .val (.long ((own_F1 (q0 &&& (9223372036854775807 : Int64))) - ((q1 &&& (9223372036854775807 : Int64)) * (q2 &&& (9223372036854775807 : Int64))))), .second, .unset, .unset]) (hb hby at_156) rfl rfl ?_
      have inv2 := own_no inv1 (own_pos q3) (own_pos q4) hc140
      refine Run.aload (pc' := 160) X20 hx (hb hby at_158) rfl rfl ?_
      refine Run.lload (pc' := 162) X20 hx (hb hby at_160) rfl rfl ?_
      refine Run.lconst (pc' := 163) (v := (1 : Int64)) X20 hx (hb hby at_162) rfl rfl ?_
      obtain ⟨T22, L22, v22, X22, Q22, st22⟩ := callVirtual X20 hx (y := (⟨"com/example/traceloom/traceloom/io/Bounds$Budget", "take", "(JJ)Z"⟩ : MethodName)) (z := (⟨"com/example/traceloom/traceloom/io/Bounds$Budget", "take", "(JJ)Z"⟩ : MethodName)) (C := "com/example/traceloom/traceloom/io/Bounds$Budget") (a := b2) (Ls := #[.val (.long q0), .second, .val (.long q1), .second, .val (.long q2), .second, .val (.long q3), .second, .val (.long q4), .second, .val (.long (q0 &&& (9223372036854775807 : Int64))), .second, .val (.long (q1 &&& (9223372036854775807 : Int64))), .second, .val (.long (q2 &&& (9223372036854775807 : Int64))), .second, .val (.long (q3 &&& (9223372036854775807 : Int64))), .second, .val (.long (q4 &&& (9223372036854775807 : Int64))), .second, .val (.long (own_F1 (q0 &&& (9223372036854775807 : Int64)))), .second, .val (.ref b2), .val (.int (own_F2 (q1 &&& (9223372036854775807 : Int64)) (q2 &&& (9223372036854775807 : Int64)) (own_F1 (q0 &&& (9223372036854775807 : Int64))))), .val (.int (own_R (own_F1 (q0 &&& (9223372036854775807 : Int64))) (0 : Int64) (q1 &&& (9223372036854775807 : Int64)) (q2 &&& (9223372036854775807 : Int64)))), .val (.long ((own_F1 (q0 &&& (9223372036854775807 : Int64))) - ((q1 &&& (9223372036854775807 : Int64)) * (q2 &&& (9223372036854775807 : Int64))))), .second, .val (.int (own_F2 (q3 &&& (9223372036854775807 : Int64)) (q4 &&& (9223372036854775807 : Int64)) ((own_F1 (q0 &&& (9223372036854775807 : Int64))) - ((q1 &&& (9223372036854775807 : Int64)) * (q2 &&& (9223372036854775807 : Int64)))))), .val (.int (own_R (own_F1 (q0 &&& (9223372036854775807 : Int64))) (own_N (own_F1 (q0 &&& (9223372036854775807 : Int64))) (0 : Int64) (q1 &&& (9223372036854775807 : Int64)) (q2 &&& (9223372036854775807 : Int64))) (q3 &&& (9223372036854775807 : Int64)) (q4 &&& (9223372036854775807 : Int64)))), .val (.long ((own_F1 (q0 &&& (9223372036854775807 : Int64))) - ((q1 &&& (9223372036854775807 : Int64)) * (q2 &&& (9223372036854775807 : Int64))))), .second, .unset, .unset]) (rest := []) (W := 0) (argsL := [(.long ((own_F1 (q0 &&& (9223372036854775807 : Int64))) - ((q1 &&& (9223372036854775807 : Int64)) * (q2 &&& (9223372036854775807 : Int64))))), (.long (1 : Int64))]) hZ hown (hw _ (List.mem_of_getElem? (i := 24) rfl)) (hw _ (List.mem_of_getElem? (i := 25) rfl)) (notFace_of_selects (args := #[]) (mvT hZ (hw _ (List.mem_of_getElem? (i := 27) rfl)))) (hw _ (List.mem_of_getElem? (i := 27) rfl)) (hw _ (List.mem_of_getElem? (i := 26) rfl)) (hw _ (List.mem_of_getElem? (i := 10) rfl)) (hw _ (List.mem_of_getElem? (i := 28) rfl)) (by decide) rfl E20 (rm4 l Z a0 hw [] b2 ((own_F1 (q0 &&& (9223372036854775807 : Int64))) - ((q1 &&& (9223372036854775807 : Int64)) * (q2 &&& (9223372036854775807 : Int64)))) (1 : Int64) (own_F1 (q0 &&& (9223372036854775807 : Int64))) (own_N (own_F1 (q0 &&& (9223372036854775807 : Int64))) (own_N (own_F1 (q0 &&& (9223372036854775807 : Int64))) (0 : Int64) (q1 &&& (9223372036854775807 : Int64)) (q2 &&& (9223372036854775807 : Int64))) (q3 &&& (9223372036854775807 : Int64)) (q4 &&& (9223372036854775807 : Int64))) T20.heap n0 Z20 E20 F20_allowed F20_taken G2 ) (hb hby at_163) (lenOf own_pd3 rfl) (by decide) (by decide) (by rw [hml]; rfl) (Nat.le_of_eq rfl) (by decide) (by decide)
      obtain ⟨rfl, M22, K22, E22, F22_allowed, F22_taken⟩ := Q22
      have N22 := Fr.app N20 M22
      have fq23 := Exa.keep E20 K22
      have Z22 : n0 ≤ T22.heap.size := Nat.le_trans Z20 K22.1
      refine Run.back (g' := (mkF m 166 #[.val (.long q0), .second, .val (.long q1), .second, .val (.long q2), .second, .val (.long q3), .second, .val (.long q4), .second, .val (.long (q0 &&& (9223372036854775807 : Int64))), .second, .val (.long (q1 &&& (9223372036854775807 : Int64))), .second, .val (.long (q2 &&& (9223372036854775807 : Int64))), .second, .val (.long (q3 &&& (9223372036854775807 : Int64))), .second, .val (.long (q4 &&& (9223372036854775807 : Int64))), .second, .val (.long (own_F1 (q0 &&& (9223372036854775807 : Int64)))), .second, .val (.ref b2), .val (.int (own_F2 (q1 &&& (9223372036854775807 : Int64)) (q2 &&& (9223372036854775807 : Int64)) (own_F1 (q0 &&& (9223372036854775807 : Int64))))), .val (.int (own_R (own_F1 (q0 &&& (9223372036854775807 : Int64))) (0 : Int64) (q1 &&& (9223372036854775807 : Int64)) (q2 &&& (9223372036854775807 : Int64)))), .val (.long ((own_F1 (q0 &&& (9223372036854775807 : Int64))) - ((q1 &&& (9223372036854775807 : Int64)) * (q2 &&& (9223372036854775807 : Int64))))), .second, .val (.int (own_F2 (q3 &&& (9223372036854775807 : Int64)) (q4 &&& (9223372036854775807 : Int64)) ((own_F1 (q0 &&& (9223372036854775807 : Int64))) - ((q1 &&& (9223372036854775807 : Int64)) * (q2 &&& (9223372036854775807 : Int64)))))), .val (.int (own_R (own_F1 (q0 &&& (9223372036854775807 : Int64))) (own_N (own_F1 (q0 &&& (9223372036854775807 : Int64))) (0 : Int64) (q1 &&& (9223372036854775807 : Int64)) (q2 &&& (9223372036854775807 : Int64))) (q3 &&& (9223372036854775807 : Int64)) (q4 &&& (9223372036854775807 : Int64)))), .val (.long ((own_F1 (q0 &&& (9223372036854775807 : Int64))) - ((q1 &&& (9223372036854775807 : Int64)) * (q2 &&& (9223372036854775807 : Int64))))), .second, .unset, .unset] [(.int (own_R (own_F1 (q0 &&& (9223372036854775807 : Int64))) (own_N (own_F1 (q0 &&& (9223372036854775807 : Int64))) (own_N (own_F1 (q0 &&& (9223372036854775807 : Int64))) (0 : Int64) (q1 &&& (9223372036854775807 : Int64)) (q2 &&& (9223372036854775807 : Int64))) (q3 &&& (9223372036854775807 : Int64)) (q4 &&& (9223372036854775807 : Int64))) ((own_F1 (q0 &&& (9223372036854775807 : Int64))) - ((q1 &&& (9223372036854775807 : Int64)) * (q2 &&& (9223372036854775807 : Int64)))) (1 : Int64)))])) st22 ?_
      refine Run.istore (pc' := 168) X22 hx (l' := #[.val (.long q0), .second, .val (.long q1), .second, .val (.long q2), .second, .val (.long q3), .second, .val (.long q4), .second, .val (.long (q0 &&& (9223372036854775807 : Int64))), .second, .val (.long (q1 &&& (9223372036854775807 : Int64))), .second, .val (.long (q2 &&& (9223372036854775807 : Int64))), .second, .val (.long (q3 &&& (9223372036854775807 : Int64))), .second, .val (.long (q4 &&& (9223372036854775807 : Int64))), .second, .val (.long (own_F1 (q0 &&& (9223372036854775807 : Int64)))), .second, .val (.ref b2), .val (.int (own_F2 (q1 &&& (9223372036854775807 : Int64)) (q2 &&& (9223372036854775807 : Int64)) (own_F1 (q0 &&& (9223372036854775807 : Int64))))), .val (.int (own_R (own_F1 (q0 &&& (9223372036854775807 : Int64))) (0 : Int64) (q1 &&& (9223372036854775807 : Int64)) (q2 &&& (9223372036854775807 : Int64)))), .val (.long ((own_F1 (q0 &&& (9223372036854775807 : Int64))) - ((q1 &&& (9223372036854775807 : Int64)) * (q2 &&& (9223372036854775807 : Int64))))), .second, .val (.int (own_F2 (q3 &&& (9223372036854775807 : Int64)) (q4 &&& (9223372036854775807 : Int64)) ((own_F1 (q0 &&& (9223372036854775807 : Int64))) - ((q1 &&& (9223372036854775807 : Int64)) * (q2 &&& (9223372036854775807 : Int64)))))), .val (.int (own_R (own_F1 (q0 &&& (9223372036854775807 : Int64))) (own_N (own_F1 (q0 &&& (9223372036854775807 : Int64))) (0 : Int64) (q1 &&& (9223372036854775807 : Int64)) (q2 &&& (9223372036854775807 : Int64))) (q3 &&& (9223372036854775807 : Int64)) (q4 &&& (9223372036854775807 : Int64)))), .val (.long ((own_F1 (q0 &&& (9223372036854775807 : Int64))) - ((q1 &&& (9223372036854775807 : Int64)) * (q2 &&& (9223372036854775807 : Int64))))), .second, .val (.int (own_R (own_F1 (q0 &&& (9223372036854775807 : Int64))) (own_N (own_F1 (q0 &&& (9223372036854775807 : Int64))) (own_N (own_F1 (q0 &&& (9223372036854775807 : Int64))) (0 : Int64) (q1 &&& (9223372036854775807 : Int64)) (q2 &&& (9223372036854775807 : Int64))) (q3 &&& (9223372036854775807 : Int64)) (q4 &&& (9223372036854775807 : Int64))) ((own_F1 (q0 &&& (9223372036854775807 : Int64))) - ((q1 &&& (9223372036854775807 : Int64)) * (q2 &&& (9223372036854775807 : Int64)))) (1 : Int64))), .unset]) (hb hby at_166) rfl rfl ?_
      refine Run.iload (pc' := 170) X22 hx (hb hby at_168) rfl rfl ?_
      refine Run.ifYes (pc' := 175) X22 hx (hb hby at_170) ((if0 _ _).trans (feq (own_last inv2)).2) (by decide) (by decide) ?_
      refine Run.aload (pc' := 177) X22 hx (hb hby at_175) rfl rfl ?_
      refine Run.lconst (pc' := 178) (v := (1 : Int64)) X22 hx (hb hby at_177) rfl rfl ?_
      refine Run.lconst (pc' := 179) (v := (1 : Int64)) X22 hx (hb hby at_178) rfl rfl ?_
      obtain ⟨T24, L24, v24, X24, Q24, st24⟩ := callVirtual X22 hx (y := (⟨"com/example/traceloom/traceloom/io/Bounds$Budget", "take", "(JJ)Z"⟩ : MethodName)) (z := (⟨"com/example/traceloom/traceloom/io/Bounds$Budget", "take", "(JJ)Z"⟩ : MethodName)) (C := "com/example/traceloom/traceloom/io/Bounds$Budget") (a := b2) (Ls := #[.val (.long q0), .second, .val (.long q1), .second, .val (.long q2), .second, .val (.long q3), .second, .val (.long q4), .second, .val (.long (q0 &&& (9223372036854775807 : Int64))), .second, .val (.long (q1 &&& (9223372036854775807 : Int64))), .second, .val (.long (q2 &&& (9223372036854775807 : Int64))), .second, .val (.long (q3 &&& (9223372036854775807 : Int64))), .second, .val (.long (q4 &&& (9223372036854775807 : Int64))), .second, .val (.long (own_F1 (q0 &&& (9223372036854775807 : Int64)))), .second, .val (.ref b2), .val (.int (own_F2 (q1 &&& (9223372036854775807 : Int64)) (q2 &&& (9223372036854775807 : Int64)) (own_F1 (q0 &&& (9223372036854775807 : Int64))))), .val (.int (own_R (own_F1 (q0 &&& (9223372036854775807 : Int64))) (0 : Int64) (q1 &&& (9223372036854775807 : Int64)) (q2 &&& (9223372036854775807 : Int64)))), .val (.long ((own_F1 (q0 &&& (9223372036854775807 : Int64))) - ((q1 &&& (9223372036854775807 : Int64)) * (q2 &&& (9223372036854775807 : Int64))))), .second, .val (.int (own_F2 (q3 &&& (9223372036854775807 : Int64)) (q4 &&& (9223372036854775807 : Int64)) ((own_F1 (q0 &&& (9223372036854775807 : Int64))) - ((q1 &&& (9223372036854775807 : Int64)) * (q2 &&& (9223372036854775807 : Int64)))))), .val (.int (own_R (own_F1 (q0 &&& (9223372036854775807 : Int64))) (own_N (own_F1 (q0 &&& (9223372036854775807 : Int64))) (0 : Int64) (q1 &&& (9223372036854775807 : Int64)) (q2 &&& (9223372036854775807 : Int64))) (q3 &&& (9223372036854775807 : Int64)) (q4 &&& (9223372036854775807 : Int64)))), .val (.long ((own_F1 (q0 &&& (9223372036854775807 : Int64))) - ((q1 &&& (9223372036854775807 : Int64)) * (q2 &&& (9223372036854775807 : Int64))))), .second, .val (.int (own_R (own_F1 (q0 &&& (9223372036854775807 : Int64))) (own_N (own_F1 (q0 &&& (9223372036854775807 : Int64))) (own_N (own_F1 (q0 &&& (9223372036854775807 : Int64))) (0 : Int64) (q1 &&& (9223372036854775807 : Int64)) (q2 &&& (9223372036854775807 : Int64))) (q3 &&& (9223372036854775807 : Int64)) (q4 &&& (9223372036854775807 : Int64))) ((own_F1 (q0 &&& (9223372036854775807 : Int64))) - ((q1 &&& (9223372036854775807 : Int64)) * (q2 &&& (9223372036854775807 : Int64)))) (1 : Int64))), .unset]) (rest := []) (W := 0) (argsL := [(.long (1 : Int64)), (.long (1 : Int64))]) hZ hown (hw _ (List.mem_of_getElem? (i := 24) rfl)) (hw _ (List.mem_of_getElem? (i := 25) rfl)) (notFace_of_selects (args := #[]) (mvT hZ (hw _ (List.mem_of_getElem? (i := 27) rfl)))) (hw _ (List.mem_of_getElem? (i := 27) rfl)) (hw _ (List.mem_of_getElem? (i := 26) rfl)) (hw _ (List.mem_of_getElem? (i := 10) rfl)) (hw _ (List.mem_of_getElem? (i := 28) rfl)) (by decide) rfl E22 (rm4 l Z a0 hw [] b2 (1 : Int64) (1 : Int64) (own_F1 (q0 &&& (9223372036854775807 : Int64))) (own_N (own_F1 (q0 &&& (9223372036854775807 : Int64))) (own_N (own_F1 (q0 &&& (9223372036854775807 : Int64))) (own_N (own_F1 (q0 &&& (9223372036854775807 : Int64))) (0 : Int64) (q1 &&& (9223372036854775807 : Int64)) (q2 &&& (9223372036854775807 : Int64))) (q3 &&& (9223372036854775807 : Int64)) (q4 &&& (9223372036854775807 : Int64))) ((own_F1 (q0 &&& (9223372036854775807 : Int64))) - ((q1 &&& (9223372036854775807 : Int64)) * (q2 &&& (9223372036854775807 : Int64)))) (1 : Int64)) T22.heap n0 Z22 E22 F22_allowed F22_taken G2 ) (hb hby at_179) (lenOf own_pd3 rfl) (by decide) (by decide) (by rw [hml]; rfl) (Nat.le_of_eq rfl) (by decide) (by decide)
      obtain ⟨rfl, M24, K24, E24, F24_allowed, F24_taken⟩ := Q24
      have N24 := Fr.app N22 M24
      have fq25 := Exa.keep E22 K24
      have Z24 : n0 ≤ T24.heap.size := Nat.le_trans Z22 K24.1
      refine Run.back (g' := (mkF m 182 #[.val (.long q0), .second, .val (.long q1), .second, .val (.long q2), .second, .val (.long q3), .second, .val (.long q4), .second, .val (.long (q0 &&& (9223372036854775807 : Int64))), .second, .val (.long (q1 &&& (9223372036854775807 : Int64))), .second, .val (.long (q2 &&& (9223372036854775807 : Int64))), .second, .val (.long (q3 &&& (9223372036854775807 : Int64))), .second, .val (.long (q4 &&& (9223372036854775807 : Int64))), .second, .val (.long (own_F1 (q0 &&& (9223372036854775807 : Int64)))), .second, .val (.ref b2), .val (.int (own_F2 (q1 &&& (9223372036854775807 : Int64)) (q2 &&& (9223372036854775807 : Int64)) (own_F1 (q0 &&& (9223372036854775807 : Int64))))), .val (.int (own_R (own_F1 (q0 &&& (9223372036854775807 : Int64))) (0 : Int64) (q1 &&& (9223372036854775807 : Int64)) (q2 &&& (9223372036854775807 : Int64)))), .val (.long ((own_F1 (q0 &&& (9223372036854775807 : Int64))) - ((q1 &&& (9223372036854775807 : Int64)) * (q2 &&& (9223372036854775807 : Int64))))), .second, .val (.int (own_F2 (q3 &&& (9223372036854775807 : Int64)) (q4 &&& (9223372036854775807 : Int64)) ((own_F1 (q0 &&& (9223372036854775807 : Int64))) - ((q1 &&& (9223372036854775807 : Int64)) * (q2 &&& (9223372036854775807 : Int64)))))), .val (.int (own_R (own_F1 (q0 &&& (9223372036854775807 : Int64))) (own_N (own_F1 (q0 &&& (9223372036854775807 : Int64))) (0 : Int64) (q1 &&& (9223372036854775807 : Int64)) (q2 &&& (9223372036854775807 : Int64))) (q3 &&& (9223372036854775807 : Int64)) (q4 &&& (9223372036854775807 : Int64)))), .val (.long ((own_F1 (q0 &&& (9223372036854775807 : Int64))) - ((q1 &&& (9223372036854775807 : Int64)) * (q2 &&& (9223372036854775807 : Int64))))), .second, .val (.int (own_R (own_F1 (q0 &&& (9223372036854775807 : Int64))) (own_N (own_F1 (q0 &&& (9223372036854775807 : Int64))) (own_N (own_F1 (q0 &&& (9223372036854775807 : Int64))) (0 : Int64) (q1 &&& (9223372036854775807 : Int64)) (q2 &&& (9223372036854775807 : Int64))) (q3 &&& (9223372036854775807 : Int64)) (q4 &&& (9223372036854775807 : Int64))) ((own_F1 (q0 &&& (9223372036854775807 : Int64))) - ((q1 &&& (9223372036854775807 : Int64)) * (q2 &&& (9223372036854775807 : Int64)))) (1 : Int64))), .unset] [(.int (own_R (own_F1 (q0 &&& (9223372036854775807 : Int64))) (own_N (own_F1 (q0 &&& (9223372036854775807 : Int64))) (own_N (own_F1 (q0 &&& (9223372036854775807 : Int64))) (own_N (own_F1 (q0 &&& (9223372036854775807 : Int64))) (0 : Int64) (q1 &&& (9223372036854775807 : Int64)) (q2 &&& (9223372036854775807 : Int64))) (q3 &&& (9223372036854775807 : Int64)) (q4 &&& (9223372036854775807 : Int64))) ((own_F1 (q0 &&& (9223372036854775807 : Int64))) - ((q1 &&& (9223372036854775807 : Int64)) * (q2 &&& (9223372036854775807 : Int64)))) (1 : Int64)) (1 : Int64) (1 : Int64)))])) st24 ?_
      refine Run.istore (pc' := 184) X24 hx (l' := #[.val (.long q0), .second, .val (.long q1), .second, .val (.long q2), .second, .val (.long q3), .second, .val (.long q4), .second, .val (.long (q0 &&& (9223372036854775807 : Int64))), .second, .val (.long (q1 &&& (9223372036854775807 : Int64))), .second, .val (.long (q2 &&& (9223372036854775807 : Int64))), .second, .val (.long (q3 &&& (9223372036854775807 : Int64))), .second, .val (.long (q4 &&& (9223372036854775807 : Int64))), .second, .val (.long (own_F1 (q0 &&& (9223372036854775807 : Int64)))), .second, .val (.ref b2), .val (.int (own_F2 (q1 &&& (9223372036854775807 : Int64)) (q2 &&& (9223372036854775807 : Int64)) (own_F1 (q0 &&& (9223372036854775807 : Int64))))), .val (.int (own_R (own_F1 (q0 &&& (9223372036854775807 : Int64))) (0 : Int64) (q1 &&& (9223372036854775807 : Int64)) (q2 &&& (9223372036854775807 : Int64)))), .val (.long ((own_F1 (q0 &&& (9223372036854775807 : Int64))) - ((q1 &&& (9223372036854775807 : Int64)) * (q2 &&& (9223372036854775807 : Int64))))), .second, .val (.int (own_F2 (q3 &&& (9223372036854775807 : Int64)) (q4 &&& (9223372036854775807 : Int64)) ((own_F1 (q0 &&& (9223372036854775807 : Int64))) - ((q1 &&& (9223372036854775807 : Int64)) * (q2 &&& (9223372036854775807 : Int64)))))), .val (.int (own_R (own_F1 (q0 &&& (9223372036854775807 : Int64))) (own_N (own_F1 (q0 &&& (9223372036854775807 : Int64))) (0 : Int64) (q1 &&& (9223372036854775807 : Int64)) (q2 &&& (9223372036854775807 : Int64))) (q3 &&& (9223372036854775807 : Int64)) (q4 &&& (9223372036854775807 : Int64)))), .val (.long ((own_F1 (q0 &&& (9223372036854775807 : Int64))) - ((q1 &&& (9223372036854775807 : Int64)) * (q2 &&& (9223372036854775807 : Int64))))), .second, .val (.int (own_R (own_F1 (q0 &&& (9223372036854775807 : Int64))) (own_N (own_F1 (q0 &&& (9223372036854775807 : Int64))) (own_N (own_F1 (q0 &&& (9223372036854775807 : Int64))) (0 : Int64) (q1 &&& (9223372036854775807 : Int64)) (q2 &&& (9223372036854775807 : Int64))) (q3 &&& (9223372036854775807 : Int64)) (q4 &&& (9223372036854775807 : Int64))) ((own_F1 (q0 &&& (9223372036854775807 : Int64))) - ((q1 &&& (9223372036854775807 : Int64)) * (q2 &&& (9223372036854775807 : Int64)))) (1 : Int64))), .val (.int (own_R (own_F1 (q0 &&& (9223372036854775807 : Int64))) (own_N (own_F1 (q0 &&& (9223372036854775807 : Int64))) (own_N (own_F1 (q0 &&& (9223372036854775807 : Int64))) (own_N (own_F1 (q0 &&& (9223372036854775807 : Int64))) (0 : Int64) (q1 &&& (9223372036854775807 : Int64)) (q2 &&& (9223372036854775807 : Int64))) (q3 &&& (9223372036854775807 : Int64)) (q4 &&& (9223372036854775807 : Int64))) ((own_F1 (q0 &&& (9223372036854775807 : Int64))) - ((q1 &&& (9223372036854775807 : Int64)) * (q2 &&& (9223372036854775807 : Int64)))) (1 : Int64)) (1 : Int64) (1 : Int64)))]) (hb hby at_182) rfl rfl ?_
      refine Run.iload (pc' := 186) X24 hx (hb hby at_184) rfl rfl ?_
      refine Run.ifNo (pc' := 189) X24 hx (hb hby at_186) ((if0 _ _).trans (teq (own_over inv2)).2) rfl ?_
      refine Run.iconst (pc' := 190) (v := (1 : Int32)) X24 hx (hb hby at_189) rfl rfl ?_
      refine Run.goto (pc' := 194) X24 hx (hb hby at_190) (by decide) (by decide) ?_
      exact Run.retSmall X24 hx (t := .boolean) (z' := (1 : Int32)) Bd.notSynchronized Bd.returns (by simp) rfl (hb hby at_194) ⟨rfl, N24⟩ (by decide) (by decide)
    · skip
      refine Run.ifNo (pc' := 143) X20 hx (hb hby at_140) ((if0 _ _).trans (feq hc140).1) rfl ?_
      refine Run.lload (pc' := 145) X20 hx (hb hby at_143) rfl rfl ?_
      refine Run.lload (pc' := 147) X20 hx (hb hby at_145) rfl rfl ?_
      refine Run.lload (pc' := 149) X20 hx (hb hby at_147) rfl rfl ?_
      refine Run.lmul (pc' := 150) X20 hx (hb hby at_149) rfl ?_
      refine Run.lsub (pc' := 151) X20 hx (hb hby at_150) rfl ?_
      refine Run.goto (pc' := 156) X20 hx (hb hby at_151) (by decide) (by decide) ?_
      refine Run.lstore (pc' := 158) X20 hx (l' := #[.val (.long q0), .second, .val (.long q1), .second, .val (.long q2), .second, .val (.long q3), .second, .val (.long q4), .second, .val (.long (q0 &&& (9223372036854775807 : Int64))), .second, .val (.long (q1 &&& (9223372036854775807 : Int64))), .second, .val (.long (q2 &&& (9223372036854775807 : Int64))), .second, .val (.long (q3 &&& (9223372036854775807 : Int64))), .second, .val (.long (q4 &&& (9223372036854775807 : Int64))), .second, .val (.long (own_F1 (q0 &&& (9223372036854775807 : Int64)))), .second, .val (.ref b2), .val (.int (own_F2 (q1 &&& (9223372036854775807 : Int64)) (q2 &&& (9223372036854775807 : Int64)) (own_F1 (q0 &&& (9223372036854775807 : Int64))))), .val (.int (own_R (own_F1 (q0 &&& (9223372036854775807 : Int64))) (0 : Int64) (q1 &&& (9223372036854775807 : Int64)) (q2 &&& (9223372036854775807 : Int64)))), .val (.long ((own_F1 (q0 &&& (9223372036854775807 : Int64))) - ((q1 &&& (9223372036854775807 : Int64)) * (q2 &&& (9223372036854775807 : Int64))))), .second, .val (.int (own_F2 (q3 &&& (9223372036854775807 : Int64)) (q4 &&& (9223372036854775807 : Int64)) ((own_F1 (q0 &&& (9223372036854775807 : Int64))) - ((q1 &&& (9223372036854775807 : Int64)) * (q2 &&& (9223372036854775807 : Int64)))))), .val (.int (own_R (own_F1 (q0 &&& (9223372036854775807 : Int64))) (own_N (own_F1 (q0 &&& (9223372036854775807 : Int64))) (0 : Int64) (q1 &&& (9223372036854775807 : Int64)) (q2 &&& (9223372036854775807 : Int64))) (q3 &&& (9223372036854775807 : Int64)) (q4 &&& (9223372036854775807 : Int64)))), .val (.long (((own_F1 (q0 &&& (9223372036854775807 : Int64))) - ((q1 &&& (9223372036854775807 : Int64)) * (q2 &&& (9223372036854775807 : Int64)))) - ((q3 &&& (9223372036854775807 : Int64)) * (q4 &&& (9223372036854775807 : Int64))))), .second, .unset, .unset]) (hb hby at_156) rfl rfl ?_
      have inv2 := own_yes inv1 (own_pos q3) (own_pos q4) hc140
      refine Run.aload (pc' := 160) X20 hx (hb hby at_158) rfl rfl ?_
      refine Run.lload (pc' := 162) X20 hx (hb hby at_160) rfl rfl ?_
      refine Run.lconst (pc' := 163) (v := (1 : Int64)) X20 hx (hb hby at_162) rfl rfl ?_
      obtain ⟨T26, L26, v26, X26, Q26, st26⟩ := callVirtual X20 hx (y := (⟨"com/example/traceloom/traceloom/io/Bounds$Budget", "take", "(JJ)Z"⟩ : MethodName)) (z := (⟨"com/example/traceloom/traceloom/io/Bounds$Budget", "take", "(JJ)Z"⟩ : MethodName)) (C := "com/example/traceloom/traceloom/io/Bounds$Budget") (a := b2) (Ls := #[.val (.long q0), .second, .val (.long q1), .second, .val (.long q2), .second, .val (.long q3), .second, .val (.long q4), .second, .val (.long (q0 &&& (9223372036854775807 : Int64))), .second, .val (.long (q1 &&& (9223372036854775807 : Int64))), .second, .val (.long (q2 &&& (9223372036854775807 : Int64))), .second, .val (.long (q3 &&& (9223372036854775807 : Int64))), .second, .val (.long (q4 &&& (9223372036854775807 : Int64))), .second, .val (.long (own_F1 (q0 &&& (9223372036854775807 : Int64)))), .second, .val (.ref b2), .val (.int (own_F2 (q1 &&& (9223372036854775807 : Int64)) (q2 &&& (9223372036854775807 : Int64)) (own_F1 (q0 &&& (9223372036854775807 : Int64))))), .val (.int (own_R (own_F1 (q0 &&& (9223372036854775807 : Int64))) (0 : Int64) (q1 &&& (9223372036854775807 : Int64)) (q2 &&& (9223372036854775807 : Int64)))), .val (.long ((own_F1 (q0 &&& (9223372036854775807 : Int64))) - ((q1 &&& (9223372036854775807 : Int64)) * (q2 &&& (9223372036854775807 : Int64))))), .second, .val (.int (own_F2 (q3 &&& (9223372036854775807 : Int64)) (q4 &&& (9223372036854775807 : Int64)) ((own_F1 (q0 &&& (9223372036854775807 : Int64))) - ((q1 &&& (9223372036854775807 : Int64)) * (q2 &&& (9223372036854775807 : Int64)))))), .val (.int (own_R (own_F1 (q0 &&& (9223372036854775807 : Int64))) (own_N (own_F1 (q0 &&& (9223372036854775807 : Int64))) (0 : Int64) (q1 &&& (9223372036854775807 : Int64)) (q2 &&& (9223372036854775807 : Int64))) (q3 &&& (9223372036854775807 : Int64)) (q4 &&& (9223372036854775807 : Int64)))), .val (.long (((own_F1 (q0 &&& (9223372036854775807 : Int64))) - ((q1 &&& (9223372036854775807 : Int64)) * (q2 &&& (9223372036854775807 : Int64)))) - ((q3 &&& (9223372036854775807 : Int64)) * (q4 &&& (9223372036854775807 : Int64))))), .second, .unset, .unset]) (rest := []) (W := 0) (argsL := [(.long (((own_F1 (q0 &&& (9223372036854775807 : Int64))) - ((q1 &&& (9223372036854775807 : Int64)) * (q2 &&& (9223372036854775807 : Int64)))) - ((q3 &&& (9223372036854775807 : Int64)) * (q4 &&& (9223372036854775807 : Int64))))), (.long (1 : Int64))]) hZ hown (hw _ (List.mem_of_getElem? (i := 24) rfl)) (hw _ (List.mem_of_getElem? (i := 25) rfl)) (notFace_of_selects (args := #[]) (mvT hZ (hw _ (List.mem_of_getElem? (i := 27) rfl)))) (hw _ (List.mem_of_getElem? (i := 27) rfl)) (hw _ (List.mem_of_getElem? (i := 26) rfl)) (hw _ (List.mem_of_getElem? (i := 10) rfl)) (hw _ (List.mem_of_getElem? (i := 28) rfl)) (by decide) rfl E20 (rm4 l Z a0 hw [] b2 (((own_F1 (q0 &&& (9223372036854775807 : Int64))) - ((q1 &&& (9223372036854775807 : Int64)) * (q2 &&& (9223372036854775807 : Int64)))) - ((q3 &&& (9223372036854775807 : Int64)) * (q4 &&& (9223372036854775807 : Int64)))) (1 : Int64) (own_F1 (q0 &&& (9223372036854775807 : Int64))) (own_N (own_F1 (q0 &&& (9223372036854775807 : Int64))) (own_N (own_F1 (q0 &&& (9223372036854775807 : Int64))) (0 : Int64) (q1 &&& (9223372036854775807 : Int64)) (q2 &&& (9223372036854775807 : Int64))) (q3 &&& (9223372036854775807 : Int64)) (q4 &&& (9223372036854775807 : Int64))) T20.heap n0 Z20 E20 F20_allowed F20_taken G2 ) (hb hby at_163) (lenOf own_pd3 rfl) (by decide) (by decide) (by rw [hml]; rfl) (Nat.le_of_eq rfl) (by decide) (by decide)
      obtain ⟨rfl, M26, K26, E26, F26_allowed, F26_taken⟩ := Q26
      have N26 := Fr.app N20 M26
      have fq27 := Exa.keep E20 K26
      have Z26 : n0 ≤ T26.heap.size := Nat.le_trans Z20 K26.1
      refine Run.back (g' := (mkF m 166 #[.val (.long q0), .second, .val (.long q1), .second, .val (.long q2), .second, .val (.long q3), .second, .val (.long q4), .second, .val (.long (q0 &&& (9223372036854775807 : Int64))), .second, .val (.long (q1 &&& (9223372036854775807 : Int64))), .second, .val (.long (q2 &&& (9223372036854775807 : Int64))), .second, .val (.long (q3 &&& (9223372036854775807 : Int64))), .second, .val (.long (q4 &&& (9223372036854775807 : Int64))), .second, .val (.long (own_F1 (q0 &&& (9223372036854775807 : Int64)))), .second, .val (.ref b2), .val (.int (own_F2 (q1 &&& (9223372036854775807 : Int64)) (q2 &&& (9223372036854775807 : Int64)) (own_F1 (q0 &&& (9223372036854775807 : Int64))))), .val (.int (own_R (own_F1 (q0 &&& (9223372036854775807 : Int64))) (0 : Int64) (q1 &&& (9223372036854775807 : Int64)) (q2 &&& (9223372036854775807 : Int64)))), .val (.long ((own_F1 (q0 &&& (9223372036854775807 : Int64))) - ((q1 &&& (9223372036854775807 : Int64)) * (q2 &&& (9223372036854775807 : Int64))))), .second, .val (.int (own_F2 (q3 &&& (9223372036854775807 : Int64)) (q4 &&& (9223372036854775807 : Int64)) ((own_F1 (q0 &&& (9223372036854775807 : Int64))) - ((q1 &&& (9223372036854775807 : Int64)) * (q2 &&& (9223372036854775807 : Int64)))))), .val (.int (own_R (own_F1 (q0 &&& (9223372036854775807 : Int64))) (own_N (own_F1 (q0 &&& (9223372036854775807 : Int64))) (0 : Int64) (q1 &&& (9223372036854775807 : Int64)) (q2 &&& (9223372036854775807 : Int64))) (q3 &&& (9223372036854775807 : Int64)) (q4 &&& (9223372036854775807 : Int64)))), .val (.long (((own_F1 (q0 &&& (9223372036854775807 : Int64))) - ((q1 &&& (9223372036854775807 : Int64)) * (q2 &&& (9223372036854775807 : Int64)))) - ((q3 &&& (9223372036854775807 : Int64)) * (q4 &&& (9223372036854775807 : Int64))))), .second, .unset, .unset] [(.int (own_R (own_F1 (q0 &&& (9223372036854775807 : Int64))) (own_N (own_F1 (q0 &&& (9223372036854775807 : Int64))) (own_N (own_F1 (q0 &&& (9223372036854775807 : Int64))) (0 : Int64) (q1 &&& (9223372036854775807 : Int64)) (q2 &&& (9223372036854775807 : Int64))) (q3 &&& (9223372036854775807 : Int64)) (q4 &&& (9223372036854775807 : Int64))) (((own_F1 (q0 &&& (9223372036854775807 : Int64))) - ((q1 &&& (9223372036854775807 : Int64)) * (q2 &&& (9223372036854775807 : Int64)))) - ((q3 &&& (9223372036854775807 : Int64)) * (q4 &&& (9223372036854775807 : Int64)))) (1 : Int64)))])) st26 ?_
      refine Run.istore (pc' := 168) X26 hx (l' := #[.val (.long q0), .second, .val (.long q1), .second, .val (.long q2), .second, .val (.long q3), .second, .val (.long q4), .second, .val (.long (q0 &&& (9223372036854775807 : Int64))), .second, .val (.long (q1 &&& (9223372036854775807 : Int64))), .second, .val (.long (q2 &&& (9223372036854775807 : Int64))), .second, .val (.long (q3 &&& (9223372036854775807 : Int64))), .second, .val (.long (q4 &&& (9223372036854775807 : Int64))), .second, .val (.long (own_F1 (q0 &&& (9223372036854775807 : Int64)))), .second, .val (.ref b2), .val (.int (own_F2 (q1 &&& (9223372036854775807 : Int64)) (q2 &&& (9223372036854775807 : Int64)) (own_F1 (q0 &&& (9223372036854775807 : Int64))))), .val (.int (own_R (own_F1 (q0 &&& (9223372036854775807 : Int64))) (0 : Int64) (q1 &&& (9223372036854775807 : Int64)) (q2 &&& (9223372036854775807 : Int64)))), .val (.long ((own_F1 (q0 &&& (9223372036854775807 : Int64))) - ((q1 &&& (9223372036854775807 : Int64)) * (q2 &&& (9223372036854775807 : Int64))))), .second, .val (.int (own_F2 (q3 &&& (9223372036854775807 : Int64)) (q4 &&& (9223372036854775807 : Int64)) ((own_F1 (q0 &&& (9223372036854775807 : Int64))) - ((q1 &&& (9223372036854775807 : Int64)) * (q2 &&& (9223372036854775807 : Int64)))))), .val (.int (own_R (own_F1 (q0 &&& (9223372036854775807 : Int64))) (own_N (own_F1 (q0 &&& (9223372036854775807 : Int64))) (0 : Int64) (q1 &&& (9223372036854775807 : Int64)) (q2 &&& (9223372036854775807 : Int64))) (q3 &&& (9223372036854775807 : Int64)) (q4 &&& (9223372036854775807 : Int64)))), .val (.long (((own_F1 (q0 &&& (9223372036854775807 : Int64))) - ((q1 &&& (9223372036854775807 : Int64)) * (q2 &&& (9223372036854775807 : Int64)))) - ((q3 &&& (9223372036854775807 : Int64)) * (q4 &&& (9223372036854775807 : Int64))))), .second, .val (.int (own_R (own_F1 (q0 &&& (9223372036854775807 : Int64))) (own_N (own_F1 (q0 &&& (9223372036854775807 : Int64))) (own_N (own_F1 (q0 &&& (9223372036854775807 : Int64))) (0 : Int64) (q1 &&& (9223372036854775807 : Int64)) (q2 &&& (9223372036854775807 : Int64))) (q3 &&& (9223372036854775807 : Int64)) (q4 &&& (9223372036854775807 : Int64))) (((own_F1 (q0 &&& (9223372036854775807 : Int64))) - ((q1 &&& (9223372036854775807 : Int64)) * (q2 &&& (9223372036854775807 : Int64)))) - ((q3 &&& (9223372036854775807 : Int64)) * (q4 &&& (9223372036854775807 : Int64)))) (1 : Int64))), .unset]) (hb hby at_166) rfl rfl ?_
      refine Run.iload (pc' := 170) X26 hx (hb hby at_168) rfl rfl ?_
      refine Run.ifYes (pc' := 175) X26 hx (hb hby at_170) ((if0 _ _).trans (feq (own_last inv2)).2) (by decide) (by decide) ?_
      refine Run.aload (pc' := 177) X26 hx (hb hby at_175) rfl rfl ?_
      refine Run.lconst (pc' := 178) (v := (1 : Int64)) X26 hx (hb hby at_177) rfl rfl ?_
      refine Run.lconst (pc' := 179) (v := (1 : Int64)) X26 hx (hb hby at_178) rfl rfl ?_
      obtain ⟨T28, L28, v28, X28, Q28, st28⟩ := callVirtual X26 hx (y := (⟨"com/example/traceloom/traceloom/io/Bounds$Budget", "take", "(JJ)Z"⟩ : MethodName)) (z := (⟨"com/example/traceloom/traceloom/io/Bounds$Budget", "take", "(JJ)Z"⟩ : MethodName)) (C := "com/example/traceloom/traceloom/io/Bounds$Budget") (a := b2) (Ls := #[.val (.long q0), .second, .val (.long q1), .second, .val (.long q2), .second, .val (.long q3), .second, .val (.long q4), .second, .val (.long (q0 &&& (9223372036854775807 : Int64))), .second, .val (.long (q1 &&& (9223372036854775807 : Int64))), .second, .val (.long (q2 &&& (9223372036854775807 : Int64))), .second, .val (.long (q3 &&& (9223372036854775807 : Int64))), .second, .val (.long (q4 &&& (9223372036854775807 : Int64))), .second, .val (.long (own_F1 (q0 &&& (9223372036854775807 : Int64)))), .second, .val (.ref b2), .val (.int (own_F2 (q1 &&& (9223372036854775807 : Int64)) (q2 &&& (9223372036854775807 : Int64)) (own_F1 (q0 &&& (9223372036854775807 : Int64))))), .val (.int (own_R (own_F1 (q0 &&& (9223372036854775807 : Int64))) (0 : Int64) (q1 &&& (9223372036854775807 : Int64)) (q2 &&& (9223372036854775807 : Int64)))), .val (.long ((own_F1 (q0 &&& (9223372036854775807 : Int64))) - ((q1 &&& (9223372036854775807 : Int64)) * (q2 &&& (9223372036854775807 : Int64))))), .second, .val (.int (own_F2 (q3 &&& (9223372036854775807 : Int64)) (q4 &&& (9223372036854775807 : Int64)) ((own_F1 (q0 &&& (9223372036854775807 : Int64))) - ((q1 &&& (9223372036854775807 : Int64)) * (q2 &&& (9223372036854775807 : Int64)))))), .val (.int (own_R (own_F1 (q0 &&& (9223372036854775807 : Int64))) (own_N (own_F1 (q0 &&& (9223372036854775807 : Int64))) (0 : Int64) (q1 &&& (9223372036854775807 : Int64)) (q2 &&& (9223372036854775807 : Int64))) (q3 &&& (9223372036854775807 : Int64)) (q4 &&& (9223372036854775807 : Int64)))), .val (.long (((own_F1 (q0 &&& (9223372036854775807 : Int64))) - ((q1 &&& (9223372036854775807 : Int64)) * (q2 &&& (9223372036854775807 : Int64)))) - ((q3 &&& (9223372036854775807 : Int64)) * (q4 &&& (9223372036854775807 : Int64))))), .second, .val (.int (own_R (own_F1 (q0 &&& (9223372036854775807 : Int64))) (own_N (own_F1 (q0 &&& (9223372036854775807 : Int64))) (own_N (own_F1 (q0 &&& (9223372036854775807 : Int64))) (0 : Int64) (q1 &&& (9223372036854775807 : Int64)) (q2 &&& (9223372036854775807 : Int64))) (q3 &&& (9223372036854775807 : Int64)) (q4 &&& (9223372036854775807 : Int64))) (((own_F1 (q0 &&& (9223372036854775807 : Int64))) - ((q1 &&& (9223372036854775807 : Int64)) * (q2 &&& (9223372036854775807 : Int64)))) - ((q3 &&& (9223372036854775807 : Int64)) * (q4 &&& (9223372036854775807 : Int64)))) (1 : Int64))), .unset]) (rest := []) (W := 0) (argsL := [(.long (1 : Int64)), (.long (1 : Int64))]) hZ hown (hw _ (List.mem_of_getElem? (i := 24) rfl)) (hw _ (List.mem_of_getElem? (i := 25) rfl)) (notFace_of_selects (args := #[]) (mvT hZ (hw _ (List.mem_of_getElem? (i := 27) rfl)))) (hw _ (List.mem_of_getElem? (i := 27) rfl)) (hw _ (List.mem_of_getElem? (i := 26) rfl)) (hw _ (List.mem_of_getElem? (i := 10) rfl)) (hw _ (List.mem_of_getElem? (i := 28) rfl)) (by decide) rfl E26 (rm4 l Z a0 hw [] b2 (1 : Int64) (1 : Int64) (own_F1 (q0 &&& (9223372036854775807 : Int64))) (own_N (own_F1 (q0 &&& (9223372036854775807 : Int64))) (own_N (own_F1 (q0 &&& (9223372036854775807 : Int64))) (own_N (own_F1 (q0 &&& (9223372036854775807 : Int64))) (0 : Int64) (q1 &&& (9223372036854775807 : Int64)) (q2 &&& (9223372036854775807 : Int64))) (q3 &&& (9223372036854775807 : Int64)) (q4 &&& (9223372036854775807 : Int64))) (((own_F1 (q0 &&& (9223372036854775807 : Int64))) - ((q1 &&& (9223372036854775807 : Int64)) * (q2 &&& (9223372036854775807 : Int64)))) - ((q3 &&& (9223372036854775807 : Int64)) * (q4 &&& (9223372036854775807 : Int64)))) (1 : Int64)) T26.heap n0 Z26 E26 F26_allowed F26_taken G2 ) (hb hby at_179) (lenOf own_pd3 rfl) (by decide) (by decide) (by rw [hml]; rfl) (Nat.le_of_eq rfl) (by decide) (by decide)
      obtain ⟨rfl, M28, K28, E28, F28_allowed, F28_taken⟩ := Q28
      have N28 := Fr.app N26 M28
      have fq29 := Exa.keep E26 K28
      have Z28 : n0 ≤ T28.heap.size := Nat.le_trans Z26 K28.1
      refine Run.back (g' := (mkF m 182 #[.val (.long q0), .second, .val (.long q1), .second, .val (.long q2), .second, .val (.long q3), .second, .val (.long q4), .second, .val (.long (q0 &&& (9223372036854775807 : Int64))), .second, .val (.long (q1 &&& (9223372036854775807 : Int64))), .second, .val (.long (q2 &&& (9223372036854775807 : Int64))), .second, .val (.long (q3 &&& (9223372036854775807 : Int64))), .second, .val (.long (q4 &&& (9223372036854775807 : Int64))), .second, .val (.long (own_F1 (q0 &&& (9223372036854775807 : Int64)))), .second, .val (.ref b2), .val (.int (own_F2 (q1 &&& (9223372036854775807 : Int64)) (q2 &&& (9223372036854775807 : Int64)) (own_F1 (q0 &&& (9223372036854775807 : Int64))))), .val (.int (own_R (own_F1 (q0 &&& (9223372036854775807 : Int64))) (0 : Int64) (q1 &&& (9223372036854775807 : Int64)) (q2 &&& (9223372036854775807 : Int64)))), .val (.long ((own_F1 (q0 &&& (9223372036854775807 : Int64))) - ((q1 &&& (9223372036854775807 : Int64)) * (q2 &&& (9223372036854775807 : Int64))))), .second, .val (.int (own_F2 (q3 &&& (9223372036854775807 : Int64)) (q4 &&& (9223372036854775807 : Int64)) ((own_F1 (q0 &&& (9223372036854775807 : Int64))) - ((q1 &&& (9223372036854775807 : Int64)) * (q2 &&& (9223372036854775807 : Int64)))))), .val (.int (own_R (own_F1 (q0 &&& (9223372036854775807 : Int64))) (own_N (own_F1 (q0 &&& (9223372036854775807 : Int64))) (0 : Int64) (q1 &&& (9223372036854775807 : Int64)) (q2 &&& (9223372036854775807 : Int64))) (q3 &&& (9223372036854775807 : Int64)) (q4 &&& (9223372036854775807 : Int64)))), .val (.long (((own_F1 (q0 &&& (9223372036854775807 : Int64))) - ((q1 &&& (9223372036854775807 : Int64)) * (q2 &&& (9223372036854775807 : Int64)))) - ((q3 &&& (9223372036854775807 : Int64)) * (q4 &&& (9223372036854775807 : Int64))))), .second, .val (.int (own_R (own_F1 (q0 &&& (9223372036854775807 : Int64))) (own_N (own_F1 (q0 &&& (9223372036854775807 : Int64))) (own_N (own_F1 (q0 &&& (9223372036854775807 : Int64))) (0 : Int64) (q1 &&& (9223372036854775807 : Int64)) (q2 &&& (9223372036854775807 : Int64))) (q3 &&& (9223372036854775807 : Int64)) (q4 &&& (9223372036854775807 : Int64))) (((own_F1 (q0 &&& (9223372036854775807 : Int64))) - ((q1 &&& (9223372036854775807 : Int64)) * (q2 &&& (9223372036854775807 : Int64)))) - ((q3 &&& (9223372036854775807 : Int64)) * (q4 &&& (9223372036854775807 : Int64)))) (1 : Int64))), .unset] [(.int (own_R (own_F1 (q0 &&& (9223372036854775807 : Int64))) (own_N (own_F1 (q0 &&& (9223372036854775807 : Int64))) (own_N (own_F1 (q0 &&& (9223372036854775807 : Int64))) (own_N (own_F1 (q0 &&& (9223372036854775807 : Int64))) (0 : Int64) (q1 &&& (9223372036854775807 : Int64)) (q2 &&& (9223372036854775807 : Int64))) (q3 &&& (9223372036854775807 : Int64)) (q4 &&& (9223372036854775807 : Int64))) (((own_F1 (q0 &&& (9223372036854775807 : Int64))) - ((q1 &&& (9223372036854775807 : Int64)) * (q2 &&& (9223372036854775807 : Int64)))) - ((q3 &&& (9223372036854775807 : Int64)) * (q4 &&& (9223372036854775807 : Int64)))) (1 : Int64)) (1 : Int64) (1 : Int64)))])) st28 ?_
      refine Run.istore (pc' := 184) X28 hx (l' := #[.val (.long q0), .second, .val (.long q1), .second, .val (.long q2), .second, .val (.long q3), .second, .val (.long q4), .second, .val (.long (q0 &&& (9223372036854775807 : Int64))), .second, .val (.long (q1 &&& (9223372036854775807 : Int64))), .second, .val (.long (q2 &&& (9223372036854775807 : Int64))), .second, .val (.long (q3 &&& (9223372036854775807 : Int64))), .second, .val (.long (q4 &&& (9223372036854775807 : Int64))), .second, .val (.long (own_F1 (q0 &&& (9223372036854775807 : Int64)))), .second, .val (.ref b2), .val (.int (own_F2 (q1 &&& (9223372036854775807 : Int64)) (q2 &&& (9223372036854775807 : Int64)) (own_F1 (q0 &&& (9223372036854775807 : Int64))))), .val (.int (own_R (own_F1 (q0 &&& (9223372036854775807 : Int64))) (0 : Int64) (q1 &&& (9223372036854775807 : Int64)) (q2 &&& (9223372036854775807 : Int64)))), .val (.long ((own_F1 (q0 &&& (9223372036854775807 : Int64))) - ((q1 &&& (9223372036854775807 : Int64)) * (q2 &&& (9223372036854775807 : Int64))))), .second, .val (.int (own_F2 (q3 &&& (9223372036854775807 : Int64)) (q4 &&& (9223372036854775807 : Int64)) ((own_F1 (q0 &&& (9223372036854775807 : Int64))) - ((q1 &&& (9223372036854775807 : Int64)) * (q2 &&& (9223372036854775807 : Int64)))))), .val (.int (own_R (own_F1 (q0 &&& (9223372036854775807 : Int64))) (own_N (own_F1 (q0 &&& (9223372036854775807 : Int64))) (0 : Int64) (q1 &&& (9223372036854775807 : Int64)) (q2 &&& (9223372036854775807 : Int64))) (q3 &&& (9223372036854775807 : Int64)) (q4 &&& (9223372036854775807 : Int64)))), .val (.long (((own_F1 (q0 &&& (9223372036854775807 : Int64))) - ((q1 &&& (9223372036854775807 : Int64)) * (q2 &&& (9223372036854775807 : Int64)))) - ((q3 &&& (9223372036854775807 : Int64)) * (q4 &&& (9223372036854775807 : Int64))))), .second, .val (.int (own_R (own_F1 (q0 &&& (9223372036854775807 : Int64))) (own_N (own_F1 (q0 &&& (9223372036854775807 : Int64))) (own_N (own_F1 (q0 &&& (9223372036854775807 : Int64))) (0 : Int64) (q1 &&& (9223372036854775807 : Int64)) (q2 &&& (9223372036854775807 : Int64))) (q3 &&& (9223372036854775807 : Int64)) (q4 &&& (9223372036854775807 : Int64))) (((own_F1 (q0 &&& (9223372036854775807 : Int64))) - ((q1 &&& (9223372036854775807 : Int64)) * (q2 &&& (9223372036854775807 : Int64)))) - ((q3 &&& (9223372036854775807 : Int64)) * (q4 &&& (9223372036854775807 : Int64)))) (1 : Int64))), .val (.int (own_R (own_F1 (q0 &&& (9223372036854775807 : Int64))) (own_N (own_F1 (q0 &&& (9223372036854775807 : Int64))) (own_N (own_F1 (q0 &&& (9223372036854775807 : Int64))) (own_N (own_F1 (q0 &&& (9223372036854775807 : Int64))) (0 : Int64) (q1 &&& (9223372036854775807 : Int64)) (q2 &&& (9223372036854775807 : Int64))) (q3 &&& (9223372036854775807 : Int64)) (q4 &&& (9223372036854775807 : Int64))) (((own_F1 (q0 &&& (9223372036854775807 : Int64))) - ((q1 &&& (9223372036854775807 : Int64)) * (q2 &&& (9223372036854775807 : Int64)))) - ((q3 &&& (9223372036854775807 : Int64)) * (q4 &&& (9223372036854775807 : Int64)))) (1 : Int64)) (1 : Int64) (1 : Int64)))]) (hb hby at_182) rfl rfl ?_
      refine Run.iload (pc' := 186) X28 hx (hb hby at_184) rfl rfl ?_
      refine Run.ifNo (pc' := 189) X28 hx (hb hby at_186) ((if0 _ _).trans (teq (own_over inv2)).2) rfl ?_
      refine Run.iconst (pc' := 190) (v := (1 : Int32)) X28 hx (hb hby at_189) rfl rfl ?_
      refine Run.goto (pc' := 194) X28 hx (hb hby at_190) (by decide) (by decide) ?_
      exact Run.retSmall X28 hx (t := .boolean) (z' := (1 : Int32)) Bd.notSynchronized Bd.returns (by simp) rfl (hb hby at_194) ⟨rfl, N28⟩ (by decide) (by decide)
set_option maxRecDepth 65536 in
set_option maxHeartbeats 40000000 in
theorem comes_1 {Post : Tables → Env → Array Value → State → Outcome → State → Prop} (hpost : ∀ tb e args s v u, (limb_1_1.after args s (.returned v) u = true ∧ limb_1_2.after args s (.returned v) u = true ∧ True) → FrameEnd s (.returned v) u (Jvm.fieldLocs frame_1_writes args s ++ Jvm.arrayLocs frame_1_arrays args s ++ Jvm.staticLocs frame_1_statics s) 16 128 → Post tb e args s (.returned v) u) :
    ArmFor flags0 classFile x code maxLocals ret World_1 tables_1 room_1 Calls_1 rest_1 Pre_1 Post := by
  intro l hfl _ _ p e ha hc hk s m args below hf hA hF happ hP
  obtain ⟨hcalls, hrest, hpre⟩ := hP
  obtain ⟨-, -, -, hnamed, -, -, -, hat⟩ := (Spec.applies_iff hf).mp happ
  obtain ⟨hg, hn⟩ := and_e (Cond.before_iff.mp (show (Jvm.Cond.and given_1 narrow_1).before args s = true from hpre))
  obtain ⟨hcount, hg0⟩ := and_e hg
  obtain ⟨ha0, hg1⟩ := and_e hg0
  obtain ⟨ha1, hg2⟩ := and_e hg1
  obtain ⟨ha2, hg3⟩ := and_e hg2
  obtain ⟨ha3, hg4⟩ := and_e hg3
  obtain ⟨w0, w1, w2, w3, w4, rfl⟩ : ∃ w0 w1 w2 w3 w4 : Value, args = #[w0, w1, w2, w3, w4] := by
    have hs : args.size = 5 := by simpa [Cond.value, given_1] using hcount
    obtain ⟨L⟩ := args
    match L, hs with
    | [w0, w1, w2, w3, w4], _ => exact ⟨w0, w1, w2, w3, w4, rfl⟩
  have hw := fun d (hd : d ∈ tables_1) => atoms_spec (ws := Jvm.Cond.code x code maxLocals ret :: tables_1) hat d (List.mem_cons_of_mem _ hd)
  have hfit : Fit s := fun {y c} hc i hi => by
    obtain ⟨ha, rfl⟩ := Array.getElem?_eq_some_iff.mp hc
    have q := List.all_eq_true.mp ((Array.all_eq_true_iff_forall_mem.mp hF) _ (Array.getElem_mem ha)) i (List.mem_range.mpr hi)
    simpa [Array.getElem?_eq_getElem hi] using q
  obtain ⟨i0, ei0⟩ := isL_v ha0
  obtain rfl : w0 = (.long i0) := Option.some.inj ei0
  obtain ⟨i1, ei1⟩ := isL_v ha1
  obtain rfl : w1 = (.long i1) := Option.some.inj ei1
  obtain ⟨i2, ei2⟩ := isL_v ha2
  obtain rfl : w2 = (.long i2) := Option.some.inj ei2
  obtain ⟨i3, ei3⟩ := isL_v ha3
  obtain rfl : w3 = (.long i3) := Option.some.inj ei3
  obtain ⟨i4, ei4⟩ := isL_v hg4
  obtain rfl : w4 = (.long i4) := Option.some.inj ei4
  obtain ⟨n, o, h1, h2, h3, _, L, rfl, ⟨rfl, N⟩, hq⟩ := rm0 l s _ hw tables_1 i0 i1 i2 i3 i4 s.heap s.heap.size (Nat.le_refl _) p e ha hc hk s m _ below hf ((Spec.applies_iff_loose hf).mp happ).1 ⟨rfl, State.Warmed39.refl s, rfl⟩ trivial
  refine ⟨n, _, h1, h2, h3, hpost _ _ _ _ _ _ ⟨Cond.after_iff.mpr rfl, Cond.after_iff.mpr (eq_i res_at (Term.int_eval (1)) rfl), trivial⟩ ⟨hq.1, hq.2.1, (hq.2.2.sift fun y hy => Or.inr (N y hy)).mono (by decide) (by decide)⟩⟩
theorem main_1_1 : Claimed_1_1 := comes_1 fun _ _ _ _ _ _ h hF => ⟨h.1, hF⟩
theorem main_1_2 : Claimed_1_2 := comes_1 fun _ _ _ _ _ _ h hF => ⟨h.2.1, hF⟩
end Jvm.Pilot.@@N@@
namespace Jvm.Pilot.@@N@@
open Jvm Jvm.ClassFile Sem Op Lib Jvm.Free Jvm.Stand Jvm.Pilot.@@N@@.Jvm.D
/-! MADE BY PROGRAM (witnessworld.py) out of the Statement's table words and the real class files: 10 classes; the members and pool entries that the words name. The judged class is class 1, her method 2. -/
namespace start1
open Jvm.ClassFile
def u (s : String) : CpInfo := .utf8 (stringToUtf16 s)
/-- a pool by its gaps: so many unusable entries, then the entry; so many at the end -/
def gap : Nat → List CpInfo → List CpInfo
  | 0, r => r
  | n + 1, r => .unusable :: gap n r
def poolList (es : List (Nat × CpInfo)) (last : Nat) : List CpInfo := es.foldr (fun e r => gap e.1 (e.2 :: r)) (gap last [])
def pool (es : List (Nat × CpInfo)) (last : Nat) : Array CpInfo := ⟨poolList es last⟩
def fileOf (pool : Array CpInfo) (this : Nat) (attrs : Array Attribute := #[]) (ms : Array MethodInfo := #[]) (fl : Nat := 33) (sup : Nat := 0) (ifs : Array Nat := #[]) (fds : Array FieldInfo := #[]) : ClassFile where
  minorVersion := 0
  majorVersion := 65
  constantPool := pool
  accessFlags := fl
  thisClass := this
  superClass := sup
  interfaces := ifs
  fields := fds
  methods := ms
  attributes := attrs
def plain (name : String) (sup : Option ClassId) : Class where
  name := name
  kind := .ordinary
  loader := none
  accessFlags := 33
  super := sup
  interfaces := #[]
  cf := none
  fields := #[]
  methods := #[]
  instanceTypes := #[]
  staticTypes := #[]
  resolved := #[]
  callSites := []
  init := .initialized
  statics := none
  mirror := none

def pool0 : Array CpInfo := pool [(5, u "<init>"), (0, u "()V"), (1, .class_ 10), (1, u "java/lang/Object")] 113

def k0c0 : Code := { maxStack := 0, maxLocals := 1, code := object_method_1_code, exceptionTable := #[], attributes := #[] }
def k0m0 : Method := { name := "<init>", desc := "()V", sig := { parameters := [], returnType := none }, accessFlags := 1, code := some k0c0 }
/-- java/lang/Object -/
def k0 : Class := { plain "java/lang/Object" none with
  accessFlags := 33
  interfaces := #[]
  cf := some (fileOf pool0 8 #[] #[{ accessFlags := 1, nameIndex := 5, descriptorIndex := 6, attributes := #[] }] 33 0 #[] #[])
  fields := #[]
  methods := #[k0m0]
  instanceTypes := #[]
  staticTypes := #[]
  resolved := Array.replicate 124 none
  statics := none }

def pool1 : Array CpInfo := pool [(2, .class_ 4), (1, u "java/lang/Object"), (0, u "<init>"), (0, u "()V"), (2, .long 9223372036854775807), (1, .methodref 12 13), (0, .class_ 14), (0, .nameAndType 15 16), (0, u "com/example/traceloom/traceloom/io/Bounds"), (0, u "allowed"), (0, u "(J)J"), (0, .class_ 18), (0, u "com/example/traceloom/traceloom/io/Bounds$Budget"), (0, .methodref 17 20), (0, .nameAndType 5 21), (0, u "(J)V"), (0, .methodref 23 24), (0, .class_ 25), (0, .nameAndType 26 27), (0, u "com/example/traceloom/traceloom/io/BoundsTakePinLaw"), (0, u "fits"), (0, u "(JJJ)Z"), (0, .methodref 17 29), (0, .nameAndType 30 31), (0, u "take"), (0, u "(JJ)Z"), (3, u "law"), (0, u "(JJJJJ)Z")] 4

def k1m0 : Method := { name := "<init>", desc := "()V", sig := { parameters := [], returnType := none }, accessFlags := 1, code := none }
def k1c1 : Code := { maxStack := 6, maxLocals := 6, code := method_2_code, exceptionTable := #[], attributes := #[] }
def k1m1 : Method := { name := "fits", desc := "(JJJ)Z", sig := { parameters := [.long, .long, .long], returnType := some .boolean }, accessFlags := 10, code := some k1c1 }
def k1c2 : Code := { maxStack := 6, maxLocals := 33, code := code, exceptionTable := #[], attributes := #[] }
def k1m2 : Method := { name := "law", desc := "(JJJJJ)Z", sig := { parameters := [.long, .long, .long, .long, .long], returnType := some .boolean }, accessFlags := 9, code := some k1c2 }
/-- com/example/traceloom/traceloom/io/BoundsTakePinLaw -/
def k1 : Class := { plain "com/example/traceloom/traceloom/io/BoundsTakePinLaw" (some 0) with
  accessFlags := 49
  interfaces := #[]
  cf := some (fileOf pool1 23 #[] #[{ accessFlags := 1, nameIndex := 5, descriptorIndex := 6, attributes := #[] }, { accessFlags := 10, nameIndex := 26, descriptorIndex := 27, attributes := #[] }, { accessFlags := 9, nameIndex := 35, descriptorIndex := 36, attributes := #[] }] 49 2 #[] #[])
  fields := #[]
  methods := #[k1m0, k1m1, k1m2]
  instanceTypes := #[]
  staticTypes := #[]
  resolved := Array.replicate 41 none
  statics := none }

def pool2 : Array CpInfo := pool [(1, .class_ 2), (0, u "com/example/traceloom/traceloom/io/Bounds"), (1, .class_ 6), (1, u "java/lang/Object"), (0, u "<init>"), (0, u "()V"), (6, .long 46116860184189992), (1, .long 9223372036854775807), (1, .long 200), (1, .long 16777216), (3, u "allowed"), (0, u "(J)J"), (10, u "TOO_DEEP"), (0, u "Ljava/lang/String;"), (0, u "MAX_NESTING"), (0, u "I"), (2, u "MAX_MARKUP"), (1, u "LONGER_THAN_MARKUP_BOUND"), (2, u "BYTES_PER_BYTE"), (1, u "FREE_BYTES"), (11, .class_ 63), (0, u "com/example/traceloom/traceloom/io/Bounds$Events"), (0, .class_ 65), (0, u "com/example/traceloom/traceloom/io/Bounds$Budget")] 19

def k2m0 : Method := { name := "<init>", desc := "()V", sig := { parameters := [], returnType := none }, accessFlags := 2, code := none }
def k2c1 : Code := { maxStack := 4, maxLocals := 2, code := prog_27_method_3_code, exceptionTable := #[], attributes := #[] }
def k2m1 : Method := { name := "allowed", desc := "(J)J", sig := { parameters := [.long], returnType := some .long }, accessFlags := 9, code := some k2c1 }
/-- com/example/traceloom/traceloom/io/Bounds -/
def k2 : Class := { plain "com/example/traceloom/traceloom/io/Bounds" (some 0) with
  accessFlags := 49
  interfaces := #[]
  cf := some (fileOf pool2 1 #[.nestMembers #[62, 64]] #[{ accessFlags := 2, nameIndex := 7, descriptorIndex := 8, attributes := #[] }, { accessFlags := 9, nameIndex := 25, descriptorIndex := 26, attributes := #[] }] 49 4 #[] #[{ accessFlags := 25, nameIndex := 39, descriptorIndex := 40, attributes := #[] }, { accessFlags := 25, nameIndex := 37, descriptorIndex := 38, attributes := #[] }, { accessFlags := 25, nameIndex := 43, descriptorIndex := 40, attributes := #[] }, { accessFlags := 25, nameIndex := 45, descriptorIndex := 38, attributes := #[] }, { accessFlags := 25, nameIndex := 48, descriptorIndex := 40, attributes := #[] }, { accessFlags := 25, nameIndex := 50, descriptorIndex := 40, attributes := #[] }])
  fields := #[{ name := "MAX_NESTING", type := .int, accessFlags := 25, slot := 0, constantValue := 0 }, { name := "TOO_DEEP", type := (.object "java/lang/String"), accessFlags := 25, slot := 1, constantValue := 0 }, { name := "MAX_MARKUP", type := .int, accessFlags := 25, slot := 2, constantValue := 0 }, { name := "LONGER_THAN_MARKUP_BOUND", type := (.object "java/lang/String"), accessFlags := 25, slot := 3, constantValue := 0 }, { name := "BYTES_PER_BYTE", type := .int, accessFlags := 25, slot := 4, constantValue := 0 }, { name := "FREE_BYTES", type := .int, accessFlags := 25, slot := 5, constantValue := 0 }]
  methods := #[k2m0, k2m1]
  instanceTypes := #[]
  staticTypes := #[.int, (.object "java/lang/String"), .int, (.object "java/lang/String"), .int, .int]
  resolved := Array.replicate 85 none
  statics := none }

def pool3 : Array CpInfo := pool [(1, .methodref 2 3), (0, .class_ 4), (0, .nameAndType 5 6), (0, u "java/lang/Object"), (0, u "<init>"), (0, u "()V"), (0, .methodref 8 9), (0, .class_ 10), (0, .nameAndType 11 12), (0, u "com/example/traceloom/traceloom/io/Bounds"), (0, u "allowed"), (0, u "(J)J"), (0, .fieldref 14 15), (0, .class_ 16), (0, .nameAndType 11 17), (0, u "com/example/traceloom/traceloom/io/Bounds$Budget"), (0, u "J"), (0, .fieldref 14 19), (0, .nameAndType 20 17), (0, u "taken"), (0, u "(J)V"), (2, u "take"), (0, u "(JJ)Z")] 6

def k3c0 : Code := { maxStack := 3, maxLocals := 3, code := prog_28_method_1_code, exceptionTable := #[], attributes := #[] }
def k3m0 : Method := { name := "<init>", desc := "(J)V", sig := { parameters := [.long], returnType := none }, accessFlags := 1, code := some k3c0 }
def k3c1 : Code := { maxStack := 7, maxLocals := 5, code := prog_28_method_2_code, exceptionTable := #[], attributes := #[] }
def k3m1 : Method := { name := "take", desc := "(JJ)Z", sig := { parameters := [.long, .long], returnType := some .boolean }, accessFlags := 1, code := some k3c1 }
/-- com/example/traceloom/traceloom/io/Bounds$Budget -/
def k3 : Class := { plain "com/example/traceloom/traceloom/io/Bounds$Budget" (some 0) with
  accessFlags := 49
  interfaces := #[]
  cf := some (fileOf pool3 14 #[.nestHost 8] #[{ accessFlags := 1, nameIndex := 5, descriptorIndex := 21, attributes := #[] }, { accessFlags := 1, nameIndex := 24, descriptorIndex := 25, attributes := #[] }] 49 2 #[] #[{ accessFlags := 18, nameIndex := 11, descriptorIndex := 17, attributes := #[] }, { accessFlags := 2, nameIndex := 20, descriptorIndex := 17, attributes := #[] }])
  fields := #[{ name := "allowed", type := .long, accessFlags := 18, slot := 0, constantValue := 0 }, { name := "taken", type := .long, accessFlags := 2, slot := 1, constantValue := 0 }]
  methods := #[k3m0, k3m1]
  instanceTypes := #[.long, .long]
  staticTypes := #[]
  resolved := Array.replicate 32 none
  statics := none }

def pool4 : Array CpInfo := pool [(1, u "java/lang/Cloneable"), (0, .class_ 1), (0, u "java/lang/Object"), (0, .class_ 3)] 3

/-- java/lang/Cloneable -/
def k4 : Class := { plain "java/lang/Cloneable" (some 0) with
  accessFlags := 1537
  interfaces := #[]
  cf := some (fileOf pool4 2 #[] #[] 1537 4 #[] #[])
  fields := #[]
  methods := #[]
  instanceTypes := #[]
  staticTypes := #[]
  resolved := Array.replicate 8 none
  statics := none }

def pool5 : Array CpInfo := pool [(1, u "java/io/Serializable"), (0, .class_ 1), (0, u "java/lang/Object"), (0, .class_ 3)] 3

/-- java/io/Serializable -/
def k5 : Class := { plain "java/io/Serializable" (some 0) with
  accessFlags := 1537
  interfaces := #[]
  cf := some (fileOf pool5 2 #[] #[] 1537 4 #[] #[])
  fields := #[]
  methods := #[]
  instanceTypes := #[]
  staticTypes := #[]
  resolved := Array.replicate 8 none
  statics := none }

/-- the primitive byte -/
def k6 : Class := { plain "byte" none with kind := .primitive 'B', accessFlags := 0x411 }
/-- [B -/
def k7 : Class := { plain "[B" (some 0) with kind := .array 6 .byte, interfaces := #[4, 5], accessFlags := 1041 }

/-- the primitive int -/
def k8 : Class := { plain "int" none with kind := .primitive 'I', accessFlags := 0x411 }
/-- [I -/
def k9 : Class := { plain "[I" (some 0) with kind := .array 8 .int, interfaces := #[4, 5], accessFlags := 1041 }

def heap : Heap := #[]
def classes : Array Class := #[k0, k1, k2, k3, k4, k5, k6, k7, k8, k9]
def interned : List (Array UInt16 × Addr) := []
def slotsUsed : Nat := 0
def theMethod : MethodId := ⟨1, 2⟩
def args0 : Array Value := #[.long 5, .long 6, .long 7, .long 8, .long 9]
def aboutOver (below : List Frame) : State where
  vm := { classes := classes, interned := interned.toArray }
  heap := heap
  slotsUsed := slotsUsed
  threads := #[{ frames := .invoking theMethod args0 :: below }]
def below0 : List Frame := [.native { method := ⟨0, 0⟩, args := #[] }]
def about1 : State := aboutOver below0
def p0 : Program := .bare "" "" ""
def e0 : Env := launch0.env 0 0 0
theorem w_frames : about1.frames = Frame.invoking theMethod args0 :: below0 := rfl
set_option maxRecDepth 65536 in
theorem w_args : argsFit about1.vm theMethod args0 = true := by decide +kernel
set_option maxRecDepth 65536 in
theorem w_heap : heapFits about1 = true := by decide +kernel
set_option maxRecDepth 65536 in
theorem w_runnable : about1.curStatus? = some .runnable := by decide +kernel
set_option maxRecDepth 65536 in
theorem w_alone : about1.alone = true := by decide +kernel
set_option maxRecDepth 65536 in
theorem w_named : about1.methodNamed? x = some theMethod := by decide +kernel
set_option maxRecDepth 65536 in
theorem w_hears : about1.hears theMethod below0 = true := by decide +kernel
set_option maxRecDepth 65536 in
theorem w_ripe : about1.ripe theMethod args0 below0 = true := by decide +kernel
theorem w_running : about1.status = .running := rfl
set_option maxRecDepth 65536 in
theorem w_room : about1.hasRoom e0.platform room_1 = true :=
  launch0.hasRoom_least _ room_1 (by decide +kernel) (by decide +kernel) (by decide +kernel) (by decide +kernel) (by decide +kernel) (by decide +kernel)
theorem allAtoms_all (ts : List Jvm.Cond) (a : Array Jvm.Value) (st : Jvm.State) : (allAtoms ts).before a st = ts.all (fun c => c.before a st) := by
  induction ts with
  | nil => rfl
  | cons c t ih =>
    show (Jvm.Cond.and c (allAtoms t)).before a st = _
    rw [Jvm.Cond.before_and, ih, List.all_cons]
def words1 : List Jvm.Cond := Jvm.Cond.code x code maxLocals ret :: tables_1
/-- a 'code' word, met by the world's own term for the bytes: nothing is compared byte by byte -/
theorem code_word {y : MethodName} {bytes : ByteArray} {mx : Nat} {rt : Option FieldType} {a : Array Value} {s : State} {m : MethodId} {meth : Method} {c : Code} (h1 : s.methodNamed? y = some m) (h2 : s.vm.method? m = some meth) (h3 : meth.code = some c) (h4 : c.code = bytes)
    (h5 : (c.maxLocals == mx && c.exceptionTable.isEmpty && decide (c.maxStack ≤ mostOperands) && decide (meth.sig.returnType = rt) && !meth.locks && decide (parseMethodDescriptor y.desc = some meth.sig)) = true) : (Jvm.Cond.code y bytes mx rt).before a s = true := by
  simp only [Bool.and_eq_true, beq_iff_eq, Bool.not_eq_true', decide_eq_true_eq] at h5
  obtain ⟨⟨⟨⟨⟨g1, g2⟩, g3⟩, g4⟩, g5⟩, g6⟩ := h5
  simp [Cond.before, Cond.holds, Cond.value, h1, h2, h3, h4, g1, g2, g3, g4, g5, g6]
def isCode : Jvm.Cond → Bool
  | .code _ _ _ _ => true
  | _ => false
theorem all_split {L : List Jvm.Cond} {P : Jvm.Cond → Bool} (h1 : L.all (fun c => isCode c || P c) = true) (h2 : ∀ c ∈ L.filter isCode, P c = true) : L.all P = true := by
  refine List.all_eq_true.mpr fun c hc => ?_
  have h := List.all_eq_true.mp h1 c hc
  rcases Bool.eq_false_or_eq_true (isCode c) with hi | hi
  · exact h2 c (List.mem_filter.mpr ⟨hc, hi⟩)
  · simpa [hi] using h
set_option maxRecDepth 65536 in
theorem w_c0 : (Jvm.Cond.code x code maxLocals ret).before args0 about1 = true := code_word (m := ⟨1, 2⟩) (meth := k1m2) (c := k1c2) (by decide +kernel) rfl rfl rfl (by decide +kernel)
set_option maxRecDepth 65536 in
theorem w_c1 : (Jvm.Cond.code ({ cls := "com/example/traceloom/traceloom/io/Bounds", name := "allowed", desc := "(J)J" } : Jvm.MethodName) prog_27_method_3_code (2 : Nat) (Option.some Jvm.ClassFile.FieldType.long)).before args0 about1 = true := code_word (m := ⟨2, 1⟩) (meth := k2m1) (c := k2c1) (by decide +kernel) rfl rfl rfl (by decide +kernel)
set_option maxRecDepth 65536 in
theorem w_c2 : (Jvm.Cond.code ({ cls := "com/example/traceloom/traceloom/io/Bounds$Budget", name := "<init>", desc := "(J)V" } : Jvm.MethodName) prog_28_method_1_code (3 : Nat) (Option.none : Option Jvm.ClassFile.FieldType)).before args0 about1 = true := code_word (m := ⟨3, 0⟩) (meth := k3m0) (c := k3c0) (by decide +kernel) rfl rfl rfl (by decide +kernel)
set_option maxRecDepth 65536 in
theorem w_c3 : (Jvm.Cond.code ({ cls := "java/lang/Object", name := "<init>", desc := "()V" } : Jvm.MethodName) object_method_1_code (1 : Nat) (Option.none : Option Jvm.ClassFile.FieldType)).before args0 about1 = true := code_word (m := ⟨0, 0⟩) (meth := k0m0) (c := k0c0) (by decide +kernel) rfl rfl rfl (by decide +kernel)
set_option maxRecDepth 65536 in
theorem w_c4 : (Jvm.Cond.code ({ cls := "com/example/traceloom/traceloom/io/BoundsTakePinLaw", name := "fits", desc := "(JJJ)Z" } : Jvm.MethodName) method_2_code (6 : Nat) (Option.some Jvm.ClassFile.FieldType.boolean)).before args0 about1 = true := code_word (m := ⟨1, 1⟩) (meth := k1m1) (c := k1c1) (by decide +kernel) rfl rfl rfl (by decide +kernel)
set_option maxRecDepth 65536 in
theorem w_c5 : (Jvm.Cond.code ({ cls := "com/example/traceloom/traceloom/io/Bounds$Budget", name := "take", desc := "(JJ)Z" } : Jvm.MethodName) prog_28_method_2_code (5 : Nat) (Option.some Jvm.ClassFile.FieldType.boolean)).before args0 about1 = true := code_word (m := ⟨3, 1⟩) (meth := k3m1) (c := k3c1) (by decide +kernel) rfl rfl rfl (by decide +kernel)
def codes1 : List Jvm.Cond := [Jvm.Cond.code x code maxLocals ret, Jvm.Cond.code ({ cls := "com/example/traceloom/traceloom/io/Bounds", name := "allowed", desc := "(J)J" } : Jvm.MethodName) prog_27_method_3_code (2 : Nat) (Option.some Jvm.ClassFile.FieldType.long), Jvm.Cond.code ({ cls := "com/example/traceloom/traceloom/io/Bounds$Budget", name := "<init>", desc := "(J)V" } : Jvm.MethodName) prog_28_method_1_code (3 : Nat) (Option.none : Option Jvm.ClassFile.FieldType), Jvm.Cond.code ({ cls := "java/lang/Object", name := "<init>", desc := "()V" } : Jvm.MethodName) object_method_1_code (1 : Nat) (Option.none : Option Jvm.ClassFile.FieldType), Jvm.Cond.code ({ cls := "com/example/traceloom/traceloom/io/BoundsTakePinLaw", name := "fits", desc := "(JJJ)Z" } : Jvm.MethodName) method_2_code (6 : Nat) (Option.some Jvm.ClassFile.FieldType.boolean), Jvm.Cond.code ({ cls := "com/example/traceloom/traceloom/io/Bounds$Budget", name := "take", desc := "(JJ)Z" } : Jvm.MethodName) prog_28_method_2_code (5 : Nat) (Option.some Jvm.ClassFile.FieldType.boolean)]
set_option maxRecDepth 65536 in
theorem codes_eq : words1.filter isCode = codes1 := rfl
theorem w_codes : ∀ c ∈ words1.filter isCode, c.before args0 about1 = true := by
  rw [codes_eq]
  intro c hc
  simp only [codes1, List.mem_cons, List.not_mem_nil, or_false] at hc
  rcases hc with rfl | rfl | rfl | rfl | rfl | rfl
  · exact w_c0
  · exact w_c1
  · exact w_c2
  · exact w_c3
  · exact w_c4
  · exact w_c5
set_option maxRecDepth 65536 in
theorem w_t1 : (words1.take 24).all (fun c => isCode c || c.before args0 about1) = true := by decide +kernel
set_option maxRecDepth 65536 in
theorem w_t2 : (words1.drop 24).all (fun c => isCode c || c.before args0 about1) = true := by decide +kernel
theorem w_tables : (allAtoms (Jvm.Cond.code x code maxLocals ret :: tables_1)).before args0 about1 = true := by
  rw [allAtoms_all]
  show words1.all (fun c => c.before args0 about1) = true
  refine all_split ?_ w_codes
  rw [← List.take_append_drop 24 words1, List.all_append, w_t1, w_t2]
  rfl
set_option maxRecDepth 65536 in
theorem w_case : (Jvm.Cond.and given_1 narrow_1).before args0 about1 = true := by decide +kernel
theorem w_applies : (headSpec (Jvm.Cond.code x code maxLocals ret :: tables_1) room_1).applies x e0.platform about1 = true :=
  (Spec.applies_iff w_frames).mpr ⟨w_running, w_runnable, w_alone, w_named, w_hears, w_ripe, w_room, w_tables⟩
theorem atStart : AtStart classFile x code maxLocals ret World_1 tables_1 room_1 Calls_1 rest_1 Pre_1 launch0 p0 e0 about1 theMethod args0 below0 :=
  ⟨lists_1, trivial, launch0.admits_env _ _ _, launch0.least_env, fairChoices_fair.cas, fairChoices_fair.clock, w_frames, w_args, w_heap, w_applies, trivial, trivial, w_case⟩
end start1
theorem witness_1 : WitnessClaimed_1 := ⟨start1.p0, start1.e0, start1.about1, start1.theMethod, start1.args0, start1.below0, start1.atStart⟩
end Jvm.Pilot.@@N@@
