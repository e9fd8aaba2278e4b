import JvmDerived
import JvmDerived.Pilot.@@N@@Statement
import JvmDerived.Pilot.@@N@@Code
set_option linter.unusedVariables false
set_option linter.unusedSimpArgs false
namespace Jvm.OwnRun
open Sem ClassFile Op Lib Jvm.Stand Jvm.Free Jvm.LawKit Jvm.RoadKit
/-- from T with the top frame g the method's run ends as Φ says -/
def Run (tb : Tables) (e : Env) (below : List Frame) (Φ : Outcome → State → Prop) (T : State) (g : JFrame) : Prop := ∃ s₂ o, Steps tb e below (T.setTop g) s₂ ∧ s₂.status = .running ∧ Ended s₂ below o ∧ Φ o s₂
/-- what a contract asks of the end -/
def FinR (s : State) (K N : Nat) (Q : Option Value → Heap → List Loc → Prop) : Outcome → State → Prop := fun o u => ∃ v L, o = .returned v ∧ Q v u.heap L ∧ FrameEnd s o u L K N
/-- a contract's word on its end, kept in one piece -/
abbrev Say (Q : Option Value → Heap → List Loc → Prop) (v : Option Value) (h : Heap) (L : List Loc) : Prop := Q v h L
section Steps
variable {p : Program} {l : Launch} {e : Env} {R : Room} {s : State} {m : MethodId} {args : Array Value} {below : List Frame} {meth : Method} {c : Code} {T : State} {locs : List Loc} {cells slots : Nat} {Φ : Outcome → State → Prop} {pc pc' : Nat} {Ls : Array Slot} {rest : List Value}
theorem Run.back {tb : Tables} {T' : State} {g g' : JFrame} (h : ∀ t, Steps tb e below (T'.setTop g') t → Steps tb e below (T.setTop g) t) (k : Run tb e below Φ T' g') : Run tb e below Φ T g := by
  obtain ⟨s₂, o, h1, h2⟩ := k
  exact ⟨s₂, o, h _ h1, h2⟩
theorem Run.fwd {tb : Tables} {T' : State} {g g' : JFrame} (h : Steps tb e below (T.setTop g) (T'.setTop g')) (k : Run tb e below Φ T' g') : Run tb e below Φ T g := k.back fun _ kt => h.trans kt
theorem Run.iload (X : Stand p l e R s m args below meth c T locs cells slots) (hx : p.tables.exec = Jvm.exec) {k : Nat} {v : Int32} (hd : decode c.code pc = .ok (.iload k, 2)) (hl : Ls[k]? = some (.val (.int v))) (hp : pc + 2 = pc') (k : Run p.tables e below Φ T (mkF m pc' Ls (.int v :: rest))) : Run p.tables e below Φ T (mkF m pc Ls rest) := by
  subst hp
  exact k.back fun _ kt => XS.iload X.here hx rfl hd hl kt
theorem Run.iloadN (X : Stand p l e R s m args below meth c T locs cells slots) (hx : p.tables.exec = Jvm.exec) {k : Fin 4} {v : Int32} (hd : decode c.code pc = .ok (.iload_n k, 1)) (hl : Ls[k.val]? = some (.val (.int v))) (hp : pc + 1 = pc') (k : Run p.tables e below Φ T (mkF m pc' Ls (.int v :: rest))) : Run p.tables e below Φ T (mkF m pc Ls rest) := by
  subst hp
  exact k.back fun _ kt => XS.iloadN X.here hx rfl hd hl kt
theorem Run.istore (X : Stand p l e R s m args below meth c T locs cells slots) (hx : p.tables.exec = Jvm.exec) {k : Nat} {v : Int32} {l' : Array Slot} (hd : decode c.code pc = .ok (.istore k, 2)) (hl : storeLocals Ls k (.int v) = some l') (hp : pc + 2 = pc') (k : Run p.tables e below Φ T (mkF m pc' l' rest)) : Run p.tables e below Φ T (mkF m pc Ls (.int v :: rest)) := by
  subst hp
  exact k.back fun _ kt => XS.istore X.here hx rfl hd rfl hl kt
theorem Run.istoreN (X : Stand p l e R s m args below meth c T locs cells slots) (hx : p.tables.exec = Jvm.exec) {k : Fin 4} {v : Int32} {l' : Array Slot} (hd : decode c.code pc = .ok (.istore_n k, 1)) (hl : storeLocals Ls k.val (.int v) = some l') (hp : pc + 1 = pc') (k : Run p.tables e below Φ T (mkF m pc' l' rest)) : Run p.tables e below Φ T (mkF m pc Ls (.int v :: rest)) := by
  subst hp
  exact k.back fun _ kt => XS.istoreN X.here hx rfl hd rfl hl kt
theorem Run.lload (X : Stand p l e R s m args below meth c T locs cells slots) (hx : p.tables.exec = Jvm.exec) {k : Nat} {v : Int64} (hd : decode c.code pc = .ok (.lload k, 2)) (hl : Ls[k]? = some (.val (.long v))) (hp : pc + 2 = pc') (k : Run p.tables e below Φ T (mkF m pc' Ls (.long v :: rest))) : Run p.tables e below Φ T (mkF m pc Ls rest) := by
  subst hp
  exact k.back fun _ kt => XS.lload X.here hx rfl hd hl kt
theorem Run.lloadN (X : Stand p l e R s m args below meth c T locs cells slots) (hx : p.tables.exec = Jvm.exec) {k : Fin 4} {v : Int64} (hd : decode c.code pc = .ok (.lload_n k, 1)) (hl : Ls[k.val]? = some (.val (.long v))) (hp : pc + 1 = pc') (k : Run p.tables e below Φ T (mkF m pc' Ls (.long v :: rest))) : Run p.tables e below Φ T (mkF m pc Ls rest) := by
  subst hp
  exact k.back fun _ kt => XS.lloadN X.here hx rfl hd hl kt
theorem Run.lstore (X : Stand p l e R s m args below meth c T locs cells slots) (hx : p.tables.exec = Jvm.exec) {k : Nat} {v : Int64} {l' : Array Slot} (hd : decode c.code pc = .ok (.lstore k, 2)) (hl : storeLocals Ls k (.long v) = some l') (hp : pc + 2 = pc') (k : Run p.tables e below Φ T (mkF m pc' l' rest)) : Run p.tables e below Φ T (mkF m pc Ls (.long v :: rest)) := by
  subst hp
  exact k.back fun _ kt => XS.lstore X.here hx rfl hd rfl hl kt
theorem Run.lstoreN (X : Stand p l e R s m args below meth c T locs cells slots) (hx : p.tables.exec = Jvm.exec) {k : Fin 4} {v : Int64} {l' : Array Slot} (hd : decode c.code pc = .ok (.lstore_n k, 1)) (hl : storeLocals Ls k.val (.long v) = some l') (hp : pc + 1 = pc') (k : Run p.tables e below Φ T (mkF m pc' l' rest)) : Run p.tables e below Φ T (mkF m pc Ls (.long v :: rest)) := by
  subst hp
  exact k.back fun _ kt => XS.lstoreN X.here hx rfl hd rfl hl kt
theorem Run.aload (X : Stand p l e R s m args below meth c T locs cells slots) (hx : p.tables.exec = Jvm.exec) {k : Nat} {v : Addr} (hd : decode c.code pc = .ok (.aload k, 2)) (hl : Ls[k]? = some (.val (.ref v))) (hp : pc + 2 = pc') (k : Run p.tables e below Φ T (mkF m pc' Ls (.ref v :: rest))) : Run p.tables e below Φ T (mkF m pc Ls rest) := by
  subst hp
  exact k.back fun _ kt => XS.aload X.here hx rfl hd hl rfl kt
theorem Run.aloadN (X : Stand p l e R s m args below meth c T locs cells slots) (hx : p.tables.exec = Jvm.exec) {k : Fin 4} {v : Addr} (hd : decode c.code pc = .ok (.aload_n k, 1)) (hl : Ls[k.val]? = some (.val (.ref v))) (hp : pc + 1 = pc') (k : Run p.tables e below Φ T (mkF m pc' Ls (.ref v :: rest))) : Run p.tables e below Φ T (mkF m pc Ls rest) := by
  subst hp
  exact k.back fun _ kt => XS.aloadN X.here hx rfl hd hl rfl kt
theorem Run.astore (X : Stand p l e R s m args below meth c T locs cells slots) (hx : p.tables.exec = Jvm.exec) {k : Nat} {v : Addr} {l' : Array Slot} (hd : decode c.code pc = .ok (.astore k, 2)) (hl : storeLocals Ls k (.ref v) = some l') (hp : pc + 2 = pc') (k : Run p.tables e below Φ T (mkF m pc' l' rest)) : Run p.tables e below Φ T (mkF m pc Ls (.ref v :: rest)) := by
  subst hp
  exact k.back fun _ kt => XS.astore X.here hx rfl hd rfl rfl hl kt
theorem Run.astoreN (X : Stand p l e R s m args below meth c T locs cells slots) (hx : p.tables.exec = Jvm.exec) {k : Fin 4} {v : Addr} {l' : Array Slot} (hd : decode c.code pc = .ok (.astore_n k, 1)) (hl : storeLocals Ls k.val (.ref v) = some l') (hp : pc + 1 = pc') (k : Run p.tables e below Φ T (mkF m pc' l' rest)) : Run p.tables e below Φ T (mkF m pc Ls (.ref v :: rest)) := by
  subst hp
  exact k.back fun _ kt => XS.astoreN X.here hx rfl hd rfl rfl hl kt
theorem Run.iconst (X : Stand p l e R s m args below meth c T locs cells slots) (hx : p.tables.exec = Jvm.exec) {i : Int} {v : Int32} (hd : decode c.code pc = .ok (.iconst i, 1)) (hv : Int32.ofInt i = v) (hp : pc + 1 = pc') (k : Run p.tables e below Φ T (mkF m pc' Ls (.int v :: rest))) : Run p.tables e below Φ T (mkF m pc Ls rest) := by
  subst hp
  exact k.back fun _ kt => XS.iconst X.here hx rfl hd (by rw [hv]; exact kt)
theorem Run.bipush (X : Stand p l e R s m args below meth c T locs cells slots) (hx : p.tables.exec = Jvm.exec) {i : Int} {v : Int32} (hd : decode c.code pc = .ok (.bipush i, 2)) (hv : (Int8.ofInt i).toInt32 = v) (hp : pc + 2 = pc') (k : Run p.tables e below Φ T (mkF m pc' Ls (.int v :: rest))) : Run p.tables e below Φ T (mkF m pc Ls rest) := by
  subst hp
  exact k.back fun _ kt => XS.bipush X.here hx rfl hd (by rw [hv]; exact kt)
theorem Run.sipush (X : Stand p l e R s m args below meth c T locs cells slots) (hx : p.tables.exec = Jvm.exec) {i : Int} {v : Int32} (hd : decode c.code pc = .ok (.sipush i, 3)) (hv : (Int16.ofInt i).toInt32 = v) (hp : pc + 3 = pc') (k : Run p.tables e below Φ T (mkF m pc' Ls (.int v :: rest))) : Run p.tables e below Φ T (mkF m pc Ls rest) := by
  subst hp
  exact k.back fun _ kt => XS.sipush X.here hx rfl hd (by rw [hv]; exact kt)
theorem Run.lconst (X : Stand p l e R s m args below meth c T locs cells slots) (hx : p.tables.exec = Jvm.exec) {i : Fin 2} {v : Int64} (hd : decode c.code pc = .ok (.lconst i, 1)) (hv : Int64.ofNat i = v) (hp : pc + 1 = pc') (k : Run p.tables e below Φ T (mkF m pc' Ls (.long v :: rest))) : Run p.tables e below Φ T (mkF m pc Ls rest) := by
  subst hp
  exact k.back fun _ kt => XS.lconst X.here hx rfl hd (by first | (rw [hv]; exact kt) | (rw [← hv] at kt; exact kt))
theorem Run.aconstNull (X : Stand p l e R s m args below meth c T locs cells slots) (hx : p.tables.exec = Jvm.exec) (hd : decode c.code pc = .ok (.aconst_null, 1)) (hp : pc + 1 = pc') (k : Run p.tables e below Φ T (mkF m pc' Ls (.null :: rest))) : Run p.tables e below Φ T (mkF m pc Ls rest) := by
  subst hp
  exact k.back fun _ kt => XS.aconstNull X.here hx rfl hd kt
theorem Run.iadd (X : Stand p l e R s m args below meth c T locs cells slots) (hx : p.tables.exec = Jvm.exec) {x y : Int32} (hd : decode c.code pc = .ok (.iadd, 1)) (hp : pc + 1 = pc') (k : Run p.tables e below Φ T (mkF m pc' Ls (.int (x + y) :: rest))) : Run p.tables e below Φ T (mkF m pc Ls (.int y :: .int x :: rest)) := by
  subst hp
  exact k.back fun _ kt => XS.iadd X.here hx rfl hd rfl kt
theorem Run.isub (X : Stand p l e R s m args below meth c T locs cells slots) (hx : p.tables.exec = Jvm.exec) {x y : Int32} (hd : decode c.code pc = .ok (.isub, 1)) (hp : pc + 1 = pc') (k : Run p.tables e below Φ T (mkF m pc' Ls (.int (x - y) :: rest))) : Run p.tables e below Φ T (mkF m pc Ls (.int y :: .int x :: rest)) := by
  subst hp
  exact k.back fun _ kt => XS.isub X.here hx rfl hd rfl kt
theorem Run.imul (X : Stand p l e R s m args below meth c T locs cells slots) (hx : p.tables.exec = Jvm.exec) {x y : Int32} (hd : decode c.code pc = .ok (.imul, 1)) (hp : pc + 1 = pc') (k : Run p.tables e below Φ T (mkF m pc' Ls (.int (x * y) :: rest))) : Run p.tables e below Φ T (mkF m pc Ls (.int y :: .int x :: rest)) := by
  subst hp
  exact k.back fun _ kt => XS.imul X.here hx rfl hd rfl kt
theorem Run.iand (X : Stand p l e R s m args below meth c T locs cells slots) (hx : p.tables.exec = Jvm.exec) {x y : Int32} (hd : decode c.code pc = .ok (.iand, 1)) (hp : pc + 1 = pc') (k : Run p.tables e below Φ T (mkF m pc' Ls (.int (x &&& y) :: rest))) : Run p.tables e below Φ T (mkF m pc Ls (.int y :: .int x :: rest)) := by
  subst hp
  exact k.back fun _ kt => XS.iand X.here hx rfl hd rfl kt
theorem Run.ior (X : Stand p l e R s m args below meth c T locs cells slots) (hx : p.tables.exec = Jvm.exec) {x y : Int32} (hd : decode c.code pc = .ok (.ior, 1)) (hp : pc + 1 = pc') (k : Run p.tables e below Φ T (mkF m pc' Ls (.int (x ||| y) :: rest))) : Run p.tables e below Φ T (mkF m pc Ls (.int y :: .int x :: rest)) := by
  subst hp
  exact k.back fun _ kt => XS.ior X.here hx rfl hd rfl kt
theorem Run.ixor (X : Stand p l e R s m args below meth c T locs cells slots) (hx : p.tables.exec = Jvm.exec) {x y : Int32} (hd : decode c.code pc = .ok (.ixor, 1)) (hp : pc + 1 = pc') (k : Run p.tables e below Φ T (mkF m pc' Ls (.int (x ^^^ y) :: rest))) : Run p.tables e below Φ T (mkF m pc Ls (.int y :: .int x :: rest)) := by
  subst hp
  exact k.back fun _ kt => XS.ixor X.here hx rfl hd rfl kt
theorem Run.idiv (X : Stand p l e R s m args below meth c T locs cells slots) (hx : p.tables.exec = Jvm.exec) {x y : Int32} (hd : decode c.code pc = .ok (.idiv, 1)) (hy : y ≠ 0) (hp : pc + 1 = pc') (k : Run p.tables e below Φ T (mkF m pc' Ls (.int (x / y) :: rest))) : Run p.tables e below Φ T (mkF m pc Ls (.int y :: .int x :: rest)) := by
  subst hp
  exact k.back fun _ kt => XS.idiv X.here hx rfl hd rfl hy kt
theorem Run.ladd (X : Stand p l e R s m args below meth c T locs cells slots) (hx : p.tables.exec = Jvm.exec) {x y : Int64} (hd : decode c.code pc = .ok (.ladd, 1)) (hp : pc + 1 = pc') (k : Run p.tables e below Φ T (mkF m pc' Ls (.long (x + y) :: rest))) : Run p.tables e below Φ T (mkF m pc Ls (.long y :: .long x :: rest)) := by
  subst hp
  exact k.back fun _ kt => XS.ladd X.here hx rfl hd rfl kt
theorem Run.lsub (X : Stand p l e R s m args below meth c T locs cells slots) (hx : p.tables.exec = Jvm.exec) {x y : Int64} (hd : decode c.code pc = .ok (.lsub, 1)) (hp : pc + 1 = pc') (k : Run p.tables e below Φ T (mkF m pc' Ls (.long (x - y) :: rest))) : Run p.tables e below Φ T (mkF m pc Ls (.long y :: .long x :: rest)) := by
  subst hp
  exact k.back fun _ kt => XS.lsub X.here hx rfl hd rfl kt
theorem Run.lmul (X : Stand p l e R s m args below meth c T locs cells slots) (hx : p.tables.exec = Jvm.exec) {x y : Int64} (hd : decode c.code pc = .ok (.lmul, 1)) (hp : pc + 1 = pc') (k : Run p.tables e below Φ T (mkF m pc' Ls (.long (x * y) :: rest))) : Run p.tables e below Φ T (mkF m pc Ls (.long y :: .long x :: rest)) := by
  subst hp
  exact k.back fun _ kt => XS.lmul X.here hx rfl hd rfl kt
theorem Run.land (X : Stand p l e R s m args below meth c T locs cells slots) (hx : p.tables.exec = Jvm.exec) {x y : Int64} (hd : decode c.code pc = .ok (.land, 1)) (hp : pc + 1 = pc') (k : Run p.tables e below Φ T (mkF m pc' Ls (.long (x &&& y) :: rest))) : Run p.tables e below Φ T (mkF m pc Ls (.long y :: .long x :: rest)) := by
  subst hp
  exact k.back fun _ kt => XS.land X.here hx rfl hd rfl kt
theorem Run.lor (X : Stand p l e R s m args below meth c T locs cells slots) (hx : p.tables.exec = Jvm.exec) {x y : Int64} (hd : decode c.code pc = .ok (.lor, 1)) (hp : pc + 1 = pc') (k : Run p.tables e below Φ T (mkF m pc' Ls (.long (x ||| y) :: rest))) : Run p.tables e below Φ T (mkF m pc Ls (.long y :: .long x :: rest)) := by
  subst hp
  exact k.back fun _ kt => XS.lor X.here hx rfl hd rfl kt
theorem Run.lxor (X : Stand p l e R s m args below meth c T locs cells slots) (hx : p.tables.exec = Jvm.exec) {x y : Int64} (hd : decode c.code pc = .ok (.lxor, 1)) (hp : pc + 1 = pc') (k : Run p.tables e below Φ T (mkF m pc' Ls (.long (x ^^^ y) :: rest))) : Run p.tables e below Φ T (mkF m pc Ls (.long y :: .long x :: rest)) := by
  subst hp
  exact k.back fun _ kt => XS.lxor X.here hx rfl hd rfl kt
theorem Run.ldiv (X : Stand p l e R s m args below meth c T locs cells slots) (hx : p.tables.exec = Jvm.exec) {x y : Int64} (hd : decode c.code pc = .ok (.ldiv, 1)) (hy : y ≠ 0) (hp : pc + 1 = pc') (k : Run p.tables e below Φ T (mkF m pc' Ls (.long (x / y) :: rest))) : Run p.tables e below Φ T (mkF m pc Ls (.long y :: .long x :: rest)) := by
  subst hp
  exact k.back fun _ kt => XS.ldiv X.here hx rfl hd rfl hy kt
theorem Run.irem (X : Stand p l e R s m args below meth c T locs cells slots) (hx : p.tables.exec = Jvm.exec) {x y : Int32} (hd : decode c.code pc = .ok (.irem, 1)) (hy : y ≠ 0) (hp : pc + 1 = pc') (k : Run p.tables e below Φ T (mkF m pc' Ls (.int (x % y) :: rest))) : Run p.tables e below Φ T (mkF m pc Ls (.int y :: .int x :: rest)) := by
  subst hp
  exact k.back fun _ kt => iremM X hx rfl hd rfl hy kt
theorem Run.ishl (X : Stand p l e R s m args below meth c T locs cells slots) (hx : p.tables.exec = Jvm.exec) {x : Int32} {y : Int32} (hd : decode c.code pc = .ok (.ishl, 1)) (hp : pc + 1 = pc') (k : Run p.tables e below Φ T (mkF m pc' Ls (.int (x <<< (y &&& 31)) :: rest))) : Run p.tables e below Φ T (mkF m pc Ls (.int y :: .int x :: rest)) := by
  subst hp
  exact k.back fun _ kt => XS.ishl X.here hx rfl hd rfl kt
theorem Run.ishr (X : Stand p l e R s m args below meth c T locs cells slots) (hx : p.tables.exec = Jvm.exec) {x : Int32} {y : Int32} (hd : decode c.code pc = .ok (.ishr, 1)) (hp : pc + 1 = pc') (k : Run p.tables e below Φ T (mkF m pc' Ls (.int (x >>> (y &&& 31)) :: rest))) : Run p.tables e below Φ T (mkF m pc Ls (.int y :: .int x :: rest)) := by
  subst hp
  exact k.back fun _ kt => XS.ishr X.here hx rfl hd rfl kt
theorem Run.iushr (X : Stand p l e R s m args below meth c T locs cells slots) (hx : p.tables.exec = Jvm.exec) {x : Int32} {y : Int32} (hd : decode c.code pc = .ok (.iushr, 1)) (hp : pc + 1 = pc') (k : Run p.tables e below Φ T (mkF m pc' Ls (.int ((x.toUInt32 >>> (y &&& 31).toUInt32).toInt32) :: rest))) : Run p.tables e below Φ T (mkF m pc Ls (.int y :: .int x :: rest)) := by
  subst hp
  exact k.back fun _ kt => XS.iushr X.here hx rfl hd rfl kt
theorem Run.lshl (X : Stand p l e R s m args below meth c T locs cells slots) (hx : p.tables.exec = Jvm.exec) {x : Int64} {y : Int32} (hd : decode c.code pc = .ok (.lshl, 1)) (hp : pc + 1 = pc') (k : Run p.tables e below Φ T (mkF m pc' Ls (.long (x <<< (y &&& 0x3f).toInt64) :: rest))) : Run p.tables e below Φ T (mkF m pc Ls (.int y :: .long x :: rest)) := by
  subst hp
  exact k.back fun _ kt => XS.lshl X.here hx rfl hd rfl kt
theorem Run.lshr (X : Stand p l e R s m args below meth c T locs cells slots) (hx : p.tables.exec = Jvm.exec) {x : Int64} {y : Int32} (hd : decode c.code pc = .ok (.lshr, 1)) (hp : pc + 1 = pc') (k : Run p.tables e below Φ T (mkF m pc' Ls (.long (x >>> (y &&& 0x3f).toInt64) :: rest))) : Run p.tables e below Φ T (mkF m pc Ls (.int y :: .long x :: rest)) := by
  subst hp
  exact k.back fun _ kt => XS.lshr X.here hx rfl hd rfl kt
theorem Run.lushr (X : Stand p l e R s m args below meth c T locs cells slots) (hx : p.tables.exec = Jvm.exec) {x : Int64} {y : Int32} (hd : decode c.code pc = .ok (.lushr, 1)) (hp : pc + 1 = pc') (k : Run p.tables e below Φ T (mkF m pc' Ls (.long ((x.toUInt64 >>> (y &&& 0x3f).toInt64.toUInt64).toInt64) :: rest))) : Run p.tables e below Φ T (mkF m pc Ls (.int y :: .long x :: rest)) := by
  subst hp
  exact k.back fun _ kt => XS.lushr X.here hx rfl hd rfl kt
theorem Run.i2l (X : Stand p l e R s m args below meth c T locs cells slots) (hx : p.tables.exec = Jvm.exec) {x : Int32} (hd : decode c.code pc = .ok (.i2l, 1)) (hp : pc + 1 = pc') (k : Run p.tables e below Φ T (mkF m pc' Ls (.long (x.toInt64) :: rest))) : Run p.tables e below Φ T (mkF m pc Ls (.int x :: rest)) := by
  subst hp
  exact k.back fun _ kt => XS.i2l X.here hx rfl hd rfl kt
theorem Run.l2i (X : Stand p l e R s m args below meth c T locs cells slots) (hx : p.tables.exec = Jvm.exec) {x : Int64} (hd : decode c.code pc = .ok (.l2i, 1)) (hp : pc + 1 = pc') (k : Run p.tables e below Φ T (mkF m pc' Ls (.int (x.toInt32) :: rest))) : Run p.tables e below Φ T (mkF m pc Ls (.long x :: rest)) := by
  subst hp
  exact k.back fun _ kt => XS.l2i X.here hx rfl hd rfl kt
theorem Run.i2b (X : Stand p l e R s m args below meth c T locs cells slots) (hx : p.tables.exec = Jvm.exec) {x : Int32} (hd : decode c.code pc = .ok (.i2b, 1)) (hp : pc + 1 = pc') (k : Run p.tables e below Φ T (mkF m pc' Ls (.int (x.toInt8.toInt32) :: rest))) : Run p.tables e below Φ T (mkF m pc Ls (.int x :: rest)) := by
  subst hp
  exact k.back fun _ kt => XS.i2b X.here hx rfl hd rfl kt
theorem Run.i2s (X : Stand p l e R s m args below meth c T locs cells slots) (hx : p.tables.exec = Jvm.exec) {x : Int32} (hd : decode c.code pc = .ok (.i2s, 1)) (hp : pc + 1 = pc') (k : Run p.tables e below Φ T (mkF m pc' Ls (.int (x.toInt16.toInt32) :: rest))) : Run p.tables e below Φ T (mkF m pc Ls (.int x :: rest)) := by
  subst hp
  exact k.back fun _ kt => XS.i2s X.here hx rfl hd rfl kt
theorem Run.i2c (X : Stand p l e R s m args below meth c T locs cells slots) (hx : p.tables.exec = Jvm.exec) {x : Int32} (hd : decode c.code pc = .ok (.i2c, 1)) (hp : pc + 1 = pc') (k : Run p.tables e below Φ T (mkF m pc' Ls (.int (x.toUInt32.toUInt16.toUInt32.toInt32) :: rest))) : Run p.tables e below Φ T (mkF m pc Ls (.int x :: rest)) := by
  subst hp
  exact k.back fun _ kt => XS.i2c X.here hx rfl hd rfl kt
theorem Run.ineg (X : Stand p l e R s m args below meth c T locs cells slots) (hx : p.tables.exec = Jvm.exec) {x : Int32} (hd : decode c.code pc = .ok (.ineg, 1)) (hp : pc + 1 = pc') (k : Run p.tables e below Φ T (mkF m pc' Ls (.int (-x) :: rest))) : Run p.tables e below Φ T (mkF m pc Ls (.int x :: rest)) := by
  subst hp
  exact k.back fun _ kt => XS.ineg X.here hx rfl hd rfl kt
theorem Run.lcmp (X : Stand p l e R s m args below meth c T locs cells slots) (hx : p.tables.exec = Jvm.exec) {x y : Int64} (hd : decode c.code pc = .ok (.lcmp, 1)) (hp : pc + 1 = pc') (k : Run p.tables e below Φ T (mkF m pc' Ls (.int (lcmpW x y) :: rest))) : Run p.tables e below Φ T (mkF m pc Ls (.long y :: .long x :: rest)) := by
  subst hp
  exact k.back fun _ kt => XS.lcmp X.here hx rfl hd rfl kt
theorem Run.dup (X : Stand p l e R s m args below meth c T locs cells slots) (hx : p.tables.exec = Jvm.exec) {x : Value} (hd : decode c.code pc = .ok (.dup, 1)) (hc : x.category = 1) (hp : pc + 1 = pc') (k : Run p.tables e below Φ T (mkF m pc' Ls (x :: x :: rest))) : Run p.tables e below Φ T (mkF m pc Ls (x :: rest)) := by
  subst hp
  exact k.back fun _ kt => XS.dup X.here hx rfl hd rfl hc kt
theorem Run.dupX1 (X : Stand p l e R s m args below meth c T locs cells slots) (hx : p.tables.exec = Jvm.exec) {x y : Value} (hd : decode c.code pc = .ok (.dup_x1, 1)) (hc : x.category = 1) (hc2 : y.category = 1) (hp : pc + 1 = pc') (k : Run p.tables e below Φ T (mkF m pc' Ls (x :: y :: x :: rest))) : Run p.tables e below Φ T (mkF m pc Ls (x :: y :: rest)) := by
  subst hp
  exact k.back fun _ kt => XS.dupX1 X.here hx rfl hd rfl hc hc2 kt
theorem Run.pop (X : Stand p l e R s m args below meth c T locs cells slots) (hx : p.tables.exec = Jvm.exec) {x : Value} (hd : decode c.code pc = .ok (.pop, 1)) (hc : x.category = 1) (hp : pc + 1 = pc') (k : Run p.tables e below Φ T (mkF m pc' Ls rest)) : Run p.tables e below Φ T (mkF m pc Ls (x :: rest)) := by
  subst hp
  exact k.back fun _ kt => XS.pop X.here hx rfl hd rfl hc kt
theorem Run.iinc (X : Stand p l e R s m args below meth c T locs cells slots) (hx : p.tables.exec = Jvm.exec) {n : Nat} {i : Int} {v w : Int32} {l' : Array Slot} (hd : decode c.code pc = .ok (.iinc n i, 3)) (hl : Ls[n]? = some (.val (.int v))) (hv : Int32.ofInt i = w) (hl' : storeLocals Ls n (.int (v + w)) = some l') (hp : pc + 3 = pc') (k : Run p.tables e below Φ T (mkF m pc' l' rest)) : Run p.tables e below Φ T (mkF m pc Ls rest) := by
  subst hp
  exact k.back fun _ kt => XS.iinc X.here hx rfl hd hl (by rw [hv]; exact hl') kt
theorem Run.goto (X : Stand p l e R s m args below meth c T locs cells slots) (hx : p.tables.exec = Jvm.exec) {o : Int} (hd : decode c.code pc = .ok (.goto o, 3)) (ho : 0 ≤ (pc : Int) + o) (hp : ((pc : Int) + o).toNat = pc') (k : Run p.tables e below Φ T (mkF m pc' Ls rest)) : Run p.tables e below Φ T (mkF m pc Ls rest) := k.back fun _ kt => XS.goto X.here hx rfl rfl hd ho hp kt
theorem Run.ifYes (X : Stand p l e R s m args below meth c T locs cells slots) (hx : p.tables.exec = Jvm.exec) {cd : ClassFile.Cond} {o : Int} {x : Int32} (hd : decode c.code pc = .ok (.ifCond cd o, 3)) (hc : ifCond.holds cd x = true) (ho : 0 ≤ (pc : Int) + o) (hp : ((pc : Int) + o).toNat = pc') (k : Run p.tables e below Φ T (mkF m pc' Ls rest)) : Run p.tables e below Φ T (mkF m pc Ls (.int x :: rest)) := k.back fun _ kt => XS.ifYes X.here hx rfl rfl hd rfl hc ho hp kt
theorem Run.ifNo (X : Stand p l e R s m args below meth c T locs cells slots) (hx : p.tables.exec = Jvm.exec) {cd : ClassFile.Cond} {o : Int} {x : Int32} (hd : decode c.code pc = .ok (.ifCond cd o, 3)) (hc : ifCond.holds cd x = false) (hp : pc + 3 = pc') (k : Run p.tables e below Φ T (mkF m pc' Ls rest)) : Run p.tables e below Φ T (mkF m pc Ls (.int x :: rest)) := by
  subst hp
  exact k.back fun _ kt => XS.ifNo X.here hx rfl hd rfl hc kt
theorem Run.icmpYes (X : Stand p l e R s m args below meth c T locs cells slots) (hx : p.tables.exec = Jvm.exec) {cd : ClassFile.Cond} {o : Int} {x y : Int32} (hd : decode c.code pc = .ok (.if_icmp cd o, 3)) (hc : if_icmp.holds cd x y = true) (ho : 0 ≤ (pc : Int) + o) (hp : ((pc : Int) + o).toNat = pc') (k : Run p.tables e below Φ T (mkF m pc' Ls rest)) : Run p.tables e below Φ T (mkF m pc Ls (.int y :: .int x :: rest)) := k.back fun _ kt => XS.icmpYes X.here hx rfl rfl hd rfl hc ho hp kt
theorem Run.icmpNo (X : Stand p l e R s m args below meth c T locs cells slots) (hx : p.tables.exec = Jvm.exec) {cd : ClassFile.Cond} {o : Int} {x y : Int32} (hd : decode c.code pc = .ok (.if_icmp cd o, 3)) (hc : if_icmp.holds cd x y = false) (hp : pc + 3 = pc') (k : Run p.tables e below Φ T (mkF m pc' Ls rest)) : Run p.tables e below Φ T (mkF m pc Ls (.int y :: .int x :: rest)) := by
  subst hp
  exact k.back fun _ kt => XS.icmpNo X.here hx rfl hd rfl hc kt
theorem Run.acmpYes (X : Stand p l e R s m args below meth c T locs cells slots) (hx : p.tables.exec = Jvm.exec) {cd : ACond} {o : Int} {a b : Addr} (hd : decode c.code pc = .ok (.if_acmp cd o, 3)) (hc : if_acmp.holds cd (some a) (some b) = true) (ho : 0 ≤ (pc : Int) + o) (hp : ((pc : Int) + o).toNat = pc') (k : Run p.tables e below Φ T (mkF m pc' Ls rest)) : Run p.tables e below Φ T (mkF m pc Ls (.ref b :: .ref a :: rest)) := k.back fun _ kt => XS.acmpYes X.here hx rfl rfl hd rfl hc ho hp kt
theorem Run.acmpNo (X : Stand p l e R s m args below meth c T locs cells slots) (hx : p.tables.exec = Jvm.exec) {cd : ACond} {o : Int} {a b : Addr} (hd : decode c.code pc = .ok (.if_acmp cd o, 3)) (hc : if_acmp.holds cd (some a) (some b) = false) (hp : pc + 3 = pc') (k : Run p.tables e below Φ T (mkF m pc' Ls rest)) : Run p.tables e below Φ T (mkF m pc Ls (.ref b :: .ref a :: rest)) := by
  subst hp
  exact k.back fun _ kt => XS.acmpNo X.here hx rfl hd rfl hc kt
theorem own_acmpEqT {a b : Addr} (h : a = b) : if_acmp.holds .eq (some a) (some b) = true := by subst h; simp [if_acmp.holds]
theorem own_acmpEqF {a b : Addr} (h : ¬ a = b) : if_acmp.holds .eq (some a) (some b) = false := by simp [if_acmp.holds, h]
theorem own_acmpNeT {a b : Addr} (h : a = b) : if_acmp.holds .ne (some a) (some b) = false := by subst h; simp [if_acmp.holds]
theorem own_acmpNeF {a b : Addr} (h : ¬ a = b) : if_acmp.holds .ne (some a) (some b) = true := by simp [if_acmp.holds, h]
theorem Run.ldcInt (X : Stand p l e R s m args below meth c T locs cells slots) (hx : p.tables.exec = Jvm.exec) {own : String} {index : Nat} {v : Int32} (hown : s.vm.findClass own = some m.cls) (hconst : (Cond.constant own index v).before args s = true) (hd : decode c.code pc = .ok (.ldc index, 2)) (hp : pc + 2 = pc') (k : Run p.tables e below Φ T (mkF m pc' Ls (.int v :: rest))) : Run p.tables e below Φ T (mkF m pc Ls rest) := by
  subst hp
  exact k.back fun _ kt => X.ldcInt hx hown hconst (g := mkF m pc Ls rest) rfl hd _ kt
theorem Run.ldc2Long (X : Stand p l e R s m args below meth c T locs cells slots) (hx : p.tables.exec = Jvm.exec) {own : String} {index : Nat} {v : Int64} (hown : s.vm.findClass own = some m.cls) (hconst : (Cond.constantLong own index v).before args s = true) (hd : decode c.code pc = .ok (.ldc2_w index, 3)) (hp : pc + 3 = pc') (k : Run p.tables e below Φ T (mkF m pc' Ls (.long v :: rest))) : Run p.tables e below Φ T (mkF m pc Ls rest) := by
  subst hp
  exact k.back fun _ kt => X.ldc2Long hx hown hconst (g := mkF m pc Ls rest) rfl hd _ kt
theorem Run.switchHit (X : Stand p l e R s m args below meth c T locs cells slots) (hx : p.tables.exec = Jvm.exec) {default : Int} {pairs : Array (Int × Int)} {len : Nat} {a off : Int} {z : Int32} (hd : decode c.code pc = .ok (.lookupswitch default pairs, len)) (hs : (pairs.toList.zip (pairs.toList.drop 1)).all (fun (a, next) => a.1 < next.1) = true) (hf : pairs.find? (·.1 == z.toInt) = some (a, off)) (ho : 0 ≤ (pc : Int) + off) (hp : ((pc : Int) + off).toNat = pc') (k : Run p.tables e below Φ T (mkF m pc' Ls rest)) : Run p.tables e below Φ T (mkF m pc Ls (.int z :: rest)) := by
  subst hp
  exact k.back fun _ kt => X.lookupswitchHit hx (g := mkF m pc Ls (.int z :: rest)) rfl rfl hd hs hf ho _ kt
theorem Run.switchMiss (X : Stand p l e R s m args below meth c T locs cells slots) (hx : p.tables.exec = Jvm.exec) {default : Int} {pairs : Array (Int × Int)} {len : Nat} {z : Int32} (hd : decode c.code pc = .ok (.lookupswitch default pairs, len)) (hs : (pairs.toList.zip (pairs.toList.drop 1)).all (fun (a, next) => a.1 < next.1) = true) (hf : pairs.find? (·.1 == z.toInt) = none) (ho : 0 ≤ (pc : Int) + default) (hp : ((pc : Int) + default).toNat = pc') (k : Run p.tables e below Φ T (mkF m pc' Ls rest)) : Run p.tables e below Φ T (mkF m pc Ls (.int z :: rest)) := by
  subst hp
  exact k.back fun _ kt => X.lookupswitchMiss hx (g := mkF m pc Ls (.int z :: rest)) rfl rfl hd hs hf ho _ kt
/-- a body that writes nothing returns r -/
abbrev QPure (n0 : Nat) (h0 : Heap) (r : Value) : Option Value → Heap → List Loc → Prop := fun v h L => v = some r ∧ Fr n0 L ∧ h = h0
theorem Run.retInt (X : Stand p l e R s m args below meth c T locs cells slots) (hx : p.tables.exec = Jvm.exec) {K N : Nat} {Q : Option Value → Heap → List Loc → Prop} {z : Int32} (hlk : meth.locks = false) (hret : meth.sig.returnType = some .int) (hd : decode c.code pc = .ok (.ireturn, 1)) (hQ : Q (some (.int z)) T.heap locs) (hc : cells ≤ K) (hn : slots ≤ N) : Run p.tables e below (FinR s K N Q) T (mkF m pc Ls (.int z :: rest)) := by
  obtain ⟨fs, hr, hrun, hended, hW, hsame⟩ := X.leave (v := (some (.int z))) (fun h => by rw [hret] at h; cases h) hlk
  exact ⟨_, _, retOut X hx hret rfl (Or.inl ⟨rfl, Or.inl rfl, z, rfl⟩) hd hr, hrun, hended, _, _, rfl, hQ, ⟨_, rfl⟩, hW, hsame.mono hc hn⟩
theorem Run.retLong (X : Stand p l e R s m args below meth c T locs cells slots) (hx : p.tables.exec = Jvm.exec) {K N : Nat} {Q : Option Value → Heap → List Loc → Prop} {z : Int64} (hlk : meth.locks = false) (hret : meth.sig.returnType = some .long) (hd : decode c.code pc = .ok (.lreturn, 1)) (hQ : Q (some (.long z)) T.heap locs) (hc : cells ≤ K) (hn : slots ≤ N) : Run p.tables e below (FinR s K N Q) T (mkF m pc Ls (.long z :: rest)) := by
  obtain ⟨fs, hr, hrun, hended, hW, hsame⟩ := X.leave (v := (some (.long z))) (fun h => by rw [hret] at h; cases h) hlk
  exact ⟨_, _, retOut X hx hret rfl (Or.inr (Or.inl ⟨rfl, rfl, z, rfl⟩)) hd hr, hrun, hended, _, _, rfl, hQ, ⟨_, rfl⟩, hW, hsame.mono hc hn⟩
theorem Run.retRef (X : Stand p l e R s m args below meth c T locs cells slots) (hx : p.tables.exec = Jvm.exec) {K N : Nat} {Q : Option Value → Heap → List Loc → Prop} {z : Addr} {t : FieldType} (hlk : meth.locks = false) (hret : meth.sig.returnType = some t) (ht : t.isReference = true) (hnr : narrow t (.ref z) = .ref z) (hd : decode c.code pc = .ok (.areturn, 1)) (hQ : Q (some (.ref z)) T.heap locs) (hc : cells ≤ K) (hn : slots ≤ N) : Run p.tables e below (FinR s K N Q) T (mkF m pc Ls (.ref z :: rest)) := by
  obtain ⟨fs, hr, hrun, hended, hW, hsame⟩ := X.leave (v := (some (.ref z))) (fun h => by rw [hret] at h; cases h) hlk
  exact ⟨_, _, retOut X hx hret hnr (Or.inr (Or.inr (Or.inr (Or.inr ⟨rfl, ht, rfl⟩)))) hd hr, hrun, hended, _, _, rfl, hQ, ⟨_, rfl⟩, hW, hsame.mono hc hn⟩
theorem Run.retSmall (X : Stand p l e R s m args below meth c T locs cells slots) (hx : p.tables.exec = Jvm.exec) {K N : Nat} {Q : Option Value → Heap → List Loc → Prop} {z z' : Int32} {t : FieldType} (hlk : meth.locks = false) (hret : meth.sig.returnType = some t) (ht : t = .boolean ∨ t = .byte ∨ t = .char ∨ t = .short) (hz : nar t z = z') (hd : decode c.code pc = .ok (.ireturn, 1)) (hQ : Q (some (.int z')) T.heap locs) (hc : cells ≤ K) (hn : slots ≤ N) : Run p.tables e below (FinR s K N Q) T (mkF m pc Ls (.int z :: rest)) := by
  obtain ⟨fs, hr, hrun, hended, hW, hsame⟩ := X.leave (v := (some (.int z'))) (fun h => by rw [hret] at h; cases h) hlk
  exact ⟨_, _, RoadKit.retN X hx hret ht hd (by rw [hz]; exact hr), hrun, hended, _, _, rfl, hQ, ⟨_, rfl⟩, hW, hsame.mono hc hn⟩
theorem Run.retVoid (X : Stand p l e R s m args below meth c T locs cells slots) (hx : p.tables.exec = Jvm.exec) {K N : Nat} {Q : Option Value → Heap → List Loc → Prop} (hlk : meth.locks = false) (hret : meth.sig.returnType = none) (hd : decode c.code pc = .ok (.return_, 1)) (hQ : Q none T.heap locs) (hc : cells ≤ K) (hn : slots ≤ N) : Run p.tables e below (FinR s K N Q) T (mkF m pc Ls []) := by
  obtain ⟨fs, hr, hrun, hended, hW, hsame⟩ := X.leave (v := none) (fun _ => rfl) hlk
  exact ⟨_, _, X.returnOut hx hret hd hr, hrun, hended, _, _, rfl, hQ, ⟨_, rfl⟩, hW, hsame.mono hc hn⟩
theorem callStatic (X : Stand p l e R s m args below meth c T locs cells slots) (hx : p.tables.exec = Jvm.exec) {a0 : Array Value} {Z : State} {h : Heap} {own : String} {index : Nat} {bytes : ByteArray} {maxL : Nat} {ret : Option FieldType} {rm : Room} {W : Nat} {Qc : Option Value → Heap → List Loc → Prop} {y : MethodName} {argsL : List Value} (hZ : Z.Warmed39 s.vm) (hown : s.vm.findClass own = some m.cls) (w1 : (Cond.methodLink own index y).before a0 Z = true) (w2 : (Cond.static y).before a0 Z = true) (w3 : (Cond.initialized y.cls).before a0 Z = true) (w4 : (Cond.code y bytes maxL ret).before a0 Z = true) (hy : y.cls ≠ "java/lang/invoke/MethodHandle" ∧ y.cls ≠ "java/lang/invoke/VarHandle") (eT : T.heap = h) (hM : MetFree l y (head1 [Cond.code y bytes maxL ret] rm) (fun av U => av = argsL.toArray ∧ Z.Warmed39 U.vm ∧ U.heap = h) (fun _ _ _ _ _ => True) (fun _ U o U' => ∃ v L, o = .returned v ∧ Qc v U'.heap L ∧ FrameEnd U o U' L rm.cells rm.slots)) (hd : decode c.code pc = .ok (.invokestatic index, 3)) (hlen : ∀ sig, parseMethodDescriptor y.desc = some sig → argsL.length = sig.parameters.length) (hf : rm.frames + 1 ≤ R.frames) (hl : W + (maxL + 11) + rm.locals ≤ R.locals) (hsize : Ls.size = c.maxLocals) (hW : (rest.map fun v => v.category).sum ≤ W) (hcs : cells + rm.cells ≤ R.cells) (hss : slots + rm.slots ≤ R.slots) :
    ∃ (T' : State) (L : List Loc) (v : Option Value), Stand p l e R s m args below meth c T' (locs ++ L) (cells + rm.cells) (slots + rm.slots) ∧ Qc v T'.heap L ∧ ∀ t, Steps p.tables e below (T'.setTop (mkF m (pc + 3) Ls (v.toList ++ rest))) t → Steps p.tables e below (T.setTop (mkF m pc Ls (argsL.reverse ++ rest))) t := by
  obtain ⟨v, vm, ⟨T', L', k', n'⟩, -, X', ⟨L, hQ, l1, l2, l3⟩, st⟩ := Jvm.LawKit.callS X hx (y := y) hown (mvT hZ w1) (mvT hZ w2) (mvT hZ w3) (mvT hZ w4) hy (backOf (W := W) hM hZ w4 w3 hf hl) (g := mkF m pc Ls (argsL.reverse ++ rest)) rfl hsize (argsL := argsL) (rest := rest) hlen rfl (by show 2 * 0 + _ ≤ _; omega) hd (fun _ _ => ⟨rfl, eT, hcs, hss⟩)
  dsimp only [Pt.U, Pt.locs, Pt.cells, Pt.slots] at X' hQ l1 l2 l3 st
  subst l1 l2 l3
  exact ⟨T', L, v, X', hQ, st⟩
theorem callSpecial (X : Stand p l e R s m args below meth c T locs cells slots) (hx : p.tables.exec = Jvm.exec) {a0 : Array Value} {Z : State} {h : Heap} {own : String} {index : Nat} {bytes : ByteArray} {maxL : Nat} {rm : Room} {W : Nat} {Qc : Option Value → Heap → List Loc → Prop} {y : MethodName} {a : Addr} {argsL : List Value} (hy1 : y.name = "<init>") (hZ : Z.Warmed39 s.vm) (hown : s.vm.findClass own = some m.cls) (w1 : (Cond.methodLink own index y).before a0 Z = true) (w2 : (Cond.instanceMethod y).before a0 Z = true) (w3 : (Cond.initialized y.cls).before a0 Z = true) (w4 : (Cond.code y bytes maxL none).before a0 Z = true) (hy : y.cls ≠ "java/lang/invoke/MethodHandle" ∧ y.cls ≠ "java/lang/invoke/VarHandle") (eT : T.heap = h) (hM : MetFree l y (head1 [Cond.code y bytes maxL none] rm) (fun av U => av = (.ref a :: argsL).toArray ∧ Z.Warmed39 U.vm ∧ U.heap = h) (fun _ _ _ _ _ => True) (fun _ U o U' => ∃ v L, o = .returned v ∧ Qc v U'.heap L ∧ FrameEnd U o U' L rm.cells rm.slots)) (hd : decode c.code pc = .ok (.invokespecial index, 3)) (hlen : ∀ sig, parseMethodDescriptor y.desc = some sig → argsL.length = sig.parameters.length) (hf : rm.frames + 1 ≤ R.frames) (hl : W + (maxL + 11) + rm.locals ≤ R.locals) (hsize : Ls.size = c.maxLocals) (hW : (rest.map fun v => v.category).sum ≤ W) (hcs : cells + rm.cells ≤ R.cells) (hss : slots + rm.slots ≤ R.slots) :
    ∃ (T' : State) (L : List Loc) (v : Option Value), Stand p l e R s m args below meth c T' (locs ++ L) (cells + rm.cells) (slots + rm.slots) ∧ Qc v T'.heap L ∧ ∀ t, Steps p.tables e below (T'.setTop (mkF m (pc + 3) Ls (v.toList ++ rest))) t → Steps p.tables e below (T.setTop (mkF m pc Ls (argsL.reverse ++ .ref a :: rest))) t := by
  obtain ⟨v, vm, ⟨T', L', k', n'⟩, -, X', ⟨L, hQ, l1, l2, l3⟩, st⟩ := X.specialBack hx (y := y) hy1 hown (mvT hZ w1) (mvT hZ w2) (mvT hZ w4) hy (backOf (W := W) hM hZ w4 w3 hf hl) (g := mkF m pc Ls (argsL.reverse ++ .ref a :: rest)) rfl hsize (Steps.refl _) (a := a) (argsL := argsL) (rest := rest) hlen rfl (by show 2 * 0 + _ ≤ _; omega) hd (fun _ _ => ⟨rfl, eT, hcs, hss⟩)
  dsimp only [Pt.U, Pt.locs, Pt.cells, Pt.slots] at X' hQ l1 l2 l3 st
  subst l1 l2 l3
  exact ⟨T', L, v, X', hQ, fun t kt => st.trans kt⟩
theorem callVirtual (X : Stand p l e R s m args below meth c T locs cells slots) (hx : p.tables.exec = Jvm.exec) {a0 : Array Value} {Z : State} {h : Heap} {own : String} {index : Nat} {bytes : ByteArray} {maxL : Nat} {ret : Option FieldType} {rm : Room} {W : Nat} {Qc : Option Value → Heap → List Loc → Prop} {y z : MethodName} {C : String} {a : Addr} {argsL : List Value} (hZ : Z.Warmed39 s.vm) (hown : s.vm.findClass own = some m.cls) (w1 : (Cond.methodLink own index y).before a0 Z = true) (w2 : (Cond.declares y).before a0 Z = true) (hnf : NotFace s y) (w5 : (Cond.selects C y z).before a0 Z = true) (w6 : (Cond.instanceMethod z).before a0 Z = true) (w3 : (Cond.initialized z.cls).before a0 Z = true) (w4 : (Cond.code z bytes maxL ret).before a0 Z = true) (hy : y.cls ≠ "java/lang/invoke/MethodHandle" ∧ y.cls ≠ "java/lang/invoke/VarHandle") (eT : T.heap = h) (E : Exa Z h a C) (hM : MetFree l z (head1 [Cond.code z bytes maxL ret] rm) (fun av U => av = (.ref a :: argsL).toArray ∧ Z.Warmed39 U.vm ∧ U.heap = h) (fun _ _ _ _ _ => True) (fun _ U o U' => ∃ v L, o = .returned v ∧ Qc v U'.heap L ∧ FrameEnd U o U' L rm.cells rm.slots)) (hd : decode c.code pc = .ok (.invokevirtual index, 3)) (hlen : ∀ sig, parseMethodDescriptor y.desc = some sig → argsL.length = sig.parameters.length) (hf : rm.frames + 1 ≤ R.frames) (hl : W + (maxL + 11) + rm.locals ≤ R.locals) (hsize : Ls.size = c.maxLocals) (hW : (rest.map fun v => v.category).sum ≤ W) (hcs : cells + rm.cells ≤ R.cells) (hss : slots + rm.slots ≤ R.slots) :
    ∃ (T' : State) (L : List Loc) (v : Option Value), Stand p l e R s m args below meth c T' (locs ++ L) (cells + rm.cells) (slots + rm.slots) ∧ Qc v T'.heap L ∧ ∀ t, Steps p.tables e below (T'.setTop (mkF m (pc + 3) Ls (v.toList ++ rest))) t → Steps p.tables e below (T.setTop (mkF m pc Ls (argsL.reverse ++ .ref a :: rest))) t := by
  obtain ⟨cB, kB, qa, -, qc⟩ := isOf hZ eT E
  obtain ⟨v, vm, ⟨T', L', k', n'⟩, -, X', ⟨L, hQ, l1, l2, l3⟩, st⟩ := X.virtualBack hx (y := y) (z := z) hown (mvT hZ w1) (mvT hZ w2) hnf (mvT hZ w5) (mvT hZ w6) hy (backOf (W := W) hM hZ w4 w3 hf hl) qa qc (g := mkF m pc Ls (argsL.reverse ++ .ref a :: rest)) rfl hsize (Steps.refl _) (argsL := argsL) (rest := rest) hlen rfl (by show 2 * 0 + _ ≤ _; omega) hd (fun _ _ => ⟨rfl, eT, hcs, hss⟩)
  dsimp only [Pt.U, Pt.locs, Pt.cells, Pt.slots] at X' hQ l1 l2 l3 st
  subst l1 l2 l3
  exact ⟨T', L, v, X', hQ, fun t kt => st.trans kt⟩
end Steps
section Arrays
variable {Z : State} {h h' : Heap} {a b : Addr} {ty : FieldType} {n : Int32} {f : Int32 → Int32} {sl : Nat} {v : Value} {ws : List Addr}
/-- the array at a: of kind ty, n places, the place j holds the int f j -/
def Ints (Z : State) (h : Heap) (a : Addr) (ty : FieldType) (n : Int32) (f : Int32 → Int32) : Prop := ∃ cl : Cell, Arr Z h a cl ty ∧ cl.slots.size = n.toNatClampNeg ∧ ¬ n < 0 ∧ ∀ j : Int32, ¬ j < 0 → j < n → cl.slots[j.toNatClampNeg]? = some (.int (f j))
theorem Ints.lt (F : Ints Z h a ty n f) : a < h.size := by obtain ⟨_, A, -⟩ := F; exact A.lt
theorem Ints.ext (E : Ext h h') (F : Ints Z h a ty n f) : Ints Z h' a ty n f := by obtain ⟨c, A, r⟩ := F; exact ⟨c, A.ext E, r⟩
theorem Ints.other (W : Wr h h' b sl v) (F : Ints Z h a ty n f) (q : a ≠ b) : Ints Z h' a ty n f := by obtain ⟨c, A, r⟩ := F; exact ⟨c, A.other W q, r⟩
theorem Ints.keep (F : Ints Z h a ty n f) (K : Keep h h' ws) (q : a ∉ ws) : Ints Z h' a ty n f := by obtain ⟨c, A, r⟩ := F; exact ⟨c, ⟨K.2.1 a c A.1 q, A.2⟩, r⟩
theorem Ints.inb {cl : Cell} (S : cl.slots.size = n.toNatClampNeg) {j : Int32} (h1 : ¬ j < 0) (h2 : j < n) : ¬ (j < 0 ∨ cl.slots.size ≤ j.toNatClampNeg) := inb_of S ⟨h1, h2⟩
theorem nat_inj {i j : Int32} (hi : ¬ i < 0) (hj : ¬ j < 0) (q : i.toNatClampNeg = j.toNatClampNeg) : i = j := Int32.toInt_inj.mp (by rw [nat_of hi, nat_of hj, q])
theorem Ints.set {j : Int32} {x : Int32} {cl : Cell} (A : Arr Z h a cl ty) (S : cl.slots.size = n.toNatClampNeg) (hn : ¬ n < 0) (H : ∀ j : Int32, ¬ j < 0 → j < n → cl.slots[j.toNatClampNeg]? = some (.int (f j))) (h1 : ¬ j < 0) (h2 : j < n) (W : Wr h h' a j.toNatClampNeg (.int x)) : Ints Z h' a ty n (fun i => if i = j then x else f i) := by
  refine ⟨_, A.same W, by rw [← S]; simp [Cell.setSlot], hn, fun i hi hi2 => ?_⟩
  have hlt : i.toNatClampNeg < cl.slots.size := Nat.lt_of_not_le fun q => inb_of S ⟨hi, hi2⟩ (Or.inr q)
  by_cases e : i = j
  · subst e; simp [Cell.setSlot, hlt]
  · have hne : j.toNatClampNeg ≠ i.toNatClampNeg := fun q => e (nat_inj hi h1 q.symm)
    simp only [if_neg e]
    rw [← H i hi hi2]
    simp [Cell.setSlot, Array.getElem?_setIfInBounds_ne hne]
theorem Ints.new {k : ClassId} (A : Arr Z h a (newA k ty n) ty) (hn : ¬ n < 0) (hd : defaultValue ty = .int 0) : Ints Z h a ty n (fun _ => 0) := by
  obtain ⟨cl, A', -, S, -, H, -⟩ := Arv.new A hn
  exact ⟨cl, A', S, hn, fun j h1 h2 => by rw [H _ (Nat.lt_of_not_le fun q => inb_of S ⟨h1, h2⟩ (Or.inr q))]; simp [hd]⟩
theorem Ints.congr {g : Int32 → Int32} (F : Ints Z h a ty n f) (q : ∀ j : Int32, ¬ j < 0 → j < n → f j = g j) : Ints Z h a ty n g := by
  obtain ⟨cl, A, S, hn, H⟩ := F
  exact ⟨cl, A, S, hn, fun j h1 h2 => by rw [← q j h1 h2]; exact H j h1 h2⟩
end Arrays
section ArraySteps
variable {p : Program} {l : Launch} {e : Env} {R : Room} {s : State} {m : MethodId} {args : Array Value} {below : List Frame} {meth : Method} {c : Code} {T : State} {locs : List Loc} {cells slots : Nat} {Φ : Outcome → State → Prop} {pc pc' : Nat} {Ls : Array Slot} {rest : List Value} {Z : State} {h : Heap} {a : Addr} {n j : Int32} {f : Int32 → Int32}
theorem Run.iaload (X : Stand p l e R s m args below meth c T locs cells slots) (hx : p.tables.exec = Jvm.exec) (hZ : Z.Warmed39 s.vm) (eT : T.heap = h) (F : Ints Z h a .int n f) (h1 : ¬ j < 0) (h2 : j < n) (hd : decode c.code pc = .ok (.iaload, 1)) (hp : pc + 1 = pc') (k : Run p.tables e below Φ T (mkF m pc' Ls (.int (f j) :: rest))) : Run p.tables e below Φ T (mkF m pc Ls (.int j :: .ref a :: rest)) := by
  subst hp
  obtain ⟨cl, A, S, hn, H⟩ := F
  exact k.back fun _ kt => X.iaload hx (by rw [eT]; exact A.1) (State.isArrayOf_alike hZ.alike A.2.1) A.2.2 (inb_of S ⟨h1, h2⟩) (H j h1 h2) (g := mkF m pc Ls (.int j :: .ref a :: rest)) rfl rfl hd _ kt
theorem Run.baload (X : Stand p l e R s m args below meth c T locs cells slots) (hx : p.tables.exec = Jvm.exec) (hZ : Z.Warmed39 s.vm) (eT : T.heap = h) (F : Ints Z h a .byte n f) (h1 : ¬ j < 0) (h2 : j < n) (hd : decode c.code pc = .ok (.baload, 1)) (hp : pc + 1 = pc') (k : Run p.tables e below Φ T (mkF m pc' Ls (.int (f j) :: rest))) : Run p.tables e below Φ T (mkF m pc Ls (.int j :: .ref a :: rest)) := by
  subst hp
  obtain ⟨cl, A, S, hn, H⟩ := F
  exact k.back fun _ kt => X.baloadBytes hx (by rw [eT]; exact A.1) (State.isArrayOf_alike hZ.alike A.2.1) A.2.2 (inb_of S ⟨h1, h2⟩) (H j h1 h2) (g := mkF m pc Ls (.int j :: .ref a :: rest)) rfl rfl hd _ kt
theorem Run.zaload (X : Stand p l e R s m args below meth c T locs cells slots) (hx : p.tables.exec = Jvm.exec) (hZ : Z.Warmed39 s.vm) (eT : T.heap = h) (F : Ints Z h a .boolean n f) (h1 : ¬ j < 0) (h2 : j < n) (hd : decode c.code pc = .ok (.baload, 1)) (hp : pc + 1 = pc') (k : Run p.tables e below Φ T (mkF m pc' Ls (.int (f j) :: rest))) : Run p.tables e below Φ T (mkF m pc Ls (.int j :: .ref a :: rest)) := by
  subst hp
  obtain ⟨cl, A, S, hn, H⟩ := F
  exact k.back fun _ kt => X.baloadBooleans hx (by rw [eT]; exact A.1) (State.isArrayOf_alike hZ.alike A.2.1) A.2.2 (inb_of S ⟨h1, h2⟩) (H j h1 h2) (g := mkF m pc Ls (.int j :: .ref a :: rest)) rfl rfl hd _ kt
theorem Run.arraylength (X : Stand p l e R s m args below meth c T locs cells slots) (hx : p.tables.exec = Jvm.exec) {ty : FieldType} (hZ : Z.Warmed39 s.vm) (eT : T.heap = h) (F : Ints Z h a ty n f) (hd : decode c.code pc = .ok (.arraylength, 1)) (hp : pc + 1 = pc') (k : Run p.tables e below Φ T (mkF m pc' Ls (.int n :: rest))) : Run p.tables e below Φ T (mkF m pc Ls (.ref a :: rest)) := by
  subst hp
  obtain ⟨cl, A, S, hn, H⟩ := F
  rw [← len_of S hn] at k
  exact k.back fun _ kt => X.arraylength hx (by rw [eT]; exact A.1) (State.isArrayOf_alike hZ.alike A.2.1) (g := mkF m pc Ls (.ref a :: rest)) rfl rfl hd _ kt
theorem st_iastore (X : Stand p l e R s m args below meth c T locs cells slots) (hx : p.tables.exec = Jvm.exec) {x : Int32} (hZ : Z.Warmed39 s.vm) (eT : T.heap = h) (F : Ints Z h a .int n f) (h1 : ¬ j < 0) (h2 : j < n) (hd : decode c.code pc = .ok (.iastore, 1)) : ∃ T' h' sl v, Stand p l e R s m args below meth c T' (locs ++ [⟨a, sl⟩]) cells slots ∧ T'.heap = h' ∧ Wr h h' a sl v ∧ Ints Z h' a .int n (fun i => if i = j then x else f i) ∧ ∀ t, Steps p.tables e below (T'.setTop (mkF m (pc + 1) Ls rest)) t → Steps p.tables e below (T.setTop (mkF m pc Ls (.int x :: .int j :: .ref a :: rest))) t := by
  obtain ⟨cl, A, S, hn, H⟩ := F
  obtain ⟨T', h', X', e', W, st⟩ := stI X hx hZ eT A (j := j) (x := x) (inb_of S ⟨h1, h2⟩) (g := mkF m pc Ls (.int x :: .int j :: .ref a :: rest)) rfl rfl hd
  exact ⟨T', h', _, _, X', e', W, Ints.set A S hn H h1 h2 W, st⟩
theorem st_bastore (X : Stand p l e R s m args below meth c T locs cells slots) (hx : p.tables.exec = Jvm.exec) {x : Int32} (hZ : Z.Warmed39 s.vm) (eT : T.heap = h) (F : Ints Z h a .byte n f) (h1 : ¬ j < 0) (h2 : j < n) (hd : decode c.code pc = .ok (.bastore, 1)) : ∃ T' h' sl v, Stand p l e R s m args below meth c T' (locs ++ [⟨a, sl⟩]) cells slots ∧ T'.heap = h' ∧ Wr h h' a sl v ∧ Ints Z h' a .byte n (fun i => if i = j then x.toInt8.toInt32 else f i) ∧ ∀ t, Steps p.tables e below (T'.setTop (mkF m (pc + 1) Ls rest)) t → Steps p.tables e below (T.setTop (mkF m pc Ls (.int x :: .int j :: .ref a :: rest))) t := by
  obtain ⟨cl, A, S, hn, H⟩ := F
  obtain ⟨T', h', X', e', W, st⟩ := stB X hx hZ eT A (j := j) (x := x) (inb_of S ⟨h1, h2⟩) (g := mkF m pc Ls (.int x :: .int j :: .ref a :: rest)) rfl rfl hd
  exact ⟨T', h', _, _, X', e', W, Ints.set A S hn H h1 h2 W, st⟩
theorem st_zastore (X : Stand p l e R s m args below meth c T locs cells slots) (hx : p.tables.exec = Jvm.exec) {x : Int32} (hZ : Z.Warmed39 s.vm) (eT : T.heap = h) (F : Ints Z h a .boolean n f) (h1 : ¬ j < 0) (h2 : j < n) (hd : decode c.code pc = .ok (.bastore, 1)) : ∃ T' h' sl v, Stand p l e R s m args below meth c T' (locs ++ [⟨a, sl⟩]) cells slots ∧ T'.heap = h' ∧ Wr h h' a sl v ∧ Ints Z h' a .boolean n (fun i => if i = j then x &&& 1 else f i) ∧ ∀ t, Steps p.tables e below (T'.setTop (mkF m (pc + 1) Ls rest)) t → Steps p.tables e below (T.setTop (mkF m pc Ls (.int x :: .int j :: .ref a :: rest))) t := by
  obtain ⟨cl, A, S, hn, H⟩ := F
  obtain ⟨T', h', X', e', W, st⟩ := stZ X hx hZ eT A (j := j) (x := x) (inb_of S ⟨h1, h2⟩) (g := mkF m pc Ls (.int x :: .int j :: .ref a :: rest)) rfl rfl hd
  exact ⟨T', h', _, _, X', e', W, Ints.set A S hn H h1 h2 W, st⟩
theorem st_newarray (X : Stand p l e R s m args below meth c T locs cells slots) (hx : p.tables.exec = Jvm.exec) {aty : ArrayType} {a0 : Array Value} (hZ : Z.Warmed39 s.vm) (w : (Cond.arrayClass (newarray.typeOf aty)).before a0 Z = true) (eT : T.heap = h) (hd : decode c.code pc = .ok (.newarray aty, 2)) (hn : ¬ n < 0) {cap : Nat} (hcap : n.toNatClampNeg ≤ cap) (hb : cap * 8 ≤ 536870912) (hc : cells + 1 ≤ R.cells) (hl : slots + cap ≤ R.slots) (hdef : defaultValue (newarray.typeOf aty) = .int 0) : ∃ T' h' b, Stand p l e R s m args below meth c T' locs (cells + 1) (slots + cap) ∧ T'.heap = h' ∧ Ext h h' ∧ b = h.size ∧ Ints Z h' b (newarray.typeOf aty) n (fun _ => 0) ∧ ∀ t, Steps p.tables e below (T'.setTop (mkF m (pc + 2) Ls (.ref b :: rest))) t → Steps p.tables e below (T.setTop (mkF m pc Ls (.int n :: rest))) t := by
  obtain ⟨T', h', cA, X', e', E, A, st⟩ := newP X hx hZ w eT (g := mkF m pc Ls (.int n :: rest)) rfl hd rfl hn hcap hb hc hl
  exact ⟨T', h', _, X', e', E, rfl, Ints.new A hn hdef, st⟩
end ArraySteps
section Table
variable {Z : State} {args : Array Value} {t : Term} {a : Addr} {c : Cell} {ty : FieldType} {n j : Int32}
theorem tab_ints {h : Heap} (F : Tab Z h a c ty n) : Ints Z h a ty n (atv c) := ⟨c, F.1, F.2.1, F.2.2.1, fun j h1 h2 => F.2.2.2 j (inb_of F.2.1 ⟨h1, h2⟩)⟩
theorem tab_all {q : Jvm.Cond} (et : ∀ idx, t.eval args Z none idx Z = some (.ref a)) (F : Tab Z Z.heap a c ty n) (h : (Jvm.Cond.all t q).value args Z none Z [] = some true) (h1 : ¬ j < 0) (h2 : j < n) : q.value args Z none Z [j.toNatClampNeg] = some true :=
  Jvm.Cond.all_elim (et []) (F.1.fin (Vm.Alike.refl _)) h _ (Nat.lt_of_not_le fun y => inb_of F.2.1 ⟨h1, h2⟩ (Or.inr y))
theorem tab_elem (et : ∀ idx, t.eval args Z none idx Z = some (.ref a)) (F : Tab Z Z.heap a c ty n) (h1 : ¬ j < 0) (h2 : j < n) : (Term.elem t (.index 0)).eval args Z none [j.toNatClampNeg] Z = some (.int (atv c j)) :=
  (elem_f (et _) (idx_at h1) (F.1.fin (Vm.Alike.refl _)) h1).trans (F.2.2.2 j (inb_of F.2.1 ⟨h1, h2⟩))
theorem tab_le {x v : Int32} (et : ∀ idx, t.eval args Z none idx Z = some (.ref a)) (F : Tab Z Z.heap a c ty n) (h : (Jvm.Cond.all t (.or (.le (.int x) (.index 0)) (.eq (.elem t (.index 0)) (.int v)))).value args Z none Z [] = some true) (j : Int32) (h1 : ¬ j < 0) (h2 : j < n) : x ≤ j ∨ atv c j = v :=
  or_e2 (Jvm.Cond.le_ints (Term.int_eval x) (idx_at h1)) (Jvm.Cond.eq_ints (tab_elem et F h1 h2) (Term.int_eval v)) (tab_all et F h h1 h2)
theorem tab_in {x y v : Int32} (et : ∀ idx, t.eval args Z none idx Z = some (.ref a)) (F : Tab Z Z.heap a c ty n) (h : (Jvm.Cond.all t (.or (.lt (.index 0) (.int x)) (.or (.le (.int y) (.index 0)) (.eq (.elem t (.index 0)) (.int v))))).value args Z none Z [] = some true) (j : Int32) (h1 : ¬ j < 0) (h2 : j < n) : j < x ∨ ¬ j < y ∨ atv c j = v :=
  or3 (tab_all et F h h1 h2) (Jvm.Cond.lt_ints (idx_at h1) (Term.int_eval x)) (Jvm.Cond.le_ints (Term.int_eval y) (idx_at h1)) (Jvm.Cond.eq_ints (tab_elem et F h1 h2) (Term.int_eval v))
theorem tab_one {k v : Int32} (et : ∀ idx, t.eval args Z none idx Z = some (.ref a)) (F : Tab Z Z.heap a c ty n) (h1 : ¬ k < 0) (h2 : k < n) (h : (Jvm.Cond.eq (.elem t (.int k)) (.int v)).value args Z none Z [] = some true) : atv c k = v := by
  have e := (elem_f (et []) (Term.int_eval (args := args) (first := Z) (o := none) (idx := []) (s := Z) k) (F.1.fin (Vm.Alike.refl _)) h1).trans (F.2.2.2 k (inb_of F.2.1 ⟨h1, h2⟩))
  have q := (Jvm.Cond.eq_ints e (Term.int_eval v)).symm.trans h
  simpa using q
theorem tab_ge {x v : Int32} (et : ∀ idx, t.eval args Z none idx Z = some (.ref a)) (F : Tab Z Z.heap a c ty n) (h : (Jvm.Cond.all t (.or (.lt (.index 0) (.int x)) (.eq (.elem t (.index 0)) (.int v)))).value args Z none Z [] = some true) (j : Int32) (h1 : ¬ j < 0) (h2 : j < n) : j < x ∨ atv c j = v :=
  or_e2 (Jvm.Cond.lt_ints (idx_at h1) (Term.int_eval x)) (Jvm.Cond.eq_ints (tab_elem et F h1 h2) (Term.int_eval v)) (tab_all et F h h1 h2)
theorem tab_start (hf : Fit Z) (et : t.eval args Z none [] Z = some (.ref a)) (A : Arr Z Z.heap a c ty) (hl : (Jvm.Cond.eq (Term.length t) (.int n)).value args Z none Z [] = some true) (ht : ty = .int ∨ ty = .boolean ∨ ty = .byte ∨ ty = .char ∨ ty = .short) (hn : ¬ n < 0) : Tab Z Z.heap a c ty n := by
  have e := eqv_i (Term.int_eval n) hl
  have ha : Z.arrayAt? a = some c := A.fin (Vm.Alike.refl _)
  by_cases q : c.slots.size < 2 ^ 31
  · have e2 := len_f et ha q
    exact Tab.start hf A ht q (by simpa using Option.some.inj (e2.symm.trans e)) hn
  · simp [Term.eval, et, ha, q] at e
theorem small_int (N : Nat) (hN : N < 2147483648) (P : Int32 → Prop) (H : ∀ k : Fin N, P (Int32.ofNat k.val)) (c : Int32) (h1 : ¬ c < 0) (h2 : c < Int32.ofNat N) : P c := by
  have e : c.toInt = (c.toNatClampNeg : Int) := nat_of h1
  have hc : Int32.ofNat c.toNatClampNeg = c := by
    apply Int32.toInt_inj.mp
    rw [Int32.toInt_ofNat_of_lt (by have := c.toInt_lt; omega), e]
  have h3 : c.toInt < (Int32.ofNat N).toInt := Int32.lt_iff_toInt_lt.mp h2
  rw [Int32.toInt_ofNat_of_lt (by omega)] at h3
  rw [← hc]
  exact H ⟨c.toNatClampNeg, by omega⟩
end Table
end Jvm.OwnRun

namespace Jvm.Pilot.@@N@@
open Jvm Jvm.ClassFile Sem Op Lib Jvm.Free Jvm.Stand Jvm.LawKit Jvm.RoadKit Jvm.OwnRun Bundle Jvm.Pilot.@@N@@.Jvm.D
theorem own_pd0 : parseMethodDescriptor "(II)I" = some ⟨[.int, .int], some .int⟩ := by decide +kernel
theorem own_pd1 : parseMethodDescriptor "([BI)I" = some ⟨[(.array .byte), .int], some .int⟩ := by decide +kernel
theorem own_pd2 : parseMethodDescriptor "([BIJ)V" = some ⟨[(.array .byte), .int, .long], none⟩ := by decide +kernel
theorem own_pd3 : parseMethodDescriptor "([BI)J" = some ⟨[(.array .byte), .int], some .long⟩ := by decide +kernel
theorem own_pd4 : parseMethodDescriptor "(J)Z" = some ⟨[.long], some .boolean⟩ := by decide +kernel
theorem own_pn0 : plainName "com/example/certwright/certwright/x509/RevokedCertificates" = true := by first | (simp [plainName, overriddenIn]; done) | decide +kernel
theorem own_pn1 : plainName "com/example/certwright/certwright/x509/RevokedCertificatesIsWholeKeyPinLaw" = true := by first | (simp [plainName, overriddenIn]; done) | decide +kernel
def own_fs_28 (o0 : Addr) (p1 : Int32) (f : Int32 → Int32) (y28_0 : Int32) : Int32 := ((p1 + (2 : Int32)) + y28_0)
def own_Fs (o0 : Addr) (p1 : Int32) (f : Int32 → Int32) : Int32 := (if ((f (p1 + (1 : Int32))) &&& (255 : Int32)) < (128 : Int32) then (own_fs_28 o0 p1 f (0 : Int32)) else (own_fs_28 o0 p1 f (((f (p1 + (1 : Int32))) &&& (255 : Int32)) &&& (127 : Int32))))
theorem own_ds_0 : decode prog_111_method_11_code 0 = .ok (.aload_n 0, 1) := by decide +kernel
theorem own_ds_1 : decode prog_111_method_11_code 1 = .ok (.iload_n 1, 1) := by decide +kernel
theorem own_ds_2 : decode prog_111_method_11_code 2 = .ok (.iconst 1, 1) := by decide +kernel
theorem own_ds_3 : decode prog_111_method_11_code 3 = .ok (.iadd, 1) := by decide +kernel
theorem own_ds_4 : decode prog_111_method_11_code 4 = .ok (.baload, 1) := by decide +kernel
theorem own_ds_5 : decode prog_111_method_11_code 5 = .ok (.sipush 255, 3) := by decide +kernel
theorem own_ds_8 : decode prog_111_method_11_code 8 = .ok (.iand, 1) := by decide +kernel
theorem own_ds_9 : decode prog_111_method_11_code 9 = .ok (.istore_n 2, 1) := by decide +kernel
theorem own_ds_10 : decode prog_111_method_11_code 10 = .ok (.iload_n 1, 1) := by decide +kernel
theorem own_ds_11 : decode prog_111_method_11_code 11 = .ok (.iconst 2, 1) := by decide +kernel
theorem own_ds_12 : decode prog_111_method_11_code 12 = .ok (.iadd, 1) := by decide +kernel
theorem own_ds_13 : decode prog_111_method_11_code 13 = .ok (.iload_n 2, 1) := by decide +kernel
theorem own_ds_14 : decode prog_111_method_11_code 14 = .ok (.sipush 128, 3) := by decide +kernel
theorem own_ds_17 : decode prog_111_method_11_code 17 = .ok (.if_icmp .ge 7, 3) := by decide +kernel
theorem own_ds_20 : decode prog_111_method_11_code 20 = .ok (.iconst 0, 1) := by decide +kernel
theorem own_ds_21 : decode prog_111_method_11_code 21 = .ok (.goto 7, 3) := by decide +kernel
theorem own_ds_24 : decode prog_111_method_11_code 24 = .ok (.iload_n 2, 1) := by decide +kernel
theorem own_ds_25 : decode prog_111_method_11_code 25 = .ok (.bipush 127, 2) := by decide +kernel
theorem own_ds_27 : decode prog_111_method_11_code 27 = .ok (.iand, 1) := by decide +kernel
theorem own_ds_28 : decode prog_111_method_11_code 28 = .ok (.iadd, 1) := by decide +kernel
theorem own_ds_29 : decode prog_111_method_11_code 29 = .ok (.ireturn, 1) := by decide +kernel
theorem own_efs (m : MethodId) (x0 : Addr) (x1 : Int32) : entryFrame m #[(.ref x0), (.int x1)] 3 = mkF m 0 #[.val (.ref x0), .val (.int x1), .unset] [] := by first | (simp [entryFrame, mkF, argsToLocals, Value.category]; done) | rfl
set_option maxRecDepth 65536 in
set_option maxHeartbeats 40000000 in
theorem rm_s (l : Launch) (Z : State) (a0 : Array Value) (hw : ∀ d ∈ tables_1, d.before a0 Z = true) (ws : List Jvm.Cond) (o0 : Addr) (p1 : Int32) (f : Int32 → Int32) (h0 : Heap) (n0 : Nat) (Z0 : n0 ≤ h0.size) (A_t : Ints Z h0 o0 .byte (13 : Int32) f) (hi0 : ¬ (p1 + (1 : Int32)) < 0) (hi1 : (p1 + (1 : Int32)) < (13 : Int32)) :
    MetFree l (⟨"com/example/certwright/certwright/x509/RevokedCertificates", "contentStart", "([BI)I"⟩ : MethodName) (head1 (Jvm.Cond.code (⟨"com/example/certwright/certwright/x509/RevokedCertificates", "contentStart", "([BI)I"⟩ : MethodName) prog_111_method_11_code 3 (some .int) :: ws) ({ frames := 0, cells := 0, slots := 0, locals := 0 } : Room)) (fun a U => a = #[(.ref o0), (.int p1)] ∧ Z.Warmed39 U.vm ∧ U.heap = h0) (fun _ _ _ _ _ => True) (fun _ U o U' => ∃ v L, o = .returned v ∧ (QPure n0 h0 (.int (own_Fs o0 p1 f))) v U'.heap L ∧ FrameEnd U o U' L ({ frames := 0, cells := 0, slots := 0, locals := 0 } : Room).cells ({ frames := 0, cells := 0, slots := 0, locals := 0 } : Room).slots) := by
  refine MetFree.of_bodySF (plainFor_of_name own_pn0) hisR ?_
  intro p e s m args below meth c s₁ Bd hml0 hP hK
  obtain ⟨rfl, hZ, hh⟩ := hP
  have hx := Bd.exec
  have hby := Bd.bytes
  have hml : c.maxLocals = 3 := hml0
  have hown : s.vm.findClass "com/example/certwright/certwright/x509/RevokedCertificates" = some m.cls := findClass_of_methodNamed Bd.named
  have hnm := (name_of_methodNamed Bd.named Bd.method).1
  have X0 : Stand p l e ({ frames := 0, cells := 0, slots := 0, locals := 0 } : Room) s m #[(.ref o0), (.int p1)] below meth c s₁ [] 0 0 := Stand.of_body Bd
  have e0 : s₁.heap = h0 := by rw [← hh, Bd.state]; rfl
  have N0 := Fr.nil n0
  suffices H : Run p.tables e below (FinR s ({ frames := 0, cells := 0, slots := 0, locals := 0 } : Room).cells ({ frames := 0, cells := 0, slots := 0, locals := 0 } : Room).slots (QPure n0 h0 (.int (own_Fs o0 p1 f)))) s₁ (mkF m 0 #[.val (.ref o0), .val (.int p1), .unset] []) by
    obtain ⟨s₂, o, k1, k2, k3, k4⟩ := H
    exact ⟨s₂, o, castTop (own_efs m o0 p1) k1, k2, k3, k4⟩
  obtain ⟨r, hr⟩ : ∃ r, r = own_Fs o0 p1 f := ⟨_, rfl⟩
  rw [← hr]
  have J28 : ∀ (y28_0 : Int32) (r : Int32), r = (own_fs_28 o0 p1 f y28_0) → ∀ (T : State) (locs : List Loc), Stand p l e ({ frames := 0, cells := 0, slots := 0, locals := 0 } : Room) s m #[(.ref o0), (.int p1)] below meth c T locs 0 0 → T.heap = h0 → Fr n0 locs → Run p.tables e below (FinR s ({ frames := 0, cells := 0, slots := 0, locals := 0 } : Room).cells ({ frames := 0, cells := 0, slots := 0, locals := 0 } : Room).slots (QPure n0 h0 (.int r))) T (mkF m 28 #[.val (.ref o0), .val (.int p1), .val (.int ((f (p1 + (1 : Int32))) &&& (255 : Int32)))] [(.int y28_0), (.int (p1 + (2 : Int32)))]) := by
    clear hr
    intro y28_0 r hr T locs X eT N
    rw [own_fs_28] at hr
    refine Run.iadd (pc' := 29) X hx (hb hby own_ds_28) rfl ?_
    exact Run.retInt X hx Bd.notSynchronized Bd.returns (hb hby own_ds_29) ⟨by rw [hr], N, eT⟩ (by decide) (by decide)
  rw [own_Fs] at hr
  refine Run.aloadN (pc' := 1) X0 hx (hb hby own_ds_0) rfl rfl ?_
  refine Run.iloadN (pc' := 2) X0 hx (hb hby own_ds_1) rfl rfl ?_
  refine Run.iconst (pc' := 3) (v := (1 : Int32)) X0 hx (hb hby own_ds_2) rfl rfl ?_
  refine Run.iadd (pc' := 4) X0 hx (hb hby own_ds_3) rfl ?_
  refine Run.baload (pc' := 5) X0 hx hZ e0 A_t hi0 hi1 (hb hby own_ds_4) rfl ?_
  refine Run.sipush (pc' := 8) (v := (255 : Int32)) X0 hx (hb hby own_ds_5) rfl rfl ?_
  refine Run.iand (pc' := 9) X0 hx (hb hby own_ds_8) rfl ?_
  refine Run.istoreN (pc' := 10) X0 hx (l' := #[.val (.ref o0), .val (.int p1), .val (.int ((f (p1 + (1 : Int32))) &&& (255 : Int32)))]) (hb hby own_ds_9) rfl rfl ?_
  refine Run.iloadN (pc' := 11) X0 hx (hb hby own_ds_10) rfl rfl ?_
  refine Run.iconst (pc' := 12) (v := (2 : Int32)) X0 hx (hb hby own_ds_11) rfl rfl ?_
  refine Run.iadd (pc' := 13) X0 hx (hb hby own_ds_12) rfl ?_
  refine Run.iloadN (pc' := 14) X0 hx (hb hby own_ds_13) rfl rfl ?_
  refine Run.sipush (pc' := 17) (v := (128 : Int32)) X0 hx (hb hby own_ds_14) rfl rfl ?_
  by_cases hc17 : ((f (p1 + (1 : Int32))) &&& (255 : Int32)) < (128 : Int32)
  · rw [if_pos hc17] at hr
    refine Run.icmpNo (pc' := 20) X0 hx (hb hby own_ds_17) (tlt hc17).2.1 rfl ?_
    refine Run.iconst (pc' := 21) (v := (0 : Int32)) X0 hx (hb hby own_ds_20) rfl rfl ?_
    refine Run.goto (pc' := 28) X0 hx (hb hby own_ds_21) (by decide) (by decide) ?_
    exact J28 (0 : Int32) _ hr _ _ X0 e0 N0
  · rw [if_neg hc17] at hr
    refine Run.icmpYes (pc' := 24) X0 hx (hb hby own_ds_17) (flt hc17).2.1 (by decide) (by decide) ?_
    refine Run.iloadN (pc' := 25) X0 hx (hb hby own_ds_24) rfl rfl ?_
    refine Run.bipush (pc' := 27) (v := (127 : Int32)) X0 hx (hb hby own_ds_25) rfl rfl ?_
    refine Run.iand (pc' := 28) X0 hx (hb hby own_ds_27) rfl ?_
    exact J28 (((f (p1 + (1 : Int32))) &&& (255 : Int32)) &&& (127 : Int32)) _ hr _ _ X0 e0 N0
def own_fm_10 (p0 : Int32) (p1 : Int32) (y10_0 : Int32) : Int32 := y10_0
def own_Fm (p0 : Int32) (p1 : Int32) : Int32 := (if p1 < p0 then (own_fm_10 p0 p1 p1) else (own_fm_10 p0 p1 p0))
theorem own_dm_0 : decode jdk_29_method_69_code 0 = .ok (.iload_n 0, 1) := by decide +kernel
theorem own_dm_1 : decode jdk_29_method_69_code 1 = .ok (.iload_n 1, 1) := by decide +kernel
theorem own_dm_2 : decode jdk_29_method_69_code 2 = .ok (.if_icmp .gt 7, 3) := by decide +kernel
theorem own_dm_5 : decode jdk_29_method_69_code 5 = .ok (.iload_n 0, 1) := by decide +kernel
theorem own_dm_6 : decode jdk_29_method_69_code 6 = .ok (.goto 4, 3) := by decide +kernel
theorem own_dm_9 : decode jdk_29_method_69_code 9 = .ok (.iload_n 1, 1) := by decide +kernel
theorem own_dm_10 : decode jdk_29_method_69_code 10 = .ok (.ireturn, 1) := by decide +kernel
theorem own_efm (m : MethodId) (x0 : Int32) (x1 : Int32) : entryFrame m #[(.int x0), (.int x1)] 2 = mkF m 0 #[.val (.int x0), .val (.int x1)] [] := by first | (simp [entryFrame, mkF, argsToLocals, Value.category]; done) | rfl
set_option maxRecDepth 65536 in
set_option maxHeartbeats 40000000 in
theorem rm_m (l : Launch) (Z : State) (a0 : Array Value) (hw : ∀ d ∈ tables_1, d.before a0 Z = true) (ws : List Jvm.Cond) (p0 : Int32) (p1 : Int32) (h0 : Heap) (n0 : Nat) (Z0 : n0 ≤ h0.size) :
    MetFree l (⟨"java/lang/Math", "min", "(II)I"⟩ : MethodName) (head1 (Jvm.Cond.code (⟨"java/lang/Math", "min", "(II)I"⟩ : MethodName) jdk_29_method_69_code 2 (some .int) :: ws) ({ frames := 0, cells := 0, slots := 0, locals := 0 } : Room)) (fun a U => a = #[(.int p0), (.int p1)] ∧ Z.Warmed39 U.vm ∧ U.heap = h0) (fun _ _ _ _ _ => True) (fun _ U o U' => ∃ v L, o = .returned v ∧ (QPure n0 h0 (.int (own_Fm p0 p1))) v U'.heap L ∧ FrameEnd U o U' L ({ frames := 0, cells := 0, slots := 0, locals := 0 } : Room).cells ({ frames := 0, cells := 0, slots := 0, locals := 0 } : Room).slots) := by
  refine MetFree.of_bodySF (Jvm.Free.JP.mathPlain rfl (by decide +kernel)) hisR ?_
  intro p e s m args below meth c s₁ Bd hml0 hP hK
  obtain ⟨rfl, hZ, hh⟩ := hP
  have hx := Bd.exec
  have hby := Bd.bytes
  have hml : c.maxLocals = 2 := hml0
  have hown : s.vm.findClass "java/lang/Math" = some m.cls := findClass_of_methodNamed Bd.named
  have hnm := (name_of_methodNamed Bd.named Bd.method).1
  have X0 : Stand p l e ({ frames := 0, cells := 0, slots := 0, locals := 0 } : Room) s m #[(.int p0), (.int p1)] below meth c s₁ [] 0 0 := Stand.of_body Bd
  have e0 : s₁.heap = h0 := by rw [← hh, Bd.state]; rfl
  have N0 := Fr.nil n0
  suffices H : Run p.tables e below (FinR s ({ frames := 0, cells := 0, slots := 0, locals := 0 } : Room).cells ({ frames := 0, cells := 0, slots := 0, locals := 0 } : Room).slots (QPure n0 h0 (.int (own_Fm p0 p1)))) s₁ (mkF m 0 #[.val (.int p0), .val (.int p1)] []) by
    obtain ⟨s₂, o, k1, k2, k3, k4⟩ := H
    exact ⟨s₂, o, castTop (own_efm m p0 p1) k1, k2, k3, k4⟩
  obtain ⟨r, hr⟩ : ∃ r, r = own_Fm p0 p1 := ⟨_, rfl⟩
  rw [← hr]
  have J10 : ∀ (y10_0 : Int32) (r : Int32), r = (own_fm_10 p0 p1 y10_0) → ∀ (T : State) (locs : List Loc), Stand p l e ({ frames := 0, cells := 0, slots := 0, locals := 0 } : Room) s m #[(.int p0), (.int p1)] below meth c T locs 0 0 → T.heap = h0 → Fr n0 locs → Run p.tables e below (FinR s ({ frames := 0, cells := 0, slots := 0, locals := 0 } : Room).cells ({ frames := 0, cells := 0, slots := 0, locals := 0 } : Room).slots (QPure n0 h0 (.int r))) T (mkF m 10 #[.val (.int p0), .val (.int p1)] [(.int y10_0)]) := by
    clear hr
    intro y10_0 r hr T locs X eT N
    rw [own_fm_10] at hr
    exact Run.retInt X hx Bd.notSynchronized Bd.returns (hb hby own_dm_10) ⟨by rw [hr], N, eT⟩ (by decide) (by decide)
  rw [own_Fm] at hr
  refine Run.iloadN (pc' := 1) X0 hx (hb hby own_dm_0) rfl rfl ?_
  refine Run.iloadN (pc' := 2) X0 hx (hb hby own_dm_1) rfl rfl ?_
  by_cases hc2 : p1 < p0
  · rw [if_pos hc2] at hr
    refine Run.icmpYes (pc' := 9) X0 hx (hb hby own_dm_2) (tlt hc2).2.2.1 (by decide) (by decide) ?_
    refine Run.iloadN (pc' := 10) X0 hx (hb hby own_dm_9) rfl rfl ?_
    exact J10 p1 _ hr _ _ X0 e0 N0
  · rw [if_neg hc2] at hr
    refine Run.icmpNo (pc' := 5) X0 hx (hb hby own_dm_2) (flt hc2).2.2.1 rfl ?_
    refine Run.iloadN (pc' := 6) X0 hx (hb hby own_dm_5) rfl rfl ?_
    refine Run.goto (pc' := 10) X0 hx (hb hby own_dm_6) (by decide) (by decide) ?_
    exact J10 p0 _ hr _ _ X0 e0 N0
def own_fw_33 (q0 : Int64) (y33_0 : Int32) : Int32 := (y33_0 &&& 1)
def own_fw_23 (q0 : Int64) (y23_0 : Int32) : Int32 := (if (7 : Int32) < y23_0 then (own_fw_33 q0 (0 : Int32)) else (own_fw_33 q0 (1 : Int32)))
def own_Fw (q0 : Int64) : Int32 := (if (lcmpW q0 (0 : Int64)) < (0 : Int32) then (own_fw_23 q0 ((((q0.toUInt64 >>> ((56 : Int32) &&& 0x3f).toInt64.toUInt64).toInt64).toInt32) &&& (127 : Int32))) else (own_fw_23 q0 ((127 : Int32) - ((((q0.toUInt64 >>> ((56 : Int32) &&& 0x3f).toInt64.toUInt64).toInt64).toInt32) &&& (127 : Int32)))))
theorem own_dw_0 : decode prog_111_method_10_code 0 = .ok (.lload_n 0, 1) := by decide +kernel
theorem own_dw_1 : decode prog_111_method_10_code 1 = .ok (.bipush 56, 2) := by decide +kernel
theorem own_dw_3 : decode prog_111_method_10_code 3 = .ok (.lushr, 1) := by decide +kernel
theorem own_dw_4 : decode prog_111_method_10_code 4 = .ok (.l2i, 1) := by decide +kernel
theorem own_dw_5 : decode prog_111_method_10_code 5 = .ok (.bipush 127, 2) := by decide +kernel
theorem own_dw_7 : decode prog_111_method_10_code 7 = .ok (.iand, 1) := by decide +kernel
theorem own_dw_8 : decode prog_111_method_10_code 8 = .ok (.istore_n 2, 1) := by decide +kernel
theorem own_dw_9 : decode prog_111_method_10_code 9 = .ok (.lload_n 0, 1) := by decide +kernel
theorem own_dw_10 : decode prog_111_method_10_code 10 = .ok (.lconst 0, 1) := by decide +kernel
theorem own_dw_11 : decode prog_111_method_10_code 11 = .ok (.lcmp, 1) := by decide +kernel
theorem own_dw_12 : decode prog_111_method_10_code 12 = .ok (.ifCond .ge 7, 3) := by decide +kernel
theorem own_dw_15 : decode prog_111_method_10_code 15 = .ok (.iload_n 2, 1) := by decide +kernel
theorem own_dw_16 : decode prog_111_method_10_code 16 = .ok (.goto 7, 3) := by decide +kernel
theorem own_dw_19 : decode prog_111_method_10_code 19 = .ok (.bipush 127, 2) := by decide +kernel
theorem own_dw_21 : decode prog_111_method_10_code 21 = .ok (.iload_n 2, 1) := by decide +kernel
theorem own_dw_22 : decode prog_111_method_10_code 22 = .ok (.isub, 1) := by decide +kernel
theorem own_dw_23 : decode prog_111_method_10_code 23 = .ok (.bipush 7, 2) := by decide +kernel
theorem own_dw_25 : decode prog_111_method_10_code 25 = .ok (.if_icmp .gt 7, 3) := by decide +kernel
theorem own_dw_28 : decode prog_111_method_10_code 28 = .ok (.iconst 1, 1) := by decide +kernel
theorem own_dw_29 : decode prog_111_method_10_code 29 = .ok (.goto 4, 3) := by decide +kernel
theorem own_dw_32 : decode prog_111_method_10_code 32 = .ok (.iconst 0, 1) := by decide +kernel
theorem own_dw_33 : decode prog_111_method_10_code 33 = .ok (.ireturn, 1) := by decide +kernel
theorem own_efw (m : MethodId) (x0 : Int64) : entryFrame m #[(.long x0)] 3 = mkF m 0 #[.val (.long x0), .second, .unset] [] := by first | (simp [entryFrame, mkF, argsToLocals, Value.category]; done) | rfl
set_option maxRecDepth 65536 in
set_option maxHeartbeats 40000000 in
theorem rm_w (l : Launch) (Z : State) (a0 : Array Value) (hw : ∀ d ∈ tables_1, d.before a0 Z = true) (ws : List Jvm.Cond) (q0 : Int64) (h0 : Heap) (n0 : Nat) (Z0 : n0 ≤ h0.size) :
    MetFree l (⟨"com/example/certwright/certwright/x509/RevokedCertificates", "isWholeKey", "(J)Z"⟩ : MethodName) (head1 (Jvm.Cond.code (⟨"com/example/certwright/certwright/x509/RevokedCertificates", "isWholeKey", "(J)Z"⟩ : MethodName) prog_111_method_10_code 3 (some .boolean) :: ws) ({ frames := 0, cells := 0, slots := 0, locals := 0 } : Room)) (fun a U => a = #[(.long q0)] ∧ Z.Warmed39 U.vm ∧ U.heap = h0) (fun _ _ _ _ _ => True) (fun _ U o U' => ∃ v L, o = .returned v ∧ (QPure n0 h0 (.int (own_Fw q0))) v U'.heap L ∧ FrameEnd U o U' L ({ frames := 0, cells := 0, slots := 0, locals := 0 } : Room).cells ({ frames := 0, cells := 0, slots := 0, locals := 0 } : Room).slots) := by
  refine MetFree.of_bodySF (plainFor_of_name own_pn0) hisR ?_
  intro p e s m args below meth c s₁ Bd hml0 hP hK
  obtain ⟨rfl, hZ, hh⟩ := hP
  have hx := Bd.exec
  have hby := Bd.bytes
  have hml : c.maxLocals = 3 := hml0
  have hown : s.vm.findClass "com/example/certwright/certwright/x509/RevokedCertificates" = some m.cls := findClass_of_methodNamed Bd.named
  have hnm := (name_of_methodNamed Bd.named Bd.method).1
  have X0 : Stand p l e ({ frames := 0, cells := 0, slots := 0, locals := 0 } : Room) s m #[(.long q0)] below meth c s₁ [] 0 0 := Stand.of_body Bd
  have e0 : s₁.heap = h0 := by rw [← hh, Bd.state]; rfl
  have N0 := Fr.nil n0
  suffices H : Run p.tables e below (FinR s ({ frames := 0, cells := 0, slots := 0, locals := 0 } : Room).cells ({ frames := 0, cells := 0, slots := 0, locals := 0 } : Room).slots (QPure n0 h0 (.int (own_Fw q0)))) s₁ (mkF m 0 #[.val (.long q0), .second, .unset] []) by
    obtain ⟨s₂, o, k1, k2, k3, k4⟩ := H
    exact ⟨s₂, o, castTop (own_efw m q0) k1, k2, k3, k4⟩
  obtain ⟨r, hr⟩ : ∃ r, r = own_Fw q0 := ⟨_, rfl⟩
  rw [← hr]
  have J33 : ∀ (y33_0 : Int32) (r : Int32), r = (own_fw_33 q0 y33_0) → ∀ (T : State) (locs : List Loc), Stand p l e ({ frames := 0, cells := 0, slots := 0, locals := 0 } : Room) s m #[(.long q0)] below meth c T locs 0 0 → T.heap = h0 → Fr n0 locs → Run p.tables e below (FinR s ({ frames := 0, cells := 0, slots := 0, locals := 0 } : Room).cells ({ frames := 0, cells := 0, slots := 0, locals := 0 } : Room).slots (QPure n0 h0 (.int r))) T (mkF m 33 #[.val (.long q0), .second, .val (.int ((((q0.toUInt64 >>> ((56 : Int32) &&& 0x3f).toInt64.toUInt64).toInt64).toInt32) &&& (127 : Int32)))] [(.int y33_0)]) := by
    clear hr
    intro y33_0 r hr T locs X eT N
    rw [own_fw_33] at hr
    exact Run.retSmall X hx (t := .boolean) (z' := (y33_0 &&& 1)) Bd.notSynchronized Bd.returns (by simp) rfl (hb hby own_dw_33) ⟨by rw [hr], N, eT⟩ (by decide) (by decide)
  have J23 : ∀ (y23_0 : Int32) (r : Int32), r = (own_fw_23 q0 y23_0) → ∀ (T : State) (locs : List Loc), Stand p l e ({ frames := 0, cells := 0, slots := 0, locals := 0 } : Room) s m #[(.long q0)] below meth c T locs 0 0 → T.heap = h0 → Fr n0 locs → Run p.tables e below (FinR s ({ frames := 0, cells := 0, slots := 0, locals := 0 } : Room).cells ({ frames := 0, cells := 0, slots := 0, locals := 0 } : Room).slots (QPure n0 h0 (.int r))) T (mkF m 23 #[.val (.long q0), .second, .val (.int ((((q0.toUInt64 >>> ((56 : Int32) &&& 0x3f).toInt64.toUInt64).toInt64).toInt32) &&& (127 : Int32)))] [(.int y23_0)]) := by
    clear hr
    intro y23_0 r hr T locs X eT N
    rw [own_fw_23] at hr
    refine Run.bipush (pc' := 25) (v := (7 : Int32)) X hx (hb hby own_dw_23) rfl rfl ?_
    by_cases hc25 : (7 : Int32) < y23_0
    · rw [if_pos hc25] at hr
      refine Run.icmpYes (pc' := 32) X hx (hb hby own_dw_25) (tlt hc25).2.2.1 (by decide) (by decide) ?_
      refine Run.iconst (pc' := 33) (v := (0 : Int32)) X hx (hb hby own_dw_32) rfl rfl ?_
      exact J33 (0 : Int32) _ hr _ _ X eT N
    · rw [if_neg hc25] at hr
      refine Run.icmpNo (pc' := 28) X hx (hb hby own_dw_25) (flt hc25).2.2.1 rfl ?_
      refine Run.iconst (pc' := 29) (v := (1 : Int32)) X hx (hb hby own_dw_28) rfl rfl ?_
      refine Run.goto (pc' := 33) X hx (hb hby own_dw_29) (by decide) (by decide) ?_
      exact J33 (1 : Int32) _ hr _ _ X eT N
  rw [own_Fw] at hr
  refine Run.lloadN (pc' := 1) X0 hx (hb hby own_dw_0) rfl rfl ?_
  refine Run.bipush (pc' := 3) (v := (56 : Int32)) X0 hx (hb hby own_dw_1) rfl rfl ?_
  refine Run.lushr (pc' := 4) X0 hx (hb hby own_dw_3) rfl ?_
  refine Run.l2i (pc' := 5) X0 hx (hb hby own_dw_4) rfl ?_
  refine Run.bipush (pc' := 7) (v := (127 : Int32)) X0 hx (hb hby own_dw_5) rfl rfl ?_
  refine Run.iand (pc' := 8) X0 hx (hb hby own_dw_7) rfl ?_
  refine Run.istoreN (pc' := 9) X0 hx (l' := #[.val (.long q0), .second, .val (.int ((((q0.toUInt64 >>> ((56 : Int32) &&& 0x3f).toInt64.toUInt64).toInt64).toInt32) &&& (127 : Int32)))]) (hb hby own_dw_8) rfl rfl ?_
  refine Run.lloadN (pc' := 10) X0 hx (hb hby own_dw_9) rfl rfl ?_
  refine Run.lconst (pc' := 11) (v := (0 : Int64)) X0 hx (hb hby own_dw_10) rfl rfl ?_
  refine Run.lcmp (pc' := 12) X0 hx (hb hby own_dw_11) rfl ?_
  by_cases hc12 : (lcmpW q0 (0 : Int64)) < (0 : Int32)
  · rw [if_pos hc12] at hr
    refine Run.ifNo (pc' := 15) X0 hx (hb hby own_dw_12) ((if0 _ _).trans (tlt hc12).2.1) rfl ?_
    refine Run.iloadN (pc' := 16) X0 hx (hb hby own_dw_15) rfl rfl ?_
    refine Run.goto (pc' := 23) X0 hx (hb hby own_dw_16) (by decide) (by decide) ?_
    exact J23 ((((q0.toUInt64 >>> ((56 : Int32) &&& 0x3f).toInt64.toUInt64).toInt64).toInt32) &&& (127 : Int32)) _ hr _ _ X0 e0 N0
  · rw [if_neg hc12] at hr
    refine Run.ifYes (pc' := 19) X0 hx (hb hby own_dw_12) ((if0 _ _).trans (flt hc12).2.1) (by decide) (by decide) ?_
    refine Run.bipush (pc' := 21) (v := (127 : Int32)) X0 hx (hb hby own_dw_19) rfl rfl ?_
    refine Run.iloadN (pc' := 22) X0 hx (hb hby own_dw_21) rfl rfl ?_
    refine Run.isub (pc' := 23) X0 hx (hb hby own_dw_22) rfl ?_
    exact J23 ((127 : Int32) - ((((q0.toUInt64 >>> ((56 : Int32) &&& 0x3f).toInt64.toUInt64).toInt64).toInt32) &&& (127 : Int32))) _ hr _ _ X0 e0 N0
def own_cll : Nat → (Int32 → Int32) → Int32 → Int32 → Int32 → Int32
  | 0, _, _, acc, _ => acc
  | k + 1, f, p1, acc, j => own_cll k f p1 ((acc <<< ((8 : Int32) &&& 31)) ||| ((f ((p1 + (2 : Int32)) + j)) &&& (255 : Int32))) (j + (1 : Int32))
def own_L (p1 : Int32) (f : Int32 → Int32) (k : Nat) : Int32 := (if ((f (p1 + (1 : Int32))) &&& (255 : Int32)) < (128 : Int32) then ((f (p1 + (1 : Int32))) &&& (255 : Int32)) else own_cll k f p1 (0 : Int32) (0 : Int32))
def own_lp : Nat → (Int32 → Int32) → Int32 → Int32 → Int64 → Int64
  | 0, _, _, _, key => key
  | t + 1, f, st, i, key => own_lp t f st (i + (1 : Int32)) (key ||| (((f (st + i)) &&& (255 : Int32)).toInt64 <<< (((48 : Int32) - ((8 : Int32) * i)) &&& 0x3f).toInt64))
def own_K (f : Int32 → Int32) (st len : Int32) (t : Nat) : Int64 := (if (f st) < (0 : Int32) then own_lp t f st (0 : Int32) ((0 : Int64) ||| (((127 : Int32) - (own_Fm len (127 : Int32))).toInt64 <<< ((56 : Int32) &&& 0x3f).toInt64)) else own_lp t f st (0 : Int32) ((-9223372036854775808 : Int64) ||| ((own_Fm len (127 : Int32)).toInt64 <<< ((56 : Int32) &&& 0x3f).toInt64)))
theorem own_up {i : Int32} {k : Nat} {y : Int32} (h : i.toInt + (k + 1 : Nat) = y.toInt) (h0 : 0 ≤ i.toInt) : (i + (1 : Int32)).toInt = i.toInt + 1 := by
  have h1 := c_iadd i 1
  have h2 := rng32 (i + 1)
  have h3 := rng32 y
  have e1 : (1 : Int32).toInt = 1 := rfl
  rw [e1] at h1
  omega

theorem own_pin0 {p : Int32} (hp : 0 ≤ p.toInt ∧ p.toInt ≤ 6) : ¬ p < 0 ∧ p < (13 : Int32) := by
  have e0 : (0 : Int32).toInt = 0 := rfl
  have e13 : (13 : Int32).toInt = 13 := rfl
  rw [Int32.lt_iff_toInt_lt, Int32.lt_iff_toInt_lt]; omega
theorem own_sum {p k : Int32} (hk : 0 ≤ k.toInt ∧ k.toInt ≤ 6) (hp : 0 ≤ p.toInt ∧ p.toInt ≤ 6) : (p + k).toInt = p.toInt + k.toInt := by
  have h1 := c_iadd p k
  have h2 := rng32 (p + k)
  omega
theorem own_pin {p k : Int32} (hk : 0 ≤ k.toInt ∧ k.toInt ≤ 6) (hp : 0 ≤ p.toInt ∧ p.toInt ≤ 6) : ¬ (p + k) < 0 ∧ (p + k) < (13 : Int32) := by
  have h := own_sum hk hp
  have e0 : (0 : Int32).toInt = 0 := rfl
  have e13 : (13 : Int32).toInt = 13 := rfl
  rw [Int32.lt_iff_toInt_lt, Int32.lt_iff_toInt_lt]; omega
theorem own_ne0 {p j : Int32} (h : j < p) : ¬ j = p := fun e => by
  rw [e, Int32.lt_iff_toInt_lt] at h; omega
theorem own_nep {p k j : Int32} (hk : 0 ≤ k.toInt ∧ k.toInt ≤ 6) (hp : 0 ≤ p.toInt ∧ p.toInt ≤ 6) (h : j < p) : ¬ j = p + k := fun e => by
  have hs := own_sum hk hp
  rw [e, Int32.lt_iff_toInt_lt] at h; omega
theorem own_st0 {p : Int32} (hp : 0 ≤ p.toInt ∧ p.toInt ≤ 6) : ¬ p < 0 ∧ p < (13 : Int32) := own_pin0 hp
theorem own_sti {p i : Int32} (hp : 0 ≤ p.toInt ∧ p.toInt ≤ 6) (h0 : 0 ≤ i.toInt) (h6 : i.toInt ≤ 6) : ¬ (p + i) < 0 ∧ (p + i) < (13 : Int32) := own_pin ⟨h0, h6⟩ hp

theorem own_dp_0 : decode method_3_code 0 = .ok (.aload_n 0, 1) := by decide +kernel
theorem own_dp_1 : decode method_3_code 1 = .ok (.iload_n 1, 1) := by decide +kernel
theorem own_dp_2 : decode method_3_code 2 = .ok (.lload_n 2, 1) := by decide +kernel
theorem own_dp_3 : decode method_3_code 3 = .ok (.bipush 56, 2) := by decide +kernel
theorem own_dp_5 : decode method_3_code 5 = .ok (.lushr, 1) := by decide +kernel
theorem own_dp_6 : decode method_3_code 6 = .ok (.l2i, 1) := by decide +kernel
theorem own_dp_7 : decode method_3_code 7 = .ok (.i2b, 1) := by decide +kernel
theorem own_dp_8 : decode method_3_code 8 = .ok (.bastore, 1) := by decide +kernel
theorem own_dp_9 : decode method_3_code 9 = .ok (.aload_n 0, 1) := by decide +kernel
theorem own_dp_10 : decode method_3_code 10 = .ok (.iload_n 1, 1) := by decide +kernel
theorem own_dp_11 : decode method_3_code 11 = .ok (.iconst 1, 1) := by decide +kernel
theorem own_dp_12 : decode method_3_code 12 = .ok (.iadd, 1) := by decide +kernel
theorem own_dp_13 : decode method_3_code 13 = .ok (.lload_n 2, 1) := by decide +kernel
theorem own_dp_14 : decode method_3_code 14 = .ok (.bipush 48, 2) := by decide +kernel
theorem own_dp_16 : decode method_3_code 16 = .ok (.lushr, 1) := by decide +kernel
theorem own_dp_17 : decode method_3_code 17 = .ok (.l2i, 1) := by decide +kernel
theorem own_dp_18 : decode method_3_code 18 = .ok (.i2b, 1) := by decide +kernel
theorem own_dp_19 : decode method_3_code 19 = .ok (.bastore, 1) := by decide +kernel
theorem own_dp_20 : decode method_3_code 20 = .ok (.aload_n 0, 1) := by decide +kernel
theorem own_dp_21 : decode method_3_code 21 = .ok (.iload_n 1, 1) := by decide +kernel
theorem own_dp_22 : decode method_3_code 22 = .ok (.iconst 2, 1) := by decide +kernel
theorem own_dp_23 : decode method_3_code 23 = .ok (.iadd, 1) := by decide +kernel
theorem own_dp_24 : decode method_3_code 24 = .ok (.lload_n 2, 1) := by decide +kernel
theorem own_dp_25 : decode method_3_code 25 = .ok (.bipush 40, 2) := by decide +kernel
theorem own_dp_27 : decode method_3_code 27 = .ok (.lushr, 1) := by decide +kernel
theorem own_dp_28 : decode method_3_code 28 = .ok (.l2i, 1) := by decide +kernel
theorem own_dp_29 : decode method_3_code 29 = .ok (.i2b, 1) := by decide +kernel
theorem own_dp_30 : decode method_3_code 30 = .ok (.bastore, 1) := by decide +kernel
theorem own_dp_31 : decode method_3_code 31 = .ok (.aload_n 0, 1) := by decide +kernel
theorem own_dp_32 : decode method_3_code 32 = .ok (.iload_n 1, 1) := by decide +kernel
theorem own_dp_33 : decode method_3_code 33 = .ok (.iconst 3, 1) := by decide +kernel
theorem own_dp_34 : decode method_3_code 34 = .ok (.iadd, 1) := by decide +kernel
theorem own_dp_35 : decode method_3_code 35 = .ok (.lload_n 2, 1) := by decide +kernel
theorem own_dp_36 : decode method_3_code 36 = .ok (.bipush 32, 2) := by decide +kernel
theorem own_dp_38 : decode method_3_code 38 = .ok (.lushr, 1) := by decide +kernel
theorem own_dp_39 : decode method_3_code 39 = .ok (.l2i, 1) := by decide +kernel
theorem own_dp_40 : decode method_3_code 40 = .ok (.i2b, 1) := by decide +kernel
theorem own_dp_41 : decode method_3_code 41 = .ok (.bastore, 1) := by decide +kernel
theorem own_dp_42 : decode method_3_code 42 = .ok (.aload_n 0, 1) := by decide +kernel
theorem own_dp_43 : decode method_3_code 43 = .ok (.iload_n 1, 1) := by decide +kernel
theorem own_dp_44 : decode method_3_code 44 = .ok (.iconst 4, 1) := by decide +kernel
theorem own_dp_45 : decode method_3_code 45 = .ok (.iadd, 1) := by decide +kernel
theorem own_dp_46 : decode method_3_code 46 = .ok (.lload_n 2, 1) := by decide +kernel
theorem own_dp_47 : decode method_3_code 47 = .ok (.bipush 24, 2) := by decide +kernel
theorem own_dp_49 : decode method_3_code 49 = .ok (.lushr, 1) := by decide +kernel
theorem own_dp_50 : decode method_3_code 50 = .ok (.l2i, 1) := by decide +kernel
theorem own_dp_51 : decode method_3_code 51 = .ok (.i2b, 1) := by decide +kernel
theorem own_dp_52 : decode method_3_code 52 = .ok (.bastore, 1) := by decide +kernel
theorem own_dp_53 : decode method_3_code 53 = .ok (.aload_n 0, 1) := by decide +kernel
theorem own_dp_54 : decode method_3_code 54 = .ok (.iload_n 1, 1) := by decide +kernel
theorem own_dp_55 : decode method_3_code 55 = .ok (.iconst 5, 1) := by decide +kernel
theorem own_dp_56 : decode method_3_code 56 = .ok (.iadd, 1) := by decide +kernel
theorem own_dp_57 : decode method_3_code 57 = .ok (.lload_n 2, 1) := by decide +kernel
theorem own_dp_58 : decode method_3_code 58 = .ok (.bipush 16, 2) := by decide +kernel
theorem own_dp_60 : decode method_3_code 60 = .ok (.lushr, 1) := by decide +kernel
theorem own_dp_61 : decode method_3_code 61 = .ok (.l2i, 1) := by decide +kernel
theorem own_dp_62 : decode method_3_code 62 = .ok (.i2b, 1) := by decide +kernel
theorem own_dp_63 : decode method_3_code 63 = .ok (.bastore, 1) := by decide +kernel
theorem own_dp_64 : decode method_3_code 64 = .ok (.aload_n 0, 1) := by decide +kernel
theorem own_dp_65 : decode method_3_code 65 = .ok (.iload_n 1, 1) := by decide +kernel
theorem own_dp_66 : decode method_3_code 66 = .ok (.bipush 6, 2) := by decide +kernel
theorem own_dp_68 : decode method_3_code 68 = .ok (.iadd, 1) := by decide +kernel
theorem own_dp_69 : decode method_3_code 69 = .ok (.lload_n 2, 1) := by decide +kernel
theorem own_dp_70 : decode method_3_code 70 = .ok (.bipush 8, 2) := by decide +kernel
theorem own_dp_72 : decode method_3_code 72 = .ok (.lushr, 1) := by decide +kernel
theorem own_dp_73 : decode method_3_code 73 = .ok (.l2i, 1) := by decide +kernel
theorem own_dp_74 : decode method_3_code 74 = .ok (.i2b, 1) := by decide +kernel
theorem own_dp_75 : decode method_3_code 75 = .ok (.bastore, 1) := by decide +kernel
theorem own_dp_76 : decode method_3_code 76 = .ok (.return_, 1) := by decide +kernel
theorem own_efp (m : MethodId) (x0 : Addr) (x1 : Int32) (x2 : Int64) : entryFrame m #[(.ref x0), (.int x1), (.long x2)] 4 = mkF m 0 #[.val (.ref x0), .val (.int x1), .val (.long x2), .second] [] := by first | (simp [entryFrame, mkF, argsToLocals, Value.category]; done) | rfl
set_option maxRecDepth 65536 in
set_option maxHeartbeats 40000000 in
theorem rm_p (l : Launch) (Z : State) (a0 : Array Value) (hw : ∀ d ∈ tables_1, d.before a0 Z = true) (ws : List Jvm.Cond) (o0 : Addr) (p1 : Int32) (q2 : Int64) (f : Int32 → Int32) (h0 : Heap) (n0 : Nat) (Z0 : n0 ≤ h0.size) (A_t : Ints Z h0 o0 .byte (13 : Int32) f) (g_o : n0 ≤ o0) (hp : 0 ≤ p1.toInt ∧ p1.toInt ≤ 6) :
    MetFree l (⟨"com/example/certwright/certwright/x509/RevokedCertificatesIsWholeKeyPinLaw", "put", "([BIJ)V"⟩ : MethodName) (head1 (Jvm.Cond.code (⟨"com/example/certwright/certwright/x509/RevokedCertificatesIsWholeKeyPinLaw", "put", "([BIJ)V"⟩ : MethodName) method_3_code 4 none :: ws) ({ frames := 0, cells := 0, slots := 0, locals := 0 } : Room)) (fun a U => a = #[(.ref o0), (.int p1), (.long q2)] ∧ Z.Warmed39 U.vm ∧ U.heap = h0) (fun _ _ _ _ _ => True) (fun _ U o U' => ∃ v L, o = .returned v ∧ (Say (fun v h L => v = none ∧ Fr n0 L ∧ Keep h0 h [o0] ∧ ∃ g, Ints Z h o0 .byte (13 : Int32) g ∧ ∀ j : Int32, ¬ j < 0 → j < p1 → g j = f j)) v U'.heap L ∧ FrameEnd U o U' L ({ frames := 0, cells := 0, slots := 0, locals := 0 } : Room).cells ({ frames := 0, cells := 0, slots := 0, locals := 0 } : Room).slots) := by
  refine MetFree.of_bodySF (plainFor_of_name own_pn1) hisR ?_
  intro p e s m args below meth c s₁ Bd hml0 hP hK
  obtain ⟨rfl, hZ, hh⟩ := hP
  have hx := Bd.exec
  have hby := Bd.bytes
  have hml : c.maxLocals = 4 := hml0
  have hown : s.vm.findClass "com/example/certwright/certwright/x509/RevokedCertificatesIsWholeKeyPinLaw" = some m.cls := findClass_of_methodNamed Bd.named
  have hnm := (name_of_methodNamed Bd.named Bd.method).1
  have X0 : Stand p l e ({ frames := 0, cells := 0, slots := 0, locals := 0 } : Room) s m #[(.ref o0), (.int p1), (.long q2)] below meth c s₁ [] 0 0 := Stand.of_body Bd
  have e0 : s₁.heap = h0 := by rw [← hh, Bd.state]; rfl
  have N0 := Fr.nil n0
  suffices H : Run p.tables e below (FinR s ({ frames := 0, cells := 0, slots := 0, locals := 0 } : Room).cells ({ frames := 0, cells := 0, slots := 0, locals := 0 } : Room).slots (Say (fun v h L => v = none ∧ Fr n0 L ∧ Keep h0 h [o0] ∧ ∃ g, Ints Z h o0 .byte (13 : Int32) g ∧ ∀ j : Int32, ¬ j < 0 → j < p1 → g j = f j))) s₁ (mkF m 0 #[.val (.ref o0), .val (.int p1), .val (.long q2), .second] []) by
    obtain ⟨s₂, o, k1, k2, k3, k4⟩ := H
    exact ⟨s₂, o, castTop (own_efp m o0 p1 q2) k1, k2, k3, k4⟩
  refine Run.aloadN (pc' := 1) X0 hx (hb hby own_dp_0) rfl rfl ?_
  refine Run.iloadN (pc' := 2) X0 hx (hb hby own_dp_1) rfl rfl ?_
  refine Run.lloadN (pc' := 3) X0 hx (hb hby own_dp_2) rfl rfl ?_
  refine Run.bipush (pc' := 5) (v := (56 : Int32)) X0 hx (hb hby own_dp_3) rfl rfl ?_
  refine Run.lushr (pc' := 6) X0 hx (hb hby own_dp_5) rfl ?_
  refine Run.l2i (pc' := 7) X0 hx (hb hby own_dp_6) rfl ?_
  refine Run.i2b (pc' := 8) X0 hx (hb hby own_dp_7) rfl ?_
  obtain ⟨T1, h1, sl1, u1, X1, e1, W1, A1, st1⟩ := st_bastore X0 hx hZ e0 A_t (Ls := #[.val (.ref o0), .val (.int p1), .val (.long q2), .second]) (rest := []) (j := p1) (x := ((((q2.toUInt64 >>> ((56 : Int32) &&& 0x3f).toInt64.toUInt64).toInt64).toInt32).toInt8.toInt32)) (own_pin0 hp).1 (own_pin0 hp).2 (hb hby own_dp_8)
  have N1 := Fr.snoc X1 N0 g_o
  obtain ⟨f2, qf2⟩ : ∃ g : Int32 → Int32, g = fun i => if i = p1 then ((((q2.toUInt64 >>> ((56 : Int32) &&& 0x3f).toInt64.toUInt64).toInt64).toInt32).toInt8.toInt32).toInt8.toInt32 else f i := ⟨_, rfl⟩
  replace A1 : Ints Z h1 o0 .byte (13 : Int32) f2 := by rw [qf2]; exact A1
  have Z1 : n0 ≤ h1.size := Nat.le_trans Z0 (Keep.of_wr W1).1
  have K1 := (Keep.refl h0 [o0]).wr W1 (Or.inl (List.mem_of_getElem? (i := 0) rfl))
  refine Run.back (g' := (mkF m 9 #[.val (.ref o0), .val (.int p1), .val (.long q2), .second] [])) st1 ?_
  refine Run.aloadN (pc' := 10) X1 hx (hb hby own_dp_9) rfl rfl ?_
  refine Run.iloadN (pc' := 11) X1 hx (hb hby own_dp_10) rfl rfl ?_
  refine Run.iconst (pc' := 12) (v := (1 : Int32)) X1 hx (hb hby own_dp_11) rfl rfl ?_
  refine Run.iadd (pc' := 13) X1 hx (hb hby own_dp_12) rfl ?_
  refine Run.lloadN (pc' := 14) X1 hx (hb hby own_dp_13) rfl rfl ?_
  refine Run.bipush (pc' := 16) (v := (48 : Int32)) X1 hx (hb hby own_dp_14) rfl rfl ?_
  refine Run.lushr (pc' := 17) X1 hx (hb hby own_dp_16) rfl ?_
  refine Run.l2i (pc' := 18) X1 hx (hb hby own_dp_17) rfl ?_
  refine Run.i2b (pc' := 19) X1 hx (hb hby own_dp_18) rfl ?_
  obtain ⟨T3, h3, sl3, u3, X3, e3, W3, A3, st3⟩ := st_bastore X1 hx hZ e1 A1 (Ls := #[.val (.ref o0), .val (.int p1), .val (.long q2), .second]) (rest := []) (j := (p1 + (1 : Int32))) (x := ((((q2.toUInt64 >>> ((48 : Int32) &&& 0x3f).toInt64.toUInt64).toInt64).toInt32).toInt8.toInt32)) (own_pin (k := 1) (by decide) hp).1 (own_pin (k := 1) (by decide) hp).2 (hb hby own_dp_19)
  have N3 := Fr.snoc X3 N1 g_o
  obtain ⟨f4, qf4⟩ : ∃ g : Int32 → Int32, g = fun i => if i = (p1 + (1 : Int32)) then ((((q2.toUInt64 >>> ((48 : Int32) &&& 0x3f).toInt64.toUInt64).toInt64).toInt32).toInt8.toInt32).toInt8.toInt32 else f2 i := ⟨_, rfl⟩
  replace A3 : Ints Z h3 o0 .byte (13 : Int32) f4 := by rw [qf4]; exact A3
  have Z3 : n0 ≤ h3.size := Nat.le_trans Z1 (Keep.of_wr W3).1
  have K3 := K1.wr W3 (Or.inl (List.mem_of_getElem? (i := 0) rfl))
  refine Run.back (g' := (mkF m 20 #[.val (.ref o0), .val (.int p1), .val (.long q2), .second] [])) st3 ?_
  refine Run.aloadN (pc' := 21) X3 hx (hb hby own_dp_20) rfl rfl ?_
  refine Run.iloadN (pc' := 22) X3 hx (hb hby own_dp_21) rfl rfl ?_
  refine Run.iconst (pc' := 23) (v := (2 : Int32)) X3 hx (hb hby own_dp_22) rfl rfl ?_
  refine Run.iadd (pc' := 24) X3 hx (hb hby own_dp_23) rfl ?_
  refine Run.lloadN (pc' := 25) X3 hx (hb hby own_dp_24) rfl rfl ?_
  refine Run.bipush (pc' := 27) (v := (40 : Int32)) X3 hx (hb hby own_dp_25) rfl rfl ?_
  refine Run.lushr (pc' := 28) X3 hx (hb hby own_dp_27) rfl ?_
  refine Run.l2i (pc' := 29) X3 hx (hb hby own_dp_28) rfl ?_
  refine Run.i2b (pc' := 30) X3 hx (hb hby own_dp_29) rfl ?_
  obtain ⟨T5, h5, sl5, u5, X5, e5, W5, A5, st5⟩ := st_bastore X3 hx hZ e3 A3 (Ls := #[.val (.ref o0), .val (.int p1), .val (.long q2), .second]) (rest := []) (j := (p1 + (2 : Int32))) (x := ((((q2.toUInt64 >>> ((40 : Int32) &&& 0x3f).toInt64.toUInt64).toInt64).toInt32).toInt8.toInt32)) (own_pin (k := 2) (by decide) hp).1 (own_pin (k := 2) (by decide) hp).2 (hb hby own_dp_30)
  have N5 := Fr.snoc X5 N3 g_o
  obtain ⟨f6, qf6⟩ : ∃ g : Int32 → Int32, g = fun i => if i = (p1 + (2 : Int32)) then ((((q2.toUInt64 >>> ((40 : Int32) &&& 0x3f).toInt64.toUInt64).toInt64).toInt32).toInt8.toInt32).toInt8.toInt32 else f4 i := ⟨_, rfl⟩
  replace A5 : Ints Z h5 o0 .byte (13 : Int32) f6 := by rw [qf6]; exact A5
  have Z5 : n0 ≤ h5.size := Nat.le_trans Z3 (Keep.of_wr W5).1
  have K5 := K3.wr W5 (Or.inl (List.mem_of_getElem? (i := 0) rfl))
  refine Run.back (g' := (mkF m 31 #[.val (.ref o0), .val (.int p1), .val (.long q2), .second] [])) st5 ?_
  refine Run.aloadN (pc' := 32) X5 hx (hb hby own_dp_31) rfl rfl ?_
  refine Run.iloadN (pc' := 33) X5 hx (hb hby own_dp_32) rfl rfl ?_
  refine Run.iconst (pc' := 34) (v := (3 : Int32)) X5 hx (hb hby own_dp_33) rfl rfl ?_
  refine Run.iadd (pc' := 35) X5 hx (hb hby own_dp_34) rfl ?_
  refine Run.lloadN (pc' := 36) X5 hx (hb hby own_dp_35) rfl rfl ?_
  refine Run.bipush (pc' := 38) (v := (32 : Int32)) X5 hx (hb hby own_dp_36) rfl rfl ?_
  refine Run.lushr (pc' := 39) X5 hx (hb hby own_dp_38) rfl ?_
  refine Run.l2i (pc' := 40) X5 hx (hb hby own_dp_39) rfl ?_
  refine Run.i2b (pc' := 41) X5 hx (hb hby own_dp_40) rfl ?_
  obtain ⟨T7, h7, sl7, u7, X7, e7, W7, A7, st7⟩ := st_bastore X5 hx hZ e5 A5 (Ls := #[.val (.ref o0), .val (.int p1), .val (.long q2), .second]) (rest := []) (j := (p1 + (3 : Int32))) (x := ((((q2.toUInt64 >>> ((32 : Int32) &&& 0x3f).toInt64.toUInt64).toInt64).toInt32).toInt8.toInt32)) (own_pin (k := 3) (by decide) hp).1 (own_pin (k := 3) (by decide) hp).2 (hb hby own_dp_41)
  have N7 := Fr.snoc X7 N5 g_o
  obtain ⟨f8, qf8⟩ : ∃ g : Int32 → Int32, g = fun i => if i = (p1 + (3 : Int32)) then ((((q2.toUInt64 >>> ((32 : Int32) &&& 0x3f).toInt64.toUInt64).toInt64).toInt32).toInt8.toInt32).toInt8.toInt32 else f6 i := ⟨_, rfl⟩
  replace A7 : Ints Z h7 o0 .byte (13 : Int32) f8 := by rw [qf8]; exact A7
  have Z7 : n0 ≤ h7.size := Nat.le_trans Z5 (Keep.of_wr W7).1
  have K7 := K5.wr W7 (Or.inl (List.mem_of_getElem? (i := 0) rfl))
  refine Run.back (g' := (mkF m 42 #[.val (.ref o0), .val (.int p1), .val (.long q2), .second] [])) st7 ?_
  refine Run.aloadN (pc' := 43) X7 hx (hb hby own_dp_42) rfl rfl ?_
  refine Run.iloadN (pc' := 44) X7 hx (hb hby own_dp_43) rfl rfl ?_
  refine Run.iconst (pc' := 45) (v := (4 : Int32)) X7 hx (hb hby own_dp_44) rfl rfl ?_
  refine Run.iadd (pc' := 46) X7 hx (hb hby own_dp_45) rfl ?_
  refine Run.lloadN (pc' := 47) X7 hx (hb hby own_dp_46) rfl rfl ?_
  refine Run.bipush (pc' := 49) (v := (24 : Int32)) X7 hx (hb hby own_dp_47) rfl rfl ?_
  refine Run.lushr (pc' := 50) X7 hx (hb hby own_dp_49) rfl ?_
  refine Run.l2i (pc' := 51) X7 hx (hb hby own_dp_50) rfl ?_
  refine Run.i2b (pc' := 52) X7 hx (hb hby own_dp_51) rfl ?_
  obtain ⟨T9, h9, sl9, u9, X9, e9, W9, A9, st9⟩ := st_bastore X7 hx hZ e7 A7 (Ls := #[.val (.ref o0), .val (.int p1), .val (.long q2), .second]) (rest := []) (j := (p1 + (4 : Int32))) (x := ((((q2.toUInt64 >>> ((24 : Int32) &&& 0x3f).toInt64.toUInt64).toInt64).toInt32).toInt8.toInt32)) (own_pin (k := 4) (by decide) hp).1 (own_pin (k := 4) (by decide) hp).2 (hb hby own_dp_52)
  have N9 := Fr.snoc X9 N7 g_o
  obtain ⟨f10, qf10⟩ : ∃ g : Int32 → Int32, g = fun i => if i = (p1 + (4 : Int32)) then ((((q2.toUInt64 >>> ((24 : Int32) &&& 0x3f).toInt64.toUInt64).toInt64).toInt32).toInt8.toInt32).toInt8.toInt32 else f8 i := ⟨_, rfl⟩
  replace A9 : Ints Z h9 o0 .byte (13 : Int32) f10 := by rw [qf10]; exact A9
  have Z9 : n0 ≤ h9.size := Nat.le_trans Z7 (Keep.of_wr W9).1
  have K9 := K7.wr W9 (Or.inl (List.mem_of_getElem? (i := 0) rfl))
  refine Run.back (g' := (mkF m 53 #[.val (.ref o0), .val (.int p1), .val (.long q2), .second] [])) st9 ?_
  refine Run.aloadN (pc' := 54) X9 hx (hb hby own_dp_53) rfl rfl ?_
  refine Run.iloadN (pc' := 55) X9 hx (hb hby own_dp_54) rfl rfl ?_
  refine Run.iconst (pc' := 56) (v := (5 : Int32)) X9 hx (hb hby own_dp_55) rfl rfl ?_
  refine Run.iadd (pc' := 57) X9 hx (hb hby own_dp_56) rfl ?_
  refine Run.lloadN (pc' := 58) X9 hx (hb hby own_dp_57) rfl rfl ?_
  refine Run.bipush (pc' := 60) (v := (16 : Int32)) X9 hx (hb hby own_dp_58) rfl rfl ?_
  refine Run.lushr (pc' := 61) X9 hx (hb hby own_dp_60) rfl ?_
  refine Run.l2i (pc' := 62) X9 hx (hb hby own_dp_61) rfl ?_
  refine Run.i2b (pc' := 63) X9 hx (hb hby own_dp_62) rfl ?_
  obtain ⟨T11, h11, sl11, u11, X11, e11, W11, A11, st11⟩ := st_bastore X9 hx hZ e9 A9 (Ls := #[.val (.ref o0), .val (.int p1), .val (.long q2), .second]) (rest := []) (j := (p1 + (5 : Int32))) (x := ((((q2.toUInt64 >>> ((16 : Int32) &&& 0x3f).toInt64.toUInt64).toInt64).toInt32).toInt8.toInt32)) (own_pin (k := 5) (by decide) hp).1 (own_pin (k := 5) (by decide) hp).2 (hb hby own_dp_63)
  have N11 := Fr.snoc X11 N9 g_o
  obtain ⟨f12, qf12⟩ : ∃ g : Int32 → Int32, g = fun i => if i = (p1 + (5 : Int32)) then ((((q2.toUInt64 >>> ((16 : Int32) &&& 0x3f).toInt64.toUInt64).toInt64).toInt32).toInt8.toInt32).toInt8.toInt32 else f10 i := ⟨_, rfl⟩
  replace A11 : Ints Z h11 o0 .byte (13 : Int32) f12 := by rw [qf12]; exact A11
  have Z11 : n0 ≤ h11.size := Nat.le_trans Z9 (Keep.of_wr W11).1
  have K11 := K9.wr W11 (Or.inl (List.mem_of_getElem? (i := 0) rfl))
  refine Run.back (g' := (mkF m 64 #[.val (.ref o0), .val (.int p1), .val (.long q2), .second] [])) st11 ?_
  refine Run.aloadN (pc' := 65) X11 hx (hb hby own_dp_64) rfl rfl ?_
  refine Run.iloadN (pc' := 66) X11 hx (hb hby own_dp_65) rfl rfl ?_
  refine Run.bipush (pc' := 68) (v := (6 : Int32)) X11 hx (hb hby own_dp_66) rfl rfl ?_
  refine Run.iadd (pc' := 69) X11 hx (hb hby own_dp_68) rfl ?_
  refine Run.lloadN (pc' := 70) X11 hx (hb hby own_dp_69) rfl rfl ?_
  refine Run.bipush (pc' := 72) (v := (8 : Int32)) X11 hx (hb hby own_dp_70) rfl rfl ?_
  refine Run.lushr (pc' := 73) X11 hx (hb hby own_dp_72) rfl ?_
  refine Run.l2i (pc' := 74) X11 hx (hb hby own_dp_73) rfl ?_
  refine Run.i2b (pc' := 75) X11 hx (hb hby own_dp_74) rfl ?_
  obtain ⟨T13, h13, sl13, u13, X13, e13, W13, A13, st13⟩ := st_bastore X11 hx hZ e11 A11 (Ls := #[.val (.ref o0), .val (.int p1), .val (.long q2), .second]) (rest := []) (j := (p1 + (6 : Int32))) (x := ((((q2.toUInt64 >>> ((8 : Int32) &&& 0x3f).toInt64.toUInt64).toInt64).toInt32).toInt8.toInt32)) (own_pin (k := 6) (by decide) hp).1 (own_pin (k := 6) (by decide) hp).2 (hb hby own_dp_75)
  have N13 := Fr.snoc X13 N11 g_o
  obtain ⟨f14, qf14⟩ : ∃ g : Int32 → Int32, g = fun i => if i = (p1 + (6 : Int32)) then ((((q2.toUInt64 >>> ((8 : Int32) &&& 0x3f).toInt64.toUInt64).toInt64).toInt32).toInt8.toInt32).toInt8.toInt32 else f12 i := ⟨_, rfl⟩
  replace A13 : Ints Z h13 o0 .byte (13 : Int32) f14 := by rw [qf14]; exact A13
  have Z13 : n0 ≤ h13.size := Nat.le_trans Z11 (Keep.of_wr W13).1
  have K13 := K11.wr W13 (Or.inl (List.mem_of_getElem? (i := 0) rfl))
  refine Run.back (g' := (mkF m 76 #[.val (.ref o0), .val (.int p1), .val (.long q2), .second] [])) st13 ?_
  exact Run.retVoid X13 hx Bd.notSynchronized Bd.returns (hb hby own_dp_76) ⟨rfl, N13, by rw [e13]; exact K13, f14, by rw [e13]; exact A13, fun j h1 h2 => (((((((show f14 j = f12 j by rw [qf14]; exact if_neg (own_nep (k := 6) (by decide) hp h2)).trans (show f12 j = f10 j by rw [qf12]; exact if_neg (own_nep (k := 5) (by decide) hp h2))).trans (show f10 j = f8 j by rw [qf10]; exact if_neg (own_nep (k := 4) (by decide) hp h2))).trans (show f8 j = f6 j by rw [qf8]; exact if_neg (own_nep (k := 3) (by decide) hp h2))).trans (show f6 j = f4 j by rw [qf6]; exact if_neg (own_nep (k := 2) (by decide) hp h2))).trans (show f4 j = f2 j by rw [qf4]; exact if_neg (own_nep (k := 1) (by decide) hp h2))).trans (show f2 j = f j by rw [qf2]; exact if_neg (own_ne0 h2)))⟩ (by decide) (by decide)
theorem own_dl_0 : decode prog_111_method_12_code 0 = .ok (.aload_n 0, 1) := by decide +kernel
theorem own_dl_1 : decode prog_111_method_12_code 1 = .ok (.iload_n 1, 1) := by decide +kernel
theorem own_dl_2 : decode prog_111_method_12_code 2 = .ok (.iconst 1, 1) := by decide +kernel
theorem own_dl_3 : decode prog_111_method_12_code 3 = .ok (.iadd, 1) := by decide +kernel
theorem own_dl_4 : decode prog_111_method_12_code 4 = .ok (.baload, 1) := by decide +kernel
theorem own_dl_5 : decode prog_111_method_12_code 5 = .ok (.sipush 255, 3) := by decide +kernel
theorem own_dl_8 : decode prog_111_method_12_code 8 = .ok (.iand, 1) := by decide +kernel
theorem own_dl_9 : decode prog_111_method_12_code 9 = .ok (.istore_n 2, 1) := by decide +kernel
theorem own_dl_10 : decode prog_111_method_12_code 10 = .ok (.iload_n 2, 1) := by decide +kernel
theorem own_dl_11 : decode prog_111_method_12_code 11 = .ok (.sipush 128, 3) := by decide +kernel
theorem own_dl_14 : decode prog_111_method_12_code 14 = .ok (.if_icmp .ge 5, 3) := by decide +kernel
theorem own_dl_17 : decode prog_111_method_12_code 17 = .ok (.iload_n 2, 1) := by decide +kernel
theorem own_dl_18 : decode prog_111_method_12_code 18 = .ok (.ireturn, 1) := by decide +kernel
theorem own_dl_19 : decode prog_111_method_12_code 19 = .ok (.iconst 0, 1) := by decide +kernel
theorem own_dl_20 : decode prog_111_method_12_code 20 = .ok (.istore_n 3, 1) := by decide +kernel
theorem own_dl_21 : decode prog_111_method_12_code 21 = .ok (.iconst 0, 1) := by decide +kernel
theorem own_dl_22 : decode prog_111_method_12_code 22 = .ok (.istore 4, 2) := by decide +kernel
theorem own_dl_24 : decode prog_111_method_12_code 24 = .ok (.iload 4, 2) := by decide +kernel
theorem own_dl_26 : decode prog_111_method_12_code 26 = .ok (.iload_n 2, 1) := by decide +kernel
theorem own_dl_27 : decode prog_111_method_12_code 27 = .ok (.bipush 127, 2) := by decide +kernel
theorem own_dl_29 : decode prog_111_method_12_code 29 = .ok (.iand, 1) := by decide +kernel
theorem own_dl_30 : decode prog_111_method_12_code 30 = .ok (.if_icmp .ge 27, 3) := by decide +kernel
theorem own_dl_33 : decode prog_111_method_12_code 33 = .ok (.iload_n 3, 1) := by decide +kernel
theorem own_dl_34 : decode prog_111_method_12_code 34 = .ok (.bipush 8, 2) := by decide +kernel
theorem own_dl_36 : decode prog_111_method_12_code 36 = .ok (.ishl, 1) := by decide +kernel
theorem own_dl_37 : decode prog_111_method_12_code 37 = .ok (.aload_n 0, 1) := by decide +kernel
theorem own_dl_38 : decode prog_111_method_12_code 38 = .ok (.iload_n 1, 1) := by decide +kernel
theorem own_dl_39 : decode prog_111_method_12_code 39 = .ok (.iconst 2, 1) := by decide +kernel
theorem own_dl_40 : decode prog_111_method_12_code 40 = .ok (.iadd, 1) := by decide +kernel
theorem own_dl_41 : decode prog_111_method_12_code 41 = .ok (.iload 4, 2) := by decide +kernel
theorem own_dl_43 : decode prog_111_method_12_code 43 = .ok (.iadd, 1) := by decide +kernel
theorem own_dl_44 : decode prog_111_method_12_code 44 = .ok (.baload, 1) := by decide +kernel
theorem own_dl_45 : decode prog_111_method_12_code 45 = .ok (.sipush 255, 3) := by decide +kernel
theorem own_dl_48 : decode prog_111_method_12_code 48 = .ok (.iand, 1) := by decide +kernel
theorem own_dl_49 : decode prog_111_method_12_code 49 = .ok (.ior, 1) := by decide +kernel
theorem own_dl_50 : decode prog_111_method_12_code 50 = .ok (.istore_n 3, 1) := by decide +kernel
theorem own_dl_51 : decode prog_111_method_12_code 51 = .ok (.iinc 4 1, 3) := by decide +kernel
theorem own_dl_54 : decode prog_111_method_12_code 54 = .ok (.goto (-30), 3) := by decide +kernel
theorem own_dl_57 : decode prog_111_method_12_code 57 = .ok (.iload_n 3, 1) := by decide +kernel
theorem own_dl_58 : decode prog_111_method_12_code 58 = .ok (.ireturn, 1) := by decide +kernel
theorem own_efl (m : MethodId) (x0 : Addr) (x1 : Int32) : entryFrame m #[(.ref x0), (.int x1)] 5 = mkF m 0 #[.val (.ref x0), .val (.int x1), .unset, .unset, .unset] [] := by first | (simp [entryFrame, mkF, argsToLocals, Value.category]; done) | rfl
set_option maxRecDepth 65536 in
set_option maxHeartbeats 40000000 in
theorem rm_l (l : Launch) (Z : State) (a0 : Array Value) (hw : ∀ d ∈ tables_1, d.before a0 Z = true) (ws : List Jvm.Cond) (o0 : Addr) (p1 : Int32) (f : Int32 → Int32) (k : Nat) (h0 : Heap) (n0 : Nat) (Z0 : n0 ≤ h0.size) (A_t : Ints Z h0 o0 .byte (13 : Int32) f) (hi0 : ¬ (p1 + (1 : Int32)) < 0) (hi1 : (p1 + (1 : Int32)) < (13 : Int32)) (hk : (k : Int) = (((f (p1 + (1 : Int32))) &&& (255 : Int32)) &&& (127 : Int32)).toInt) (hin : ∀ j : Int32, 0 ≤ j.toInt → j.toInt < (((f (p1 + (1 : Int32))) &&& (255 : Int32)) &&& (127 : Int32)).toInt → ¬ ((f (p1 + (1 : Int32))) &&& (255 : Int32)) < (128 : Int32) → ¬ ((p1 + (2 : Int32)) + j) < 0 ∧ ((p1 + (2 : Int32)) + j) < (13 : Int32)) :
    MetFree l (⟨"com/example/certwright/certwright/x509/RevokedCertificates", "contentLength", "([BI)I"⟩ : MethodName) (head1 (Jvm.Cond.code (⟨"com/example/certwright/certwright/x509/RevokedCertificates", "contentLength", "([BI)I"⟩ : MethodName) prog_111_method_12_code 5 (some .int) :: ws) ({ frames := 0, cells := 0, slots := 0, locals := 0 } : Room)) (fun a U => a = #[(.ref o0), (.int p1)] ∧ Z.Warmed39 U.vm ∧ U.heap = h0) (fun _ _ _ _ _ => True) (fun _ U o U' => ∃ v L, o = .returned v ∧ (QPure n0 h0 (.int (own_L p1 f k))) v U'.heap L ∧ FrameEnd U o U' L ({ frames := 0, cells := 0, slots := 0, locals := 0 } : Room).cells ({ frames := 0, cells := 0, slots := 0, locals := 0 } : Room).slots) := by
  refine MetFree.of_bodySF (plainFor_of_name own_pn0) hisR ?_
  intro p e s m args below meth c s₁ Bd hml0 hP hK
  obtain ⟨rfl, hZ, hh⟩ := hP
  have hx := Bd.exec
  have hby := Bd.bytes
  have hml : c.maxLocals = 5 := hml0
  have hown : s.vm.findClass "com/example/certwright/certwright/x509/RevokedCertificates" = some m.cls := findClass_of_methodNamed Bd.named
  have hnm := (name_of_methodNamed Bd.named Bd.method).1
  have X0 : Stand p l e ({ frames := 0, cells := 0, slots := 0, locals := 0 } : Room) s m #[(.ref o0), (.int p1)] below meth c s₁ [] 0 0 := Stand.of_body Bd
  have e0 : s₁.heap = h0 := by rw [← hh, Bd.state]; rfl
  have N0 := Fr.nil n0
  suffices H : Run p.tables e below (FinR s ({ frames := 0, cells := 0, slots := 0, locals := 0 } : Room).cells ({ frames := 0, cells := 0, slots := 0, locals := 0 } : Room).slots (QPure n0 h0 (.int (own_L p1 f k)))) s₁ (mkF m 0 #[.val (.ref o0), .val (.int p1), .unset, .unset, .unset] []) by
    obtain ⟨s₂, o, k1, k2, k3, k4⟩ := H
    exact ⟨s₂, o, castTop (own_efl m o0 p1) k1, k2, k3, k4⟩
  obtain ⟨R, hR⟩ : ∃ R, R = own_L p1 f k := ⟨_, rfl⟩
  rw [← hR]
  rw [own_L] at hR
  refine Run.aloadN (pc' := 1) X0 hx (hb hby own_dl_0) rfl rfl ?_
  refine Run.iloadN (pc' := 2) X0 hx (hb hby own_dl_1) rfl rfl ?_
  refine Run.iconst (pc' := 3) (v := (1 : Int32)) X0 hx (hb hby own_dl_2) rfl rfl ?_
  refine Run.iadd (pc' := 4) X0 hx (hb hby own_dl_3) rfl ?_
  refine Run.baload (pc' := 5) X0 hx hZ e0 A_t hi0 hi1 (hb hby own_dl_4) rfl ?_
  refine Run.sipush (pc' := 8) (v := (255 : Int32)) X0 hx (hb hby own_dl_5) rfl rfl ?_
  refine Run.iand (pc' := 9) X0 hx (hb hby own_dl_8) rfl ?_
  refine Run.istoreN (pc' := 10) X0 hx (l' := #[.val (.ref o0), .val (.int p1), .val (.int ((f (p1 + (1 : Int32))) &&& (255 : Int32))), .unset, .unset]) (hb hby own_dl_9) rfl rfl ?_
  obtain ⟨x, hx1⟩ : ∃ x, x = ((f (p1 + (1 : Int32))) &&& (255 : Int32)) := ⟨_, rfl⟩
  rw [← hx1] at hR hk hin ⊢
  have LOOP : ¬ x < (128 : Int32) → ∀ (k : Nat) (acc j R : Int32) (T : State) (locs : List Loc), R = own_cll k f p1 acc j → j.toInt + k = (x &&& (127 : Int32)).toInt → 0 ≤ j.toInt → Stand p l e ({ frames := 0, cells := 0, slots := 0, locals := 0 } : Room) s m #[(.ref o0), (.int p1)] below meth c T locs 0 0 → T.heap = h0 → Fr n0 locs → Run p.tables e below (FinR s ({ frames := 0, cells := 0, slots := 0, locals := 0 } : Room).cells ({ frames := 0, cells := 0, slots := 0, locals := 0 } : Room).slots (QPure n0 h0 (.int R))) T (mkF m 24 #[.val (.ref o0), .val (.int p1), .val (.int x), .val (.int acc), .val (.int j)] []) := by
    intro hx128 k
    clear hR hk
    induction k with
    | zero =>
      intro acc j R T locs hR hj hj0 X eT N
      have hlt : ¬ j < (x &&& (127 : Int32)) := fun q => by have := Int32.lt_iff_toInt_lt.mp q; omega
      refine Run.iload (pc' := 26) X hx (hb hby own_dl_24) rfl rfl ?_
      refine Run.iloadN (pc' := 27) X hx (hb hby own_dl_26) rfl rfl ?_
      refine Run.bipush (pc' := 29) (v := (127 : Int32)) X hx (hb hby own_dl_27) rfl rfl ?_
      refine Run.iand (pc' := 30) X hx (hb hby own_dl_29) rfl ?_
      refine Run.icmpYes (pc' := 57) X hx (hb hby own_dl_30) (flt hlt).2.1 (by decide) (by decide) ?_
      refine Run.iloadN (pc' := 58) X hx (hb hby own_dl_57) rfl rfl ?_
      exact Run.retInt X hx Bd.notSynchronized Bd.returns (hb hby own_dl_58) ⟨by rw [hR]; rfl, N, eT⟩ (by decide) (by decide)
    | succ k ih =>
      intro acc j R T locs hR hj hj0 X eT N
      have hlt : j < (x &&& (127 : Int32)) := Int32.lt_iff_toInt_lt.mpr (by omega)
      have hup := own_up hj hj0
      obtain ⟨hn0, hn1⟩ := hin j hj0 (by omega) hx128
      refine Run.iload (pc' := 26) X hx (hb hby own_dl_24) rfl rfl ?_
      refine Run.iloadN (pc' := 27) X hx (hb hby own_dl_26) rfl rfl ?_
      refine Run.bipush (pc' := 29) (v := (127 : Int32)) X hx (hb hby own_dl_27) rfl rfl ?_
      refine Run.iand (pc' := 30) X hx (hb hby own_dl_29) rfl ?_
      refine Run.icmpNo (pc' := 33) X hx (hb hby own_dl_30) (tlt hlt).2.1 rfl ?_
      refine Run.iloadN (pc' := 34) X hx (hb hby own_dl_33) rfl rfl ?_
      refine Run.bipush (pc' := 36) (v := (8 : Int32)) X hx (hb hby own_dl_34) rfl rfl ?_
      refine Run.ishl (pc' := 37) X hx (hb hby own_dl_36) rfl ?_
      refine Run.aloadN (pc' := 38) X hx (hb hby own_dl_37) rfl rfl ?_
      refine Run.iloadN (pc' := 39) X hx (hb hby own_dl_38) rfl rfl ?_
      refine Run.iconst (pc' := 40) (v := (2 : Int32)) X hx (hb hby own_dl_39) rfl rfl ?_
      refine Run.iadd (pc' := 41) X hx (hb hby own_dl_40) rfl ?_
      refine Run.iload (pc' := 43) X hx (hb hby own_dl_41) rfl rfl ?_
      refine Run.iadd (pc' := 44) X hx (hb hby own_dl_43) rfl ?_
      refine Run.baload (pc' := 45) X hx hZ eT A_t hn0 hn1 (hb hby own_dl_44) rfl ?_
      refine Run.sipush (pc' := 48) (v := (255 : Int32)) X hx (hb hby own_dl_45) rfl rfl ?_
      refine Run.iand (pc' := 49) X hx (hb hby own_dl_48) rfl ?_
      refine Run.ior (pc' := 50) X hx (hb hby own_dl_49) rfl ?_
      refine Run.istoreN (pc' := 51) X hx (l' := #[.val (.ref o0), .val (.int p1), .val (.int x), .val (.int ((acc <<< ((8 : Int32) &&& 31)) ||| ((f ((p1 + (2 : Int32)) + j)) &&& (255 : Int32)))), .val (.int j)]) (hb hby own_dl_50) rfl rfl ?_
      refine Run.iinc (pc' := 54) (w := (1 : Int32)) (l' := #[.val (.ref o0), .val (.int p1), .val (.int x), .val (.int ((acc <<< ((8 : Int32) &&& 31)) ||| ((f ((p1 + (2 : Int32)) + j)) &&& (255 : Int32)))), .val (.int (j + (1 : Int32)))]) X hx (hb hby own_dl_51) rfl rfl rfl rfl ?_
      refine Run.goto (pc' := 24) X hx (hb hby own_dl_54) (by decide) (by decide) ?_
      exact ih _ _ _ _ _ hR (by rw [hup]; omega) (by rw [hup]; omega) X eT N
  refine Run.iloadN (pc' := 11) X0 hx (hb hby own_dl_10) rfl rfl ?_
  refine Run.sipush (pc' := 14) (v := (128 : Int32)) X0 hx (hb hby own_dl_11) rfl rfl ?_
  by_cases hc14 : x < (128 : Int32)
  · skip
    refine Run.icmpNo (pc' := 17) X0 hx (hb hby own_dl_14) (tlt hc14).2.1 rfl ?_
    refine Run.iloadN (pc' := 18) X0 hx (hb hby own_dl_17) rfl rfl ?_
    exact Run.retInt X0 hx Bd.notSynchronized Bd.returns (hb hby own_dl_18) ⟨by rw [hR, if_pos hc14], N0, e0⟩ (by decide) (by decide)
  · skip
    refine Run.icmpYes (pc' := 19) X0 hx (hb hby own_dl_14) (flt hc14).2.1 (by decide) (by decide) ?_
    refine Run.iconst (pc' := 20) (v := (0 : Int32)) X0 hx (hb hby own_dl_19) rfl rfl ?_
    refine Run.istoreN (pc' := 21) X0 hx (l' := #[.val (.ref o0), .val (.int p1), .val (.int x), .val (.int (0 : Int32)), .unset]) (hb hby own_dl_20) rfl rfl ?_
    refine Run.iconst (pc' := 22) (v := (0 : Int32)) X0 hx (hb hby own_dl_21) rfl rfl ?_
    refine Run.istore (pc' := 24) X0 hx (l' := #[.val (.ref o0), .val (.int p1), .val (.int x), .val (.int (0 : Int32)), .val (.int (0 : Int32))]) (hb hby own_dl_22) rfl rfl ?_
    rw [if_neg hc14] at hR
    exact LOOP hc14 k _ _ _ _ _ hR (by show (0 : Int) + _ = _; omega) (by decide) X0 e0 N0
theorem own_dk_0 : decode prog_111_method_9_code 0 = .ok (.aload_n 0, 1) := by decide +kernel
theorem own_dk_1 : decode prog_111_method_9_code 1 = .ok (.iload_n 1, 1) := by decide +kernel
theorem own_dk_2 : decode prog_111_method_9_code 2 = .ok (.invokestatic 69, 3) := by decide +kernel
theorem own_dk_5 : decode prog_111_method_9_code 5 = .ok (.istore_n 2, 1) := by decide +kernel
theorem own_dk_6 : decode prog_111_method_9_code 6 = .ok (.aload_n 0, 1) := by decide +kernel
theorem own_dk_7 : decode prog_111_method_9_code 7 = .ok (.iload_n 2, 1) := by decide +kernel
theorem own_dk_8 : decode prog_111_method_9_code 8 = .ok (.invokestatic 69, 3) := by decide +kernel
theorem own_dk_11 : decode prog_111_method_9_code 11 = .ok (.istore_n 3, 1) := by decide +kernel
theorem own_dk_12 : decode prog_111_method_9_code 12 = .ok (.aload_n 0, 1) := by decide +kernel
theorem own_dk_13 : decode prog_111_method_9_code 13 = .ok (.iload_n 2, 1) := by decide +kernel
theorem own_dk_14 : decode prog_111_method_9_code 14 = .ok (.invokestatic 73, 3) := by decide +kernel
theorem own_dk_17 : decode prog_111_method_9_code 17 = .ok (.istore 4, 2) := by decide +kernel
theorem own_dk_19 : decode prog_111_method_9_code 19 = .ok (.aload_n 0, 1) := by decide +kernel
theorem own_dk_20 : decode prog_111_method_9_code 20 = .ok (.iload_n 3, 1) := by decide +kernel
theorem own_dk_21 : decode prog_111_method_9_code 21 = .ok (.baload, 1) := by decide +kernel
theorem own_dk_22 : decode prog_111_method_9_code 22 = .ok (.ifCond .ge 7, 3) := by decide +kernel
theorem own_dk_25 : decode prog_111_method_9_code 25 = .ok (.iconst 1, 1) := by decide +kernel
theorem own_dk_26 : decode prog_111_method_9_code 26 = .ok (.goto 4, 3) := by decide +kernel
theorem own_dk_29 : decode prog_111_method_9_code 29 = .ok (.iconst 0, 1) := by decide +kernel
theorem own_dk_30 : decode prog_111_method_9_code 30 = .ok (.istore 5, 2) := by decide +kernel
theorem own_dk_32 : decode prog_111_method_9_code 32 = .ok (.iload 4, 2) := by decide +kernel
theorem own_dk_34 : decode prog_111_method_9_code 34 = .ok (.bipush 127, 2) := by decide +kernel
theorem own_dk_36 : decode prog_111_method_9_code 36 = .ok (.invokestatic 82, 3) := by decide +kernel
theorem own_dk_39 : decode prog_111_method_9_code 39 = .ok (.istore 6, 2) := by decide +kernel
theorem own_dk_41 : decode prog_111_method_9_code 41 = .ok (.iload 5, 2) := by decide +kernel
theorem own_dk_43 : decode prog_111_method_9_code 43 = .ok (.ifCond .eq 7, 3) := by decide +kernel
theorem own_dk_46 : decode prog_111_method_9_code 46 = .ok (.lconst 0, 1) := by decide +kernel
theorem own_dk_47 : decode prog_111_method_9_code 47 = .ok (.goto 6, 3) := by decide +kernel
theorem own_dk_50 : decode prog_111_method_9_code 50 = .ok (.ldc2_w 85, 3) := by decide +kernel
theorem own_dk_53 : decode prog_111_method_9_code 53 = .ok (.iload 5, 2) := by decide +kernel
theorem own_dk_55 : decode prog_111_method_9_code 55 = .ok (.ifCond .eq 11, 3) := by decide +kernel
theorem own_dk_58 : decode prog_111_method_9_code 58 = .ok (.bipush 127, 2) := by decide +kernel
theorem own_dk_60 : decode prog_111_method_9_code 60 = .ok (.iload 6, 2) := by decide +kernel
theorem own_dk_62 : decode prog_111_method_9_code 62 = .ok (.isub, 1) := by decide +kernel
theorem own_dk_63 : decode prog_111_method_9_code 63 = .ok (.goto 5, 3) := by decide +kernel
theorem own_dk_66 : decode prog_111_method_9_code 66 = .ok (.iload 6, 2) := by decide +kernel
theorem own_dk_68 : decode prog_111_method_9_code 68 = .ok (.i2l, 1) := by decide +kernel
theorem own_dk_69 : decode prog_111_method_9_code 69 = .ok (.bipush 56, 2) := by decide +kernel
theorem own_dk_71 : decode prog_111_method_9_code 71 = .ok (.lshl, 1) := by decide +kernel
theorem own_dk_72 : decode prog_111_method_9_code 72 = .ok (.lor, 1) := by decide +kernel
theorem own_dk_73 : decode prog_111_method_9_code 73 = .ok (.lstore 7, 2) := by decide +kernel
theorem own_dk_75 : decode prog_111_method_9_code 75 = .ok (.iconst 0, 1) := by decide +kernel
theorem own_dk_76 : decode prog_111_method_9_code 76 = .ok (.istore 9, 2) := by decide +kernel
theorem own_dk_78 : decode prog_111_method_9_code 78 = .ok (.iload 9, 2) := by decide +kernel
theorem own_dk_80 : decode prog_111_method_9_code 80 = .ok (.iload 4, 2) := by decide +kernel
theorem own_dk_82 : decode prog_111_method_9_code 82 = .ok (.bipush 7, 2) := by decide +kernel
theorem own_dk_84 : decode prog_111_method_9_code 84 = .ok (.invokestatic 82, 3) := by decide +kernel
theorem own_dk_87 : decode prog_111_method_9_code 87 = .ok (.if_icmp .ge 34, 3) := by decide +kernel
theorem own_dk_90 : decode prog_111_method_9_code 90 = .ok (.lload 7, 2) := by decide +kernel
theorem own_dk_92 : decode prog_111_method_9_code 92 = .ok (.aload_n 0, 1) := by decide +kernel
theorem own_dk_93 : decode prog_111_method_9_code 93 = .ok (.iload_n 3, 1) := by decide +kernel
theorem own_dk_94 : decode prog_111_method_9_code 94 = .ok (.iload 9, 2) := by decide +kernel
theorem own_dk_96 : decode prog_111_method_9_code 96 = .ok (.iadd, 1) := by decide +kernel
theorem own_dk_97 : decode prog_111_method_9_code 97 = .ok (.baload, 1) := by decide +kernel
theorem own_dk_98 : decode prog_111_method_9_code 98 = .ok (.sipush 255, 3) := by decide +kernel
theorem own_dk_101 : decode prog_111_method_9_code 101 = .ok (.iand, 1) := by decide +kernel
theorem own_dk_102 : decode prog_111_method_9_code 102 = .ok (.i2l, 1) := by decide +kernel
theorem own_dk_103 : decode prog_111_method_9_code 103 = .ok (.bipush 48, 2) := by decide +kernel
theorem own_dk_105 : decode prog_111_method_9_code 105 = .ok (.bipush 8, 2) := by decide +kernel
theorem own_dk_107 : decode prog_111_method_9_code 107 = .ok (.iload 9, 2) := by decide +kernel
theorem own_dk_109 : decode prog_111_method_9_code 109 = .ok (.imul, 1) := by decide +kernel
theorem own_dk_110 : decode prog_111_method_9_code 110 = .ok (.isub, 1) := by decide +kernel
theorem own_dk_111 : decode prog_111_method_9_code 111 = .ok (.lshl, 1) := by decide +kernel
theorem own_dk_112 : decode prog_111_method_9_code 112 = .ok (.lor, 1) := by decide +kernel
theorem own_dk_113 : decode prog_111_method_9_code 113 = .ok (.lstore 7, 2) := by decide +kernel
theorem own_dk_115 : decode prog_111_method_9_code 115 = .ok (.iinc 9 1, 3) := by decide +kernel
theorem own_dk_118 : decode prog_111_method_9_code 118 = .ok (.goto (-40), 3) := by decide +kernel
theorem own_dk_121 : decode prog_111_method_9_code 121 = .ok (.lload 7, 2) := by decide +kernel
theorem own_dk_123 : decode prog_111_method_9_code 123 = .ok (.lreturn, 1) := by decide +kernel
theorem own_efk (m : MethodId) (x0 : Addr) (x1 : Int32) : entryFrame m #[(.ref x0), (.int x1)] 10 = mkF m 0 #[.val (.ref x0), .val (.int x1), .unset, .unset, .unset, .unset, .unset, .unset, .unset, .unset] [] := by first | (simp [entryFrame, mkF, argsToLocals, Value.category]; done) | rfl
set_option maxRecDepth 65536 in
set_option maxHeartbeats 40000000 in
theorem rm_k (l : Launch) (Z : State) (a0 : Array Value) (hw : ∀ d ∈ tables_1, d.before a0 Z = true) (ws : List Jvm.Cond) (o0 : Addr) (p1 : Int32) (f : Int32 → Int32) (a : Int32) (st : Int32) (len : Int32) (kk : Nat) (t : Nat) (h0 : Heap) (n0 : Nat) (Z0 : n0 ≤ h0.size) (A_t : Ints Z h0 o0 .byte (13 : Int32) f) (ha0 : ¬ (p1 + (1 : Int32)) < 0) (ha1 : (p1 + (1 : Int32)) < (13 : Int32)) (hb0 : ¬ (a + (1 : Int32)) < 0) (hb1 : (a + (1 : Int32)) < (13 : Int32)) (hsa : (own_Fs o0 p1 f) = a) (hsb : (own_Fs o0 a f) = st) (hsl : own_L a f kk = len) (hkk : (kk : Int) = (((f (a + (1 : Int32))) &&& (255 : Int32)) &&& (127 : Int32)).toInt) (hin : ∀ j : Int32, 0 ≤ j.toInt → j.toInt < (((f (a + (1 : Int32))) &&& (255 : Int32)) &&& (127 : Int32)).toInt → ¬ ((f (a + (1 : Int32))) &&& (255 : Int32)) < (128 : Int32) → ¬ ((a + (2 : Int32)) + j) < 0 ∧ ((a + (2 : Int32)) + j) < (13 : Int32)) (hst : 0 ≤ st.toInt ∧ st.toInt ≤ 6) (ht : (t : Int) = (own_Fm len (7 : Int32)).toInt) (ht7 : t ≤ 7) :
    MetFree l (⟨"com/example/certwright/certwright/x509/RevokedCertificates", "serialNumberKey", "([BI)J"⟩ : MethodName) (head1 (Jvm.Cond.code (⟨"com/example/certwright/certwright/x509/RevokedCertificates", "serialNumberKey", "([BI)J"⟩ : MethodName) prog_111_method_9_code 10 (some .long) :: ws) ({ frames := 1, cells := 0, slots := 0, locals := 30 } : Room)) (fun a U => a = #[(.ref o0), (.int p1)] ∧ Z.Warmed39 U.vm ∧ U.heap = h0) (fun _ _ _ _ _ => True) (fun _ U o U' => ∃ v L, o = .returned v ∧ (QPure n0 h0 (.long (own_K f st len t))) v U'.heap L ∧ FrameEnd U o U' L ({ frames := 1, cells := 0, slots := 0, locals := 30 } : Room).cells ({ frames := 1, cells := 0, slots := 0, locals := 30 } : Room).slots) := by
  refine MetFree.of_bodySF (plainFor_of_name own_pn0) hisR ?_
  intro p e s m args below meth c s₁ Bd hml0 hP hK
  obtain ⟨rfl, hZ, hh⟩ := hP
  have hx := Bd.exec
  have hby := Bd.bytes
  have hml : c.maxLocals = 10 := hml0
  have hown : s.vm.findClass "com/example/certwright/certwright/x509/RevokedCertificates" = some m.cls := findClass_of_methodNamed Bd.named
  have hnm := (name_of_methodNamed Bd.named Bd.method).1
  have X0 : Stand p l e ({ frames := 1, cells := 0, slots := 0, locals := 30 } : Room) s m #[(.ref o0), (.int p1)] below meth c s₁ [] 0 0 := Stand.of_body Bd
  have e0 : s₁.heap = h0 := by rw [← hh, Bd.state]; rfl
  have N0 := Fr.nil n0
  suffices H : Run p.tables e below (FinR s ({ frames := 1, cells := 0, slots := 0, locals := 30 } : Room).cells ({ frames := 1, cells := 0, slots := 0, locals := 30 } : Room).slots (QPure n0 h0 (.long (own_K f st len t)))) s₁ (mkF m 0 #[.val (.ref o0), .val (.int p1), .unset, .unset, .unset, .unset, .unset, .unset, .unset, .unset] []) by
    obtain ⟨s₂, o, k1, k2, k3, k4⟩ := H
    exact ⟨s₂, o, castTop (own_efk m o0 p1) k1, k2, k3, k4⟩
  obtain ⟨R, hR⟩ : ∃ R, R = own_K f st len t := ⟨_, rfl⟩
  rw [← hR]
  rw [own_K] at hR
  have LOOP : ∀ (t : Nat) (i ng mm : Int32) (key R : Int64) (T : State) (locs : List Loc), R = own_lp t f st i key → i.toInt + t = (own_Fm len (7 : Int32)).toInt → 0 ≤ i.toInt → i.toInt + t ≤ 7 → Stand p l e ({ frames := 1, cells := 0, slots := 0, locals := 30 } : Room) s m #[(.ref o0), (.int p1)] below meth c T locs 0 0 → T.heap = h0 → Fr n0 locs → Run p.tables e below (FinR s ({ frames := 1, cells := 0, slots := 0, locals := 30 } : Room).cells ({ frames := 1, cells := 0, slots := 0, locals := 30 } : Room).slots (QPure n0 h0 (.long R))) T (mkF m 78 #[.val (.ref o0), .val (.int p1), .val (.int a), .val (.int st), .val (.int len), .val (.int ng), .val (.int mm), .val (.long key), .second, .val (.int i)] []) := by
    clear hR ht ht7 hsa hsb hsl hkk hin
    intro t
    induction t with
    | zero =>
      intro i ng mm key R T locs hR hi hi0 hi7 X eT N
      have hlt : ¬ i < own_Fm len (7 : Int32) := fun q => by have := Int32.lt_iff_toInt_lt.mp q; omega
      refine Run.iload (pc' := 80) X hx (hb hby own_dk_78) rfl rfl ?_
      refine Run.iload (pc' := 82) X hx (hb hby own_dk_80) rfl rfl ?_
      refine Run.bipush (pc' := 84) (v := (7 : Int32)) X hx (hb hby own_dk_82) rfl rfl ?_
      obtain ⟨T1, L1, v1, X1, Q1, st1⟩ := callStatic X hx (y := (⟨"java/lang/Math", "min", "(II)I"⟩ : MethodName)) (Ls := #[.val (.ref o0), .val (.int p1), .val (.int a), .val (.int st), .val (.int len), .val (.int ng), .val (.int mm), .val (.long key), .second, .val (.int i)]) (rest := [(.int i)]) (W := 1) (argsL := [(.int len), (.int (7 : Int32))]) hZ hown (hw _ (List.mem_of_getElem? (i := 15) rfl)) (hw _ (List.mem_of_getElem? (i := 16) rfl)) (hw _ (List.mem_of_getElem? (i := 17) rfl)) (hw _ (List.mem_of_getElem? (i := 18) rfl)) (by decide) eT (rm_m l Z a0 hw [] len (7 : Int32)  h0 n0 Z0 ) (hb hby own_dk_84) (lenOf own_pd0 rfl) (by decide) (by decide) (by rw [hml]; rfl) (Nat.le_of_eq rfl) (by decide) (by decide)
      obtain ⟨rfl, M1, e1⟩ := Q1
      have N1 := Fr.app N M1
      refine Run.back (g' := (mkF m 87 #[.val (.ref o0), .val (.int p1), .val (.int a), .val (.int st), .val (.int len), .val (.int ng), .val (.int mm), .val (.long key), .second, .val (.int i)] [(.int (own_Fm len (7 : Int32))), (.int i)])) st1 ?_
      refine Run.icmpYes (pc' := 121) X1 hx (hb hby own_dk_87) (flt hlt).2.1 (by decide) (by decide) ?_
      refine Run.lload (pc' := 123) X1 hx (hb hby own_dk_121) rfl rfl ?_
      exact Run.retLong X1 hx Bd.notSynchronized Bd.returns (hb hby own_dk_123) ⟨by rw [hR]; rfl, N1, e1⟩ (by decide) (by decide)
    | succ t ih =>
      intro i ng mm key R T locs hR hi hi0 hi7 X eT N
      have hlt : i < own_Fm len (7 : Int32) := Int32.lt_iff_toInt_lt.mpr (by omega)
      have hup := own_up hi hi0
      have hpi := own_sti hst hi0 (by omega)
      refine Run.iload (pc' := 80) X hx (hb hby own_dk_78) rfl rfl ?_
      refine Run.iload (pc' := 82) X hx (hb hby own_dk_80) rfl rfl ?_
      refine Run.bipush (pc' := 84) (v := (7 : Int32)) X hx (hb hby own_dk_82) rfl rfl ?_
      obtain ⟨T2, L2, v2, X2, Q2, st2⟩ := callStatic X hx (y := (⟨"java/lang/Math", "min", "(II)I"⟩ : MethodName)) (Ls := #[.val (.ref o0), .val (.int p1), .val (.int a), .val (.int st), .val (.int len), .val (.int ng), .val (.int mm), .val (.long key), .second, .val (.int i)]) (rest := [(.int i)]) (W := 1) (argsL := [(.int len), (.int (7 : Int32))]) hZ hown (hw _ (List.mem_of_getElem? (i := 15) rfl)) (hw _ (List.mem_of_getElem? (i := 16) rfl)) (hw _ (List.mem_of_getElem? (i := 17) rfl)) (hw _ (List.mem_of_getElem? (i := 18) rfl)) (by decide) eT (rm_m l Z a0 hw [] len (7 : Int32)  h0 n0 Z0 ) (hb hby own_dk_84) (lenOf own_pd0 rfl) (by decide) (by decide) (by rw [hml]; rfl) (Nat.le_of_eq rfl) (by decide) (by decide)
      obtain ⟨rfl, M2, e2⟩ := Q2
      have N2 := Fr.app N M2
      refine Run.back (g' := (mkF m 87 #[.val (.ref o0), .val (.int p1), .val (.int a), .val (.int st), .val (.int len), .val (.int ng), .val (.int mm), .val (.long key), .second, .val (.int i)] [(.int (own_Fm len (7 : Int32))), (.int i)])) st2 ?_
      refine Run.icmpNo (pc' := 90) X2 hx (hb hby own_dk_87) (tlt hlt).2.1 rfl ?_
      refine Run.lload (pc' := 92) X2 hx (hb hby own_dk_90) rfl rfl ?_
      refine Run.aloadN (pc' := 93) X2 hx (hb hby own_dk_92) rfl rfl ?_
      refine Run.iloadN (pc' := 94) X2 hx (hb hby own_dk_93) rfl rfl ?_
      refine Run.iload (pc' := 96) X2 hx (hb hby own_dk_94) rfl rfl ?_
      refine Run.iadd (pc' := 97) X2 hx (hb hby own_dk_96) rfl ?_
      refine Run.baload (pc' := 98) X2 hx hZ e2 A_t hpi.1 hpi.2 (hb hby own_dk_97) rfl ?_
      refine Run.sipush (pc' := 101) (v := (255 : Int32)) X2 hx (hb hby own_dk_98) rfl rfl ?_
      refine Run.iand (pc' := 102) X2 hx (hb hby own_dk_101) rfl ?_
      refine Run.i2l (pc' := 103) X2 hx (hb hby own_dk_102) rfl ?_
      refine Run.bipush (pc' := 105) (v := (48 : Int32)) X2 hx (hb hby own_dk_103) rfl rfl ?_
      refine Run.bipush (pc' := 107) (v := (8 : Int32)) X2 hx (hb hby own_dk_105) rfl rfl ?_
      refine Run.iload (pc' := 109) X2 hx (hb hby own_dk_107) rfl rfl ?_
      refine Run.imul (pc' := 110) X2 hx (hb hby own_dk_109) rfl ?_
      refine Run.isub (pc' := 111) X2 hx (hb hby own_dk_110) rfl ?_
      refine Run.lshl (pc' := 112) X2 hx (hb hby own_dk_111) rfl ?_
      refine Run.lor (pc' := 113) X2 hx (hb hby own_dk_112) rfl ?_
      refine Run.lstore (pc' := 115) X2 hx (l' := #[.val (.ref o0), .val (.int p1), .val (.int a), .val (.int st), .val (.int len), .val (.int ng), .val (.int mm), .val (.long (key ||| ((((f (st + i)) &&& (255 : Int32)).toInt64) <<< (((48 : Int32) - ((8 : Int32) * i)) &&& 0x3f).toInt64))), .second, .val (.int i)]) (hb hby own_dk_113) rfl rfl ?_
      refine Run.iinc (pc' := 118) (w := (1 : Int32)) (l' := #[.val (.ref o0), .val (.int p1), .val (.int a), .val (.int st), .val (.int len), .val (.int ng), .val (.int mm), .val (.long (key ||| ((((f (st + i)) &&& (255 : Int32)).toInt64) <<< (((48 : Int32) - ((8 : Int32) * i)) &&& 0x3f).toInt64))), .second, .val (.int (i + (1 : Int32)))]) X2 hx (hb hby own_dk_115) rfl rfl rfl rfl ?_
      refine Run.goto (pc' := 78) X2 hx (hb hby own_dk_118) (by decide) (by decide) ?_
      exact ih _ _ _ _ _ _ _ hR (by rw [hup]; omega) (by rw [hup]; omega) (by rw [hup]; omega) X2 e2 N2
  refine Run.aloadN (pc' := 1) X0 hx (hb hby own_dk_0) rfl rfl ?_
  refine Run.iloadN (pc' := 2) X0 hx (hb hby own_dk_1) rfl rfl ?_
  obtain ⟨T3, L3, v3, X3, Q3, st3⟩ := callStatic X0 hx (y := (⟨"com/example/certwright/certwright/x509/RevokedCertificates", "contentStart", "([BI)I"⟩ : MethodName)) (Ls := #[.val (.ref o0), .val (.int p1), .unset, .unset, .unset, .unset, .unset, .unset, .unset, .unset]) (rest := []) (W := 0) (argsL := [(.ref o0), (.int p1)]) hZ hown (hw _ (List.mem_of_getElem? (i := 9) rfl)) (hw _ (List.mem_of_getElem? (i := 10) rfl)) (hw _ (List.mem_of_getElem? (i := 7) rfl)) (hw _ (List.mem_of_getElem? (i := 11) rfl)) (by decide) e0 (rm_s l Z a0 hw [] o0 p1 f h0 n0 Z0 A_t ha0 ha1) (hb hby own_dk_2) (lenOf own_pd1 rfl) (by decide) (by decide) (by rw [hml]; rfl) (Nat.le_of_eq rfl) (by decide) (by decide)
  obtain ⟨hv3, M3, e3⟩ := Q3
  rw [show (own_Fs o0 p1 f) = a from hsa] at hv3
  subst hv3
  have N3 := Fr.app N0 M3
  refine Run.back (g' := (mkF m 5 #[.val (.ref o0), .val (.int p1), .unset, .unset, .unset, .unset, .unset, .unset, .unset, .unset] [(.int a)])) st3 ?_
  refine Run.istoreN (pc' := 6) X3 hx (l' := #[.val (.ref o0), .val (.int p1), .val (.int a), .unset, .unset, .unset, .unset, .unset, .unset, .unset]) (hb hby own_dk_5) rfl rfl ?_
  refine Run.aloadN (pc' := 7) X3 hx (hb hby own_dk_6) rfl rfl ?_
  refine Run.iloadN (pc' := 8) X3 hx (hb hby own_dk_7) rfl rfl ?_
  obtain ⟨T4, L4, v4, X4, Q4, st4⟩ := callStatic X3 hx (y := (⟨"com/example/certwright/certwright/x509/RevokedCertificates", "contentStart", "([BI)I"⟩ : MethodName)) (Ls := #[.val (.ref o0), .val (.int p1), .val (.int a), .unset, .unset, .unset, .unset, .unset, .unset, .unset]) (rest := []) (W := 0) (argsL := [(.ref o0), (.int a)]) hZ hown (hw _ (List.mem_of_getElem? (i := 9) rfl)) (hw _ (List.mem_of_getElem? (i := 10) rfl)) (hw _ (List.mem_of_getElem? (i := 7) rfl)) (hw _ (List.mem_of_getElem? (i := 11) rfl)) (by decide) e3 (rm_s l Z a0 hw [] o0 a f h0 n0 Z0 A_t hb0 hb1) (hb hby own_dk_8) (lenOf own_pd1 rfl) (by decide) (by decide) (by rw [hml]; rfl) (Nat.le_of_eq rfl) (by decide) (by decide)
  obtain ⟨hv4, M4, e4⟩ := Q4
  rw [show (own_Fs o0 a f) = st from hsb] at hv4
  subst hv4
  have N4 := Fr.app N3 M4
  refine Run.back (g' := (mkF m 11 #[.val (.ref o0), .val (.int p1), .val (.int a), .unset, .unset, .unset, .unset, .unset, .unset, .unset] [(.int st)])) st4 ?_
  refine Run.istoreN (pc' := 12) X4 hx (l' := #[.val (.ref o0), .val (.int p1), .val (.int a), .val (.int st), .unset, .unset, .unset, .unset, .unset, .unset]) (hb hby own_dk_11) rfl rfl ?_
  refine Run.aloadN (pc' := 13) X4 hx (hb hby own_dk_12) rfl rfl ?_
  refine Run.iloadN (pc' := 14) X4 hx (hb hby own_dk_13) rfl rfl ?_
  obtain ⟨T5, L5, v5, X5, Q5, st5⟩ := callStatic X4 hx (y := (⟨"com/example/certwright/certwright/x509/RevokedCertificates", "contentLength", "([BI)I"⟩ : MethodName)) (Ls := #[.val (.ref o0), .val (.int p1), .val (.int a), .val (.int st), .unset, .unset, .unset, .unset, .unset, .unset]) (rest := []) (W := 0) (argsL := [(.ref o0), (.int a)]) hZ hown (hw _ (List.mem_of_getElem? (i := 12) rfl)) (hw _ (List.mem_of_getElem? (i := 13) rfl)) (hw _ (List.mem_of_getElem? (i := 7) rfl)) (hw _ (List.mem_of_getElem? (i := 14) rfl)) (by decide) e4 (rm_l l Z a0 hw [] o0 a f kk h0 n0 Z0 A_t hb0 hb1 hkk hin) (hb hby own_dk_14) (lenOf own_pd1 rfl) (by decide) (by decide) (by rw [hml]; rfl) (Nat.le_of_eq rfl) (by decide) (by decide)
  obtain ⟨hv5, M5, e5⟩ := Q5
  rw [show (own_L a f kk) = len from hsl] at hv5
  subst hv5
  have N5 := Fr.app N4 M5
  refine Run.back (g' := (mkF m 17 #[.val (.ref o0), .val (.int p1), .val (.int a), .val (.int st), .unset, .unset, .unset, .unset, .unset, .unset] [(.int len)])) st5 ?_
  refine Run.istore (pc' := 19) X5 hx (l' := #[.val (.ref o0), .val (.int p1), .val (.int a), .val (.int st), .val (.int len), .unset, .unset, .unset, .unset, .unset]) (hb hby own_dk_17) rfl rfl ?_
  refine Run.aloadN (pc' := 20) X5 hx (hb hby own_dk_19) rfl rfl ?_
  refine Run.iloadN (pc' := 21) X5 hx (hb hby own_dk_20) rfl rfl ?_
  refine Run.baload (pc' := 22) X5 hx hZ e5 A_t (own_st0 hst).1 (own_st0 hst).2 (hb hby own_dk_21) rfl ?_
  by_cases hc22 : (f st) < (0 : Int32)
  · skip
    refine Run.ifNo (pc' := 25) X5 hx (hb hby own_dk_22) ((if0 _ _).trans (tlt hc22).2.1) rfl ?_
    refine Run.iconst (pc' := 26) (v := (1 : Int32)) X5 hx (hb hby own_dk_25) rfl rfl ?_
    refine Run.goto (pc' := 30) X5 hx (hb hby own_dk_26) (by decide) (by decide) ?_
    refine Run.istore (pc' := 32) X5 hx (l' := #[.val (.ref o0), .val (.int p1), .val (.int a), .val (.int st), .val (.int len), .val (.int (1 : Int32)), .unset, .unset, .unset, .unset]) (hb hby own_dk_30) rfl rfl ?_
    refine Run.iload (pc' := 34) X5 hx (hb hby own_dk_32) rfl rfl ?_
    refine Run.bipush (pc' := 36) (v := (127 : Int32)) X5 hx (hb hby own_dk_34) rfl rfl ?_
    obtain ⟨T6, L6, v6, X6, Q6, st6⟩ := callStatic X5 hx (y := (⟨"java/lang/Math", "min", "(II)I"⟩ : MethodName)) (Ls := #[.val (.ref o0), .val (.int p1), .val (.int a), .val (.int st), .val (.int len), .val (.int (1 : Int32)), .unset, .unset, .unset, .unset]) (rest := []) (W := 0) (argsL := [(.int len), (.int (127 : Int32))]) hZ hown (hw _ (List.mem_of_getElem? (i := 15) rfl)) (hw _ (List.mem_of_getElem? (i := 16) rfl)) (hw _ (List.mem_of_getElem? (i := 17) rfl)) (hw _ (List.mem_of_getElem? (i := 18) rfl)) (by decide) e5 (rm_m l Z a0 hw [] len (127 : Int32)  h0 n0 Z0 ) (hb hby own_dk_36) (lenOf own_pd0 rfl) (by decide) (by decide) (by rw [hml]; rfl) (Nat.le_of_eq rfl) (by decide) (by decide)
    obtain ⟨rfl, M6, e6⟩ := Q6
    have N6 := Fr.app N5 M6
    refine Run.back (g' := (mkF m 39 #[.val (.ref o0), .val (.int p1), .val (.int a), .val (.int st), .val (.int len), .val (.int (1 : Int32)), .unset, .unset, .unset, .unset] [(.int (own_Fm len (127 : Int32)))])) st6 ?_
    refine Run.istore (pc' := 41) X6 hx (l' := #[.val (.ref o0), .val (.int p1), .val (.int a), .val (.int st), .val (.int len), .val (.int (1 : Int32)), .val (.int (own_Fm len (127 : Int32))), .unset, .unset, .unset]) (hb hby own_dk_39) rfl rfl ?_
    refine Run.iload (pc' := 43) X6 hx (hb hby own_dk_41) rfl rfl ?_
    refine Run.ifNo (pc' := 46) X6 hx (hb hby own_dk_43) ((if0 _ _).trans (feq (by decide : ¬ ((1 : Int32) = (0 : Int32)))).1) rfl ?_
    refine Run.lconst (pc' := 47) (v := (0 : Int64)) X6 hx (hb hby own_dk_46) rfl rfl ?_
    refine Run.goto (pc' := 53) X6 hx (hb hby own_dk_47) (by decide) (by decide) ?_
    refine Run.iload (pc' := 55) X6 hx (hb hby own_dk_53) rfl rfl ?_
    refine Run.ifNo (pc' := 58) X6 hx (hb hby own_dk_55) ((if0 _ _).trans (feq (by decide : ¬ ((1 : Int32) = (0 : Int32)))).1) rfl ?_
    refine Run.bipush (pc' := 60) (v := (127 : Int32)) X6 hx (hb hby own_dk_58) rfl rfl ?_
    refine Run.iload (pc' := 62) X6 hx (hb hby own_dk_60) rfl rfl ?_
    refine Run.isub (pc' := 63) X6 hx (hb hby own_dk_62) rfl ?_
    refine Run.goto (pc' := 68) X6 hx (hb hby own_dk_63) (by decide) (by decide) ?_
    refine Run.i2l (pc' := 69) X6 hx (hb hby own_dk_68) rfl ?_
    refine Run.bipush (pc' := 71) (v := (56 : Int32)) X6 hx (hb hby own_dk_69) rfl rfl ?_
    refine Run.lshl (pc' := 72) X6 hx (hb hby own_dk_71) rfl ?_
    refine Run.lor (pc' := 73) X6 hx (hb hby own_dk_72) rfl ?_
    refine Run.lstore (pc' := 75) X6 hx (l' := #[.val (.ref o0), .val (.int p1), .val (.int a), .val (.int st), .val (.int len), .val (.int (1 : Int32)), .val (.int (own_Fm len (127 : Int32))), .val (.long ((0 : Int64) ||| ((((127 : Int32) - (own_Fm len (127 : Int32))).toInt64) <<< ((56 : Int32) &&& 0x3f).toInt64))), .second, .unset]) (hb hby own_dk_73) rfl rfl ?_
    refine Run.iconst (pc' := 76) (v := (0 : Int32)) X6 hx (hb hby own_dk_75) rfl rfl ?_
    refine Run.istore (pc' := 78) X6 hx (l' := #[.val (.ref o0), .val (.int p1), .val (.int a), .val (.int st), .val (.int len), .val (.int (1 : Int32)), .val (.int (own_Fm len (127 : Int32))), .val (.long ((0 : Int64) ||| ((((127 : Int32) - (own_Fm len (127 : Int32))).toInt64) <<< ((56 : Int32) &&& 0x3f).toInt64))), .second, .val (.int (0 : Int32))]) (hb hby own_dk_76) rfl rfl ?_
    rw [if_pos hc22] at hR
    exact LOOP t _ _ _ _ _ _ _ hR (by show (0 : Int) + _ = _; omega) (by decide) (by show (0 : Int) + _ ≤ _; omega) X6 e6 N6
  · skip
    refine Run.ifYes (pc' := 29) X5 hx (hb hby own_dk_22) ((if0 _ _).trans (flt hc22).2.1) (by decide) (by decide) ?_
    refine Run.iconst (pc' := 30) (v := (0 : Int32)) X5 hx (hb hby own_dk_29) rfl rfl ?_
    refine Run.istore (pc' := 32) X5 hx (l' := #[.val (.ref o0), .val (.int p1), .val (.int a), .val (.int st), .val (.int len), .val (.int (0 : Int32)), .unset, .unset, .unset, .unset]) (hb hby own_dk_30) rfl rfl ?_
    refine Run.iload (pc' := 34) X5 hx (hb hby own_dk_32) rfl rfl ?_
    refine Run.bipush (pc' := 36) (v := (127 : Int32)) X5 hx (hb hby own_dk_34) rfl rfl ?_
    obtain ⟨T7, L7, v7, X7, Q7, st7⟩ := callStatic X5 hx (y := (⟨"java/lang/Math", "min", "(II)I"⟩ : MethodName)) (Ls := #[.val (.ref o0), .val (.int p1), .val (.int a), .val (.int st), .val (.int len), .val (.int (0 : Int32)), .unset, .unset, .unset, .unset]) (rest := []) (W := 0) (argsL := [(.int len), (.int (127 : Int32))]) hZ hown (hw _ (List.mem_of_getElem? (i := 15) rfl)) (hw _ (List.mem_of_getElem? (i := 16) rfl)) (hw _ (List.mem_of_getElem? (i := 17) rfl)) (hw _ (List.mem_of_getElem? (i := 18) rfl)) (by decide) e5 (rm_m l Z a0 hw [] len (127 : Int32)  h0 n0 Z0 ) (hb hby own_dk_36) (lenOf own_pd0 rfl) (by decide) (by decide) (by rw [hml]; rfl) (Nat.le_of_eq rfl) (by decide) (by decide)
    obtain ⟨rfl, M7, e7⟩ := Q7
    have N7 := Fr.app N5 M7
    refine Run.back (g' := (mkF m 39 #[.val (.ref o0), .val (.int p1), .val (.int a), .val (.int st), .val (.int len), .val (.int (0 : Int32)), .unset, .unset, .unset, .unset] [(.int (own_Fm len (127 : Int32)))])) st7 ?_
    refine Run.istore (pc' := 41) X7 hx (l' := #[.val (.ref o0), .val (.int p1), .val (.int a), .val (.int st), .val (.int len), .val (.int (0 : Int32)), .val (.int (own_Fm len (127 : Int32))), .unset, .unset, .unset]) (hb hby own_dk_39) rfl rfl ?_
    refine Run.iload (pc' := 43) X7 hx (hb hby own_dk_41) rfl rfl ?_
    refine Run.ifYes (pc' := 50) X7 hx (hb hby own_dk_43) ((if0 _ _).trans (teq (by decide : (0 : Int32) = (0 : Int32))).1) (by decide) (by decide) ?_
    refine Run.ldc2Long (pc' := 53) (v := (-9223372036854775808 : Int64)) X7 hx hown (mvT hZ (hw _ (List.mem_of_getElem? (i := 19) rfl))) (hb hby own_dk_50) rfl ?_
    refine Run.iload (pc' := 55) X7 hx (hb hby own_dk_53) rfl rfl ?_
    refine Run.ifYes (pc' := 66) X7 hx (hb hby own_dk_55) ((if0 _ _).trans (teq (by decide : (0 : Int32) = (0 : Int32))).1) (by decide) (by decide) ?_
    refine Run.iload (pc' := 68) X7 hx (hb hby own_dk_66) rfl rfl ?_
    refine Run.i2l (pc' := 69) X7 hx (hb hby own_dk_68) rfl ?_
    refine Run.bipush (pc' := 71) (v := (56 : Int32)) X7 hx (hb hby own_dk_69) rfl rfl ?_
    refine Run.lshl (pc' := 72) X7 hx (hb hby own_dk_71) rfl ?_
    refine Run.lor (pc' := 73) X7 hx (hb hby own_dk_72) rfl ?_
    refine Run.lstore (pc' := 75) X7 hx (l' := #[.val (.ref o0), .val (.int p1), .val (.int a), .val (.int st), .val (.int len), .val (.int (0 : Int32)), .val (.int (own_Fm len (127 : Int32))), .val (.long ((-9223372036854775808 : Int64) ||| (((own_Fm len (127 : Int32)).toInt64) <<< ((56 : Int32) &&& 0x3f).toInt64))), .second, .unset]) (hb hby own_dk_73) rfl rfl ?_
    refine Run.iconst (pc' := 76) (v := (0 : Int32)) X7 hx (hb hby own_dk_75) rfl rfl ?_
    refine Run.istore (pc' := 78) X7 hx (l' := #[.val (.ref o0), .val (.int p1), .val (.int a), .val (.int st), .val (.int len), .val (.int (0 : Int32)), .val (.int (own_Fm len (127 : Int32))), .val (.long ((-9223372036854775808 : Int64) ||| (((own_Fm len (127 : Int32)).toInt64) <<< ((56 : Int32) &&& 0x3f).toInt64))), .second, .val (.int (0 : Int32))]) (hb hby own_dk_76) rfl rfl ?_
    rw [if_neg hc22] at hR
    exact LOOP t _ _ _ _ _ _ _ hR (by show (0 : Int) + _ = _; omega) (by decide) (by show (0 : Int) + _ ≤ _; omega) X7 e7 N7
theorem own_len {len p0 p1 : Int32} (hv : len = (if (p0 &&& (1 : Int32)) = (0 : Int32) then ((1 : Int32) + (p1 &&& (32767 : Int32))) else ((1 : Int32) + (p1 &&& (15 : Int32))))) : 1 ≤ len.toInt ∧ len.toInt ≤ 32768 := by
  have h1 := c_and p1 32767 (by decide)
  have h2 := c_and p1 15 (by decide)
  have a1 := c_iadd 1 (p1 &&& 32767)
  have a2 := c_iadd 1 (p1 &&& 15)
  have r1 := rng32 ((1 : Int32) + (p1 &&& 32767))
  have r2 := rng32 ((1 : Int32) + (p1 &&& 15))
  have e1 : (1 : Int32).toInt = 1 := rfl
  have e2 : (32767 : Int32).toInt = 32767 := rfl
  have e3 : (15 : Int32).toInt = 15 := rfl
  by_cases h : (p0 &&& (1 : Int32)) = (0 : Int32)
  · rw [if_pos h] at hv; rw [hv]; omega
  · rw [if_neg h] at hv; rw [hv]; omega
theorem own_min (a b : Int32) : (own_Fm a b).toInt = if b.toInt < a.toInt then b.toInt else a.toInt := by
  unfold own_Fm own_fm_10
  by_cases h : b < a
  · rw [if_pos h, if_pos (Int32.lt_iff_toInt_lt.mp h)]
  · rw [if_neg h, if_neg (fun q => h (Int32.lt_iff_toInt_lt.mpr q))]
def own_t (len : Int32) : Nat := (own_Fm len (7 : Int32)).toInt.toNat
def own_kn (len : Int32) : Nat := (len &&& (127 : Int32)).toInt.toNat
theorem own_tl {len : Int32} (h : 1 ≤ len.toInt ∧ len.toInt ≤ 32768) : ((own_t len : Nat) : Int) = (own_Fm len (7 : Int32)).toInt := by
  have e7 : (7 : Int32).toInt = 7 := rfl
  have hm := own_min len 7
  rw [e7] at hm
  unfold own_t
  rw [hm]
  split <;> omega
theorem own_t7 {len : Int32} (h : 1 ≤ len.toInt ∧ len.toInt ≤ 32768) : own_t len ≤ 7 := by
  have e7 : (7 : Int32).toInt = 7 := rfl
  have hm := own_min len 7
  rw [e7] at hm
  unfold own_t
  rw [hm]
  split <;> omega
theorem own_by (x : Int32) : (x.toInt8.toInt32.toInt8.toInt32 &&& (255 : Int32)).toInt = x.toInt % 256 := by
  have h1 := c_i2b x
  have h2 := c_i2b x.toInt8.toInt32
  have m2 := c_mask x.toInt8.toInt32.toInt8.toInt32 255 8 (by decide) (by decide)
  rw [m2]
  omega
theorem own_lo {len v : Int32} (h : 1 ≤ len.toInt ∧ len.toInt ≤ 32768) (hc : len < (128 : Int32)) (y : v = len.toInt8.toInt32.toInt8.toInt32) : (v &&& (255 : Int32)) = len := by
  have e : (128 : Int32).toInt = 128 := rfl
  have hc' := Int32.lt_iff_toInt_lt.mp hc
  apply Int32.toInt_inj.mp
  rw [y, own_by]
  omega
theorem own_sa {o : Addr} {G : Int32 → Int32} (y : G (1 : Int32) = (11 : Int32)) : own_Fs o (0 : Int32) G = (2 : Int32) := by
  have y' : G ((0 : Int32) + (1 : Int32)) = (11 : Int32) := y
  rw [own_Fs, y', if_pos (by decide)]; rfl
theorem own_sb1 {o : Addr} {len : Int32} {G : Int32 → Int32} (h : 1 ≤ len.toInt ∧ len.toInt ≤ 32768) (hc : len < (128 : Int32)) (y : G (3 : Int32) = len.toInt8.toInt32.toInt8.toInt32) : own_Fs o (2 : Int32) G = (4 : Int32) := by
  have y' : G ((2 : Int32) + (1 : Int32)) = len.toInt8.toInt32.toInt8.toInt32 := y
  rw [own_Fs, own_lo h hc y', if_pos hc]; rfl
theorem own_sb2 {o : Addr} {G : Int32 → Int32} (y : G (3 : Int32) = ((-127) : Int32)) : own_Fs o (2 : Int32) G = (5 : Int32) := by
  have y' : G ((2 : Int32) + (1 : Int32)) = ((-127) : Int32) := y
  rw [own_Fs, y', if_neg (by decide)]; rfl
theorem own_sb3 {o : Addr} {G : Int32 → Int32} (y : G (3 : Int32) = ((-126) : Int32)) : own_Fs o (2 : Int32) G = (6 : Int32) := by
  have y' : G ((2 : Int32) + (1 : Int32)) = ((-126) : Int32) := y
  rw [own_Fs, y', if_neg (by decide)]; rfl
theorem own_sl1 {len : Int32} {G : Int32 → Int32} (h : 1 ≤ len.toInt ∧ len.toInt ≤ 32768) (hc : len < (128 : Int32)) (y : G (3 : Int32) = len.toInt8.toInt32.toInt8.toInt32) : own_L (2 : Int32) G (own_kn len) = len := by
  have y' : G ((2 : Int32) + (1 : Int32)) = len.toInt8.toInt32.toInt8.toInt32 := y
  rw [own_L, own_lo h hc y', if_pos hc]
theorem own_sl2 {len : Int32} {G : Int32 → Int32} (hc : ¬ len < (128 : Int32)) (hd : len < (256 : Int32)) (y : G (3 : Int32) = ((-127) : Int32)) (z : G (4 : Int32) = len.toInt8.toInt32.toInt8.toInt32) : own_L (2 : Int32) G 1 = len := by
  have y' : G ((2 : Int32) + (1 : Int32)) = ((-127) : Int32) := y
  have z' : G (((2 : Int32) + (2 : Int32)) + (0 : Int32)) = len.toInt8.toInt32.toInt8.toInt32 := z
  rw [own_L, y', if_neg (by decide), own_cll, own_cll, z']
  have e0 : (((0 : Int32) <<< ((8 : Int32) &&& 31)) ||| (len.toInt8.toInt32.toInt8.toInt32 &&& (255 : Int32))) = (len.toInt8.toInt32.toInt8.toInt32 &&& (255 : Int32)) := by
    have : ((0 : Int32) <<< ((8 : Int32) &&& 31)) = 0 := by decide
    rw [this, Int32.zero_or]
  rw [e0]
  have e1 : (128 : Int32).toInt = 128 := rfl
  have e2 : (256 : Int32).toInt = 256 := rfl
  have h1 : ¬ len.toInt < (128 : Int32).toInt := fun q => hc (Int32.lt_iff_toInt_lt.mpr q)
  have h2 := Int32.lt_iff_toInt_lt.mp hd
  apply Int32.toInt_inj.mp
  rw [own_by]
  omega
theorem own_sl3 {len : Int32} {G : Int32 → Int32} (h : 1 ≤ len.toInt ∧ len.toInt ≤ 32768) (hd : ¬ len < (256 : Int32)) (y : G (3 : Int32) = ((-126) : Int32)) (z : G (4 : Int32) = ((len.toUInt32 >>> ((8 : Int32) &&& 31).toUInt32).toInt32).toInt8.toInt32.toInt8.toInt32) (w : G (5 : Int32) = len.toInt8.toInt32.toInt8.toInt32) : own_L (2 : Int32) G 2 = len := by
  have y' : G ((2 : Int32) + (1 : Int32)) = ((-126) : Int32) := y
  have z' : G (((2 : Int32) + (2 : Int32)) + (0 : Int32)) = ((len.toUInt32 >>> ((8 : Int32) &&& 31).toUInt32).toInt32).toInt8.toInt32.toInt8.toInt32 := z
  have w' : G (((2 : Int32) + (2 : Int32)) + ((0 : Int32) + (1 : Int32))) = len.toInt8.toInt32.toInt8.toInt32 := w
  rw [own_L, y', if_neg (by decide), own_cll, own_cll, own_cll, z', w']
  have hz : ((0 : Int32) <<< ((8 : Int32) &&& 31)) = 0 := by decide
  rw [hz, Int32.zero_or]
  have s1 := c_iushr len 8 8 (by decide) (by decide)
  have b1 := own_by ((len.toUInt32 >>> ((8 : Int32) &&& 31).toUInt32).toInt32)
  have b2 := own_by len
  generalize ((len.toUInt32 >>> ((8 : Int32) &&& 31).toUInt32).toInt32).toInt8.toInt32.toInt8.toInt32 &&& (255 : Int32) = hi at *
  generalize len.toInt8.toInt32.toInt8.toInt32 &&& (255 : Int32) = lo at *
  have s2 := c_ishl hi 8 8 (by decide)
  have r2 := rng32 (hi <<< ((8 : Int32) &&& 31))
  have s3 := c_or (hi <<< ((8 : Int32) &&& 31)) lo 8 (by decide) 256 rfl (by omega) (by omega) (by omega)
  have r3 := rng32 ((hi <<< ((8 : Int32) &&& 31)) ||| lo)
  apply Int32.toInt_inj.mp
  omega
theorem own_hk1 {len : Int32} {G : Int32 → Int32} (h : 1 ≤ len.toInt ∧ len.toInt ≤ 32768) (hc : len < (128 : Int32)) (y : G (3 : Int32) = len.toInt8.toInt32.toInt8.toInt32) : ((own_kn len : Nat) : Int) = (((G ((2 : Int32) + (1 : Int32))) &&& (255 : Int32)) &&& (127 : Int32)).toInt := by
  have y' : G ((2 : Int32) + (1 : Int32)) = len.toInt8.toInt32.toInt8.toInt32 := y
  rw [own_lo h hc y']
  have m := c_and len 127 (by decide)
  unfold own_kn
  omega
theorem own_hk2 {G : Int32 → Int32} (y : G (3 : Int32) = ((-127) : Int32)) : ((1 : Nat) : Int) = (((G ((2 : Int32) + (1 : Int32))) &&& (255 : Int32)) &&& (127 : Int32)).toInt := by
  have y' : G ((2 : Int32) + (1 : Int32)) = ((-127) : Int32) := y
  rw [y']; decide
theorem own_hk3 {G : Int32 → Int32} (y : G (3 : Int32) = ((-126) : Int32)) : ((2 : Nat) : Int) = (((G ((2 : Int32) + (1 : Int32))) &&& (255 : Int32)) &&& (127 : Int32)).toInt := by
  have y' : G ((2 : Int32) + (1 : Int32)) = ((-126) : Int32) := y
  rw [y']; decide
theorem own_in1 {len : Int32} {G : Int32 → Int32} (h : 1 ≤ len.toInt ∧ len.toInt ≤ 32768) (hc : len < (128 : Int32)) (y : G (3 : Int32) = len.toInt8.toInt32.toInt8.toInt32) : ∀ j : Int32, 0 ≤ j.toInt → j.toInt < (((G ((2 : Int32) + (1 : Int32))) &&& (255 : Int32)) &&& (127 : Int32)).toInt → ¬ ((G ((2 : Int32) + (1 : Int32))) &&& (255 : Int32)) < (128 : Int32) → ¬ (((2 : Int32) + (2 : Int32)) + j) < 0 ∧ (((2 : Int32) + (2 : Int32)) + j) < (13 : Int32) := by
  have y' : G ((2 : Int32) + (1 : Int32)) = len.toInt8.toInt32.toInt8.toInt32 := y
  intro j _ _ h3
  rw [own_lo h hc y'] at h3
  exact absurd hc h3
theorem own_in23 {G : Int32 → Int32} (y : (((G ((2 : Int32) + (1 : Int32))) &&& (255 : Int32)) &&& (127 : Int32)).toInt ≤ 2) : ∀ j : Int32, 0 ≤ j.toInt → j.toInt < (((G ((2 : Int32) + (1 : Int32))) &&& (255 : Int32)) &&& (127 : Int32)).toInt → ¬ ((G ((2 : Int32) + (1 : Int32))) &&& (255 : Int32)) < (128 : Int32) → ¬ (((2 : Int32) + (2 : Int32)) + j) < 0 ∧ (((2 : Int32) + (2 : Int32)) + j) < (13 : Int32) := by
  intro j h1 h2 _
  exact own_pin ⟨h1, by omega⟩ (by decide)
theorem own_in2 {G : Int32 → Int32} (y : G (3 : Int32) = ((-127) : Int32)) : ∀ j : Int32, 0 ≤ j.toInt → j.toInt < (((G ((2 : Int32) + (1 : Int32))) &&& (255 : Int32)) &&& (127 : Int32)).toInt → ¬ ((G ((2 : Int32) + (1 : Int32))) &&& (255 : Int32)) < (128 : Int32) → ¬ (((2 : Int32) + (2 : Int32)) + j) < 0 ∧ (((2 : Int32) + (2 : Int32)) + j) < (13 : Int32) := own_in23 (by rw [← own_hk2 y]; decide)
theorem own_in3 {G : Int32 → Int32} (y : G (3 : Int32) = ((-126) : Int32)) : ∀ j : Int32, 0 ≤ j.toInt → j.toInt < (((G ((2 : Int32) + (1 : Int32))) &&& (255 : Int32)) &&& (127 : Int32)).toInt → ¬ ((G ((2 : Int32) + (1 : Int32))) &&& (255 : Int32)) < (128 : Int32) → ¬ (((2 : Int32) + (2 : Int32)) + j) < 0 ∧ (((2 : Int32) + (2 : Int32)) + j) < (13 : Int32) := own_in23 (by rw [← own_hk3 y]; decide)
/-- the top byte alone counts -/
theorem own_topor (a b : Int64) (h0 : 0 ≤ b.toInt) (h1 : b.toInt < 72057594037927936) : (a ||| b).toUInt64 >>> 56 = a.toUInt64 >>> 56 := by
  have hb : b.toBitVec.toNat < 72057594037927936 := by
    have e : b.toInt = b.toBitVec.toInt := rfl
    rw [e, BitVec.toInt_eq_toNat_cond] at h0 h1
    have := b.toBitVec.isLt
    split at h0 <;> omega
  apply UInt64.toNat_inj.mp
  rw [UInt64.toNat_shiftRight, UInt64.toNat_shiftRight]
  have e : (a ||| b).toUInt64.toNat = a.toUInt64.toNat ||| b.toUInt64.toNat := by
    show (a.toBitVec ||| b.toBitVec).toNat = _
    rw [BitVec.toNat_or]; rfl
  have hs : (56 : UInt64).toNat % 64 = 56 := rfl
  rw [e, hs, Nat.shiftRight_or_distrib]
  have z : b.toUInt64.toNat >>> 56 = 0 := by
    rw [Nat.shiftRight_eq_div_pow]
    exact Nat.div_eq_of_lt hb
  rw [z, Nat.or_zero]
theorem own_part (v i : Int32) (h0 : 0 ≤ i.toInt) (h6 : i.toInt ≤ 6) : 0 ≤ ((v &&& (255 : Int32)).toInt64 <<< (((48 : Int32) - ((8 : Int32) * i)) &&& 0x3f).toInt64).toInt ∧ ((v &&& (255 : Int32)).toInt64 <<< (((48 : Int32) - ((8 : Int32) * i)) &&& 0x3f).toInt64).toInt < 72057594037927936 := by
  have hm := c_and v 255 (by decide)
  have e255 : (255 : Int32).toInt = 255 := rfl
  have hl := c_i2l (v &&& 255)
  have hi : i = 0 ∨ i = 1 ∨ i = 2 ∨ i = 3 ∨ i = 4 ∨ i = 5 ∨ i = 6 := by
    simp only [← Int32.toInt_inj]
    have e0 : (0 : Int32).toInt = 0 := rfl
    have e1 : (1 : Int32).toInt = 1 := rfl
    have e2 : (2 : Int32).toInt = 2 := rfl
    have e3 : (3 : Int32).toInt = 3 := rfl
    have e4 : (4 : Int32).toInt = 4 := rfl
    have e5 : (5 : Int32).toInt = 5 := rfl
    have e6 : (6 : Int32).toInt = 6 := rfl
    omega
  rcases hi with rfl | rfl | rfl | rfl | rfl | rfl | rfl
  · have s := c_lshl (v &&& 255).toInt64 ((48 : Int32) - ((8 : Int32) * 0)) 48 (by decide)
    have r := rng64 ((v &&& (255 : Int32)).toInt64 <<< (((48 : Int32) - ((8 : Int32) * 0)) &&& 0x3f).toInt64)
    omega
  · have s := c_lshl (v &&& 255).toInt64 ((48 : Int32) - ((8 : Int32) * 1)) 40 (by decide)
    have r := rng64 ((v &&& (255 : Int32)).toInt64 <<< (((48 : Int32) - ((8 : Int32) * 1)) &&& 0x3f).toInt64)
    omega
  · have s := c_lshl (v &&& 255).toInt64 ((48 : Int32) - ((8 : Int32) * 2)) 32 (by decide)
    have r := rng64 ((v &&& (255 : Int32)).toInt64 <<< (((48 : Int32) - ((8 : Int32) * 2)) &&& 0x3f).toInt64)
    omega
  · have s := c_lshl (v &&& 255).toInt64 ((48 : Int32) - ((8 : Int32) * 3)) 24 (by decide)
    have r := rng64 ((v &&& (255 : Int32)).toInt64 <<< (((48 : Int32) - ((8 : Int32) * 3)) &&& 0x3f).toInt64)
    omega
  · have s := c_lshl (v &&& 255).toInt64 ((48 : Int32) - ((8 : Int32) * 4)) 16 (by decide)
    have r := rng64 ((v &&& (255 : Int32)).toInt64 <<< (((48 : Int32) - ((8 : Int32) * 4)) &&& 0x3f).toInt64)
    omega
  · have s := c_lshl (v &&& 255).toInt64 ((48 : Int32) - ((8 : Int32) * 5)) 8 (by decide)
    have r := rng64 ((v &&& (255 : Int32)).toInt64 <<< (((48 : Int32) - ((8 : Int32) * 5)) &&& 0x3f).toInt64)
    omega
  · have s := c_lshl (v &&& 255).toInt64 ((48 : Int32) - ((8 : Int32) * 6)) 0 (by decide)
    have r := rng64 ((v &&& (255 : Int32)).toInt64 <<< (((48 : Int32) - ((8 : Int32) * 6)) &&& 0x3f).toInt64)
    omega
theorem own_toplp (f : Int32 → Int32) (st : Int32) : ∀ (t : Nat) (i : Int32) (key : Int64), 0 ≤ i.toInt → i.toInt + t ≤ 7 → (own_lp t f st i key).toUInt64 >>> 56 = key.toUInt64 >>> 56 := by
  intro t
  induction t with
  | zero => intro i key _ _; rfl
  | succ t ih =>
    intro i key h0 h7
    have e1 : (1 : Int32).toInt = 1 := rfl
    have a := c_iadd i 1
    have r := rng32 (i + 1)
    rw [own_lp, ih _ _ (by omega) (by omega)]
    obtain ⟨p0, p1⟩ := own_part (f (st + i)) i h0 (by omega)
    exact own_topor _ _ p0 p1
theorem own_neg (k : Int64) : lcmpW k (0 : Int64) < (0 : Int32) ↔ 128 ≤ (k.toUInt64 >>> 56).toNat := by
  rw [lw_lt, Int64.lt_iff_toInt_lt]
  show k.toBitVec.toInt < 0 ↔ _
  have e : (k.toUInt64 >>> 56).toNat = k.toBitVec.toNat / 72057594037927936 := by
    rw [UInt64.toNat_shiftRight, Nat.shiftRight_eq_div_pow]
    rfl
  rw [e, BitVec.toInt_eq_toNat_cond]
  have := k.toBitVec.isLt
  split <;> omega
theorem own_Fwtop (k k' : Int64) (h : k.toUInt64 >>> 56 = k'.toUInt64 >>> 56) : own_Fw k = own_Fw k' := by
  have s : ((56 : Int32) &&& 0x3f).toInt64.toUInt64 = 56 := by decide
  unfold own_Fw own_fw_23 own_fw_33
  rw [s, h]
  by_cases q : lcmpW k (0 : Int64) < (0 : Int32)
  · have q' : lcmpW k' (0 : Int64) < (0 : Int32) := (own_neg k').mpr (by rw [← h]; exact (own_neg k).mp q)
    rw [if_pos q, if_pos q']
  · have q' : ¬ lcmpW k' (0 : Int64) < (0 : Int32) := fun z => q ((own_neg k).mpr (by rw [h]; exact (own_neg k').mp z))
    rw [if_neg q, if_neg q']
theorem own_whole (G : Int32 → Int32) {len st : Int32} (h : 1 ≤ len.toInt ∧ len.toInt ≤ 32768) : own_Fw (own_K G st len (own_t len)) = (if (7 : Int32) < len then (0 : Int32) else (1 : Int32)) := by
  have e7 : (7 : Int32).toInt = 7 := rfl
  have e127 : (127 : Int32).toInt = 127 := rfl
  have e128 : (Int32.ofNat 128).toInt = 128 := rfl
  have e0 : (0 : Int32).toInt = 0 := rfl
  have hm := own_min len 127
  rw [e127] at hm
  have ht := own_t7 h
  have cond : ((7 : Int32) < len) ↔ ((7 : Int32) < own_Fm len (127 : Int32)) := by
    rw [Int32.lt_iff_toInt_lt, Int32.lt_iff_toInt_lt, hm, e7]
    split <;> omega
  have hr : (if (7 : Int32) < len then (0 : Int32) else (1 : Int32)) = (if (7 : Int32) < own_Fm len (127 : Int32) then (0 : Int32) else (1 : Int32)) := by
    by_cases q : (7 : Int32) < len
    · rw [if_pos q, if_pos (cond.mp q)]
    · rw [if_neg q, if_neg (fun z => q (cond.mpr z))]
  have l0 : ¬ own_Fm len (127 : Int32) < 0 := by
    rw [Int32.lt_iff_toInt_lt, hm, e0]; split <;> omega
  have l1 : own_Fm len (127 : Int32) < Int32.ofNat 128 := by
    rw [Int32.lt_iff_toInt_lt, hm, e128]; split <;> omega
  rw [hr, own_K]
  by_cases q : (G st) < (0 : Int32)
  · rw [if_pos q, own_Fwtop _ _ (own_toplp G st (own_t len) 0 _ (by decide) (by rw [e0]; omega))]
    exact small_int 128 (by decide) (fun m => own_Fw ((0 : Int64) ||| (((127 : Int32) - m).toInt64 <<< ((56 : Int32) &&& 0x3f).toInt64)) = (if (7 : Int32) < m then (0 : Int32) else (1 : Int32))) (by decide +kernel) _ l0 l1
  · rw [if_neg q, own_Fwtop _ _ (own_toplp G st (own_t len) 0 _ (by decide) (by rw [e0]; omega))]
    exact small_int 128 (by decide) (fun m => own_Fw ((-9223372036854775808 : Int64) ||| (m.toInt64 <<< ((56 : Int32) &&& 0x3f).toInt64)) = (if (7 : Int32) < m then (0 : Int32) else (1 : Int32))) (by decide +kernel) _ l0 l1

theorem own_ef0 (m : MethodId) (x0 : Int32) (x1 : Int32) (x2 : Int64) : entryFrame m #[(.int x0), (.int x1), (.long x2)] maxLocals = mkF m 0 #[.val (.int x0), .val (.int x1), .val (.long x2), .second, .unset, .unset, .unset, .unset, .unset] [] := by first | (simp [entryFrame, mkF, argsToLocals, Value.category, maxLocals]; done) | rfl
set_option maxRecDepth 65536 in
set_option maxHeartbeats 40000000 in
theorem rm0 (l : Launch) (Z : State) (a0 : Array Value) (hw : ∀ d ∈ tables_1, d.before a0 Z = true) (ws : List Jvm.Cond) (p0 : Int32) (p1 : Int32) (q2 : Int64) (h0 : Heap) (n0 : Nat) (Z0 : n0 ≤ h0.size) :
    MetFree l x (head1 (Jvm.Cond.code x code maxLocals ret :: ws) room_1) (fun a U => a = #[(.int p0), (.int p1), (.long q2)] ∧ Z.Warmed39 U.vm ∧ U.heap = h0) (fun _ _ _ _ _ => True) (fun _ U o U' => ∃ v L, o = .returned v ∧ (Say (fun v h L => v = some (.int 1) ∧ Fr n0 L)) v U'.heap L ∧ FrameEnd U o U' L room_1.cells room_1.slots) := by
  refine MetFree.of_bodySF (plainFor_of_name own_pn1) hisR ?_
  intro p e s m args below meth c s₁ Bd hml0 hP hK
  obtain ⟨rfl, hZ, hh⟩ := hP
  have hx := Bd.exec
  have hby := Bd.bytes
  have hml : c.maxLocals = 9 := hml0
  have hown : s.vm.findClass "com/example/certwright/certwright/x509/RevokedCertificatesIsWholeKeyPinLaw" = some m.cls := findClass_of_methodNamed Bd.named
  have hnm := (name_of_methodNamed Bd.named Bd.method).1
  have X0 : Stand p l e room_1 s m #[(.int p0), (.int p1), (.long q2)] below meth c s₁ [] 0 0 := Stand.of_body Bd
  have e0 : s₁.heap = h0 := by rw [← hh, Bd.state]; rfl
  have N0 := Fr.nil n0
  suffices H : Run p.tables e below (FinR s room_1.cells room_1.slots (Say (fun v h L => v = some (.int 1) ∧ Fr n0 L))) s₁ (mkF m 0 #[.val (.int p0), .val (.int p1), .val (.long q2), .second, .unset, .unset, .unset, .unset, .unset] []) by
    obtain ⟨s₂, o, k1, k2, k3, k4⟩ := H
    exact ⟨s₂, o, castTop (own_ef0 m p0 p1 q2) k1, k2, k3, k4⟩
  refine Run.iloadN (pc' := 1) X0 hx (hb hby at_0) rfl rfl ?_
  refine Run.iconst (pc' := 2) (v := (1 : Int32)) X0 hx (hb hby at_1) rfl rfl ?_
  refine Run.iand (pc' := 3) X0 hx (hb hby at_2) rfl ?_
  have J22 : ∀ (len : Int32), len = (if (p0 &&& (1 : Int32)) = (0 : Int32) then ((1 : Int32) + (p1 &&& (32767 : Int32))) else ((1 : Int32) + (p1 &&& (15 : Int32)))) → ∀ (T_22 : State) (locs : List Loc), Stand p l e room_1 s m #[(.int p0), (.int p1), (.long q2)] below meth c T_22 locs 0 0 → T_22.heap = h0 → Fr n0 locs → Run p.tables e below (FinR s room_1.cells room_1.slots (Say (fun v h L => v = some (.int 1) ∧ Fr n0 L))) T_22 (mkF m 22 #[.val (.int p0), .val (.int p1), .val (.long q2), .second, .unset, .unset, .unset, .unset, .unset] [(.int len)]) := by
    intro len hv_len T_22 locs X_22 e_22 N_22
    have hlen := own_len hv_len
    refine Run.istore (pc' := 24) X_22 hx (l' := #[.val (.int p0), .val (.int p1), .val (.long q2), .second, .val (.int len), .unset, .unset, .unset, .unset]) (hb hby at_22) rfl rfl ?_
    refine Run.bipush (pc' := 26) (v := (13 : Int32)) X_22 hx (hb hby at_24) rfl rfl ?_
    obtain ⟨T1, h1, b1, X1, e1, E1, g1, A1, st1⟩ := st_newarray X_22 hx hZ (hw _ (List.mem_of_getElem? (i := 0) rfl)) e_22 (hb hby at_26) (Ls := #[.val (.int p0), .val (.int p1), .val (.long q2), .second, .val (.int len), .unset, .unset, .unset, .unset]) (rest := []) (n := (13 : Int32)) (by decide) (cap := 13) (by decide) (by decide) (by decide) (by decide) rfl
    replace A1 : Ints Z h1 b1 .byte (13 : Int32) (fun _ => 0) := A1
    have G1 : n0 ≤ b1 := Nat.le_trans Z0 (Nat.le_of_eq g1.symm)
    have Z1 : n0 ≤ h1.size := Nat.le_trans Z0 E1.1
    refine Run.back (g' := (mkF m 28 #[.val (.int p0), .val (.int p1), .val (.long q2), .second, .val (.int len), .unset, .unset, .unset, .unset] [(.ref b1)])) st1 ?_
    refine Run.astore (pc' := 30) X1 hx (l' := #[.val (.int p0), .val (.int p1), .val (.long q2), .second, .val (.int len), .val (.ref b1), .unset, .unset, .unset]) (hb hby at_28) rfl rfl ?_
    refine Run.aload (pc' := 32) X1 hx (hb hby at_30) rfl rfl ?_
    refine Run.iconst (pc' := 33) (v := (0 : Int32)) X1 hx (hb hby at_32) rfl rfl ?_
    refine Run.bipush (pc' := 35) (v := (48 : Int32)) X1 hx (hb hby at_33) rfl rfl ?_
    obtain ⟨T2, h2, sl2, u2, X2, e2, W2, A2, st2⟩ := st_bastore X1 hx hZ e1 A1 (Ls := #[.val (.int p0), .val (.int p1), .val (.long q2), .second, .val (.int len), .val (.ref b1), .unset, .unset, .unset]) (rest := []) (j := (0 : Int32)) (x := (48 : Int32)) (by decide) (by decide) (hb hby at_35)
    have N2 := Fr.snoc X2 N_22 G1
    obtain ⟨f3, qf3⟩ : ∃ g : Int32 → Int32, g = fun i => if i = (0 : Int32) then (48 : Int32).toInt8.toInt32 else (fun _ => (0 : Int32)) i := ⟨_, rfl⟩
    replace A2 : Ints Z h2 b1 .byte (13 : Int32) f3 := by rw [qf3]; exact A2
    have Z2 : n0 ≤ h2.size := Nat.le_trans Z1 (Keep.of_wr W2).1
    refine Run.back (g' := (mkF m 36 #[.val (.int p0), .val (.int p1), .val (.long q2), .second, .val (.int len), .val (.ref b1), .unset, .unset, .unset] [])) st2 ?_
    refine Run.aload (pc' := 38) X2 hx (hb hby at_36) rfl rfl ?_
    refine Run.iconst (pc' := 39) (v := (1 : Int32)) X2 hx (hb hby at_38) rfl rfl ?_
    refine Run.bipush (pc' := 41) (v := (11 : Int32)) X2 hx (hb hby at_39) rfl rfl ?_
    obtain ⟨T4, h4, sl4, u4, X4, e4, W4, A4, st4⟩ := st_bastore X2 hx hZ e2 A2 (Ls := #[.val (.int p0), .val (.int p1), .val (.long q2), .second, .val (.int len), .val (.ref b1), .unset, .unset, .unset]) (rest := []) (j := (1 : Int32)) (x := (11 : Int32)) (by decide) (by decide) (hb hby at_41)
    have N4 := Fr.snoc X4 N2 G1
    obtain ⟨f5, qf5⟩ : ∃ g : Int32 → Int32, g = fun i => if i = (1 : Int32) then (11 : Int32).toInt8.toInt32 else f3 i := ⟨_, rfl⟩
    replace A4 : Ints Z h4 b1 .byte (13 : Int32) f5 := by rw [qf5]; exact A4
    have Z4 : n0 ≤ h4.size := Nat.le_trans Z2 (Keep.of_wr W4).1
    refine Run.back (g' := (mkF m 42 #[.val (.int p0), .val (.int p1), .val (.long q2), .second, .val (.int len), .val (.ref b1), .unset, .unset, .unset] [])) st4 ?_
    refine Run.aload (pc' := 44) X4 hx (hb hby at_42) rfl rfl ?_
    refine Run.iconst (pc' := 45) (v := (2 : Int32)) X4 hx (hb hby at_44) rfl rfl ?_
    refine Run.iconst (pc' := 46) (v := (2 : Int32)) X4 hx (hb hby at_45) rfl rfl ?_
    obtain ⟨T6, h6, sl6, u6, X6, e6, W6, A6, st6⟩ := st_bastore X4 hx hZ e4 A4 (Ls := #[.val (.int p0), .val (.int p1), .val (.long q2), .second, .val (.int len), .val (.ref b1), .unset, .unset, .unset]) (rest := []) (j := (2 : Int32)) (x := (2 : Int32)) (by decide) (by decide) (hb hby at_46)
    have N6 := Fr.snoc X6 N4 G1
    obtain ⟨f7, qf7⟩ : ∃ g : Int32 → Int32, g = fun i => if i = (2 : Int32) then (2 : Int32).toInt8.toInt32 else f5 i := ⟨_, rfl⟩
    replace A6 : Ints Z h6 b1 .byte (13 : Int32) f7 := by rw [qf7]; exact A6
    have Z6 : n0 ≤ h6.size := Nat.le_trans Z4 (Keep.of_wr W6).1
    refine Run.back (g' := (mkF m 47 #[.val (.int p0), .val (.int p1), .val (.long q2), .second, .val (.int len), .val (.ref b1), .unset, .unset, .unset] [])) st6 ?_
    refine Run.iload (pc' := 49) X6 hx (hb hby at_47) rfl rfl ?_
    refine Run.sipush (pc' := 52) (v := (128 : Int32)) X6 hx (hb hby at_49) rfl rfl ?_
    by_cases hc52 : len < (128 : Int32)
    · skip
      refine Run.icmpNo (pc' := 55) X6 hx (hb hby at_52) (tlt hc52).2.1 rfl ?_
      refine Run.aload (pc' := 57) X6 hx (hb hby at_55) rfl rfl ?_
      refine Run.iconst (pc' := 58) (v := (3 : Int32)) X6 hx (hb hby at_57) rfl rfl ?_
      refine Run.iload (pc' := 60) X6 hx (hb hby at_58) rfl rfl ?_
      refine Run.i2b (pc' := 61) X6 hx (hb hby at_60) rfl ?_
      obtain ⟨T8, h8, sl8, u8, X8, e8, W8, A8, st8⟩ := st_bastore X6 hx hZ e6 A6 (Ls := #[.val (.int p0), .val (.int p1), .val (.long q2), .second, .val (.int len), .val (.ref b1), .unset, .unset, .unset]) (rest := []) (j := (3 : Int32)) (x := (len.toInt8.toInt32)) (by decide) (by decide) (hb hby at_61)
      have N8 := Fr.snoc X8 N6 G1
      obtain ⟨f9, qf9⟩ : ∃ g : Int32 → Int32, g = fun i => if i = (3 : Int32) then (len.toInt8.toInt32).toInt8.toInt32 else f7 i := ⟨_, rfl⟩
      replace A8 : Ints Z h8 b1 .byte (13 : Int32) f9 := by rw [qf9]; exact A8
      have Z8 : n0 ≤ h8.size := Nat.le_trans Z6 (Keep.of_wr W8).1
      refine Run.back (g' := (mkF m 62 #[.val (.int p0), .val (.int p1), .val (.long q2), .second, .val (.int len), .val (.ref b1), .unset, .unset, .unset] [])) st8 ?_
      refine Run.iconst (pc' := 63) (v := (4 : Int32)) X8 hx (hb hby at_62) rfl rfl ?_
      refine Run.istore (pc' := 65) X8 hx (l' := #[.val (.int p0), .val (.int p1), .val (.long q2), .second, .val (.int len), .val (.ref b1), .val (.int (4 : Int32)), .unset, .unset]) (hb hby at_63) rfl rfl ?_
      refine Run.goto (pc' := 122) X8 hx (hb hby at_65) (by decide) (by decide) ?_
      refine Run.aload (pc' := 124) X8 hx (hb hby at_122) rfl rfl ?_
      refine Run.iload (pc' := 126) X8 hx (hb hby at_124) rfl rfl ?_
      refine Run.lloadN (pc' := 127) X8 hx (hb hby at_126) rfl rfl ?_
      obtain ⟨T10, L10, v10, X10, Q10, st10⟩ := callStatic X8 hx (y := (⟨"com/example/certwright/certwright/x509/RevokedCertificatesIsWholeKeyPinLaw", "put", "([BIJ)V"⟩ : MethodName)) (Ls := #[.val (.int p0), .val (.int p1), .val (.long q2), .second, .val (.int len), .val (.ref b1), .val (.int (4 : Int32)), .unset, .unset]) (rest := []) (W := 0) (argsL := [(.ref b1), (.int (4 : Int32)), (.long q2)]) hZ hown (hw _ (List.mem_of_getElem? (i := 1) rfl)) (hw _ (List.mem_of_getElem? (i := 2) rfl)) (hw _ (List.mem_of_getElem? (i := 3) rfl)) (hw _ (List.mem_of_getElem? (i := 4) rfl)) (by decide) e8 (rm_p l Z a0 hw [] b1 (4 : Int32) q2 f9 h8 n0 Z8 A8 G1 (by decide)) (hb hby at_127) (lenOf own_pd2 rfl) (by decide) (by decide) (by rw [hml]; rfl) (Nat.le_of_eq rfl) (by decide) (by decide)
      obtain ⟨rfl, M10, K10, G10, A10, hG10⟩ := Q10
      have N10 := Fr.app N8 M10
      have Z10 : n0 ≤ T10.heap.size := Nat.le_trans Z8 K10.1
      have y1 : G10 (1 : Int32) = (11 : Int32) := (hG10 _ (by decide) (by decide)).trans (by rw [qf9, qf7, qf5, qf3]; rfl)
      have y3 : G10 (3 : Int32) = (len.toInt8.toInt32.toInt8.toInt32) := (hG10 _ (by decide) (by decide)).trans (by rw [qf9, qf7, qf5, qf3]; rfl)
      refine Run.back (g' := (mkF m 130 #[.val (.int p0), .val (.int p1), .val (.long q2), .second, .val (.int len), .val (.ref b1), .val (.int (4 : Int32)), .unset, .unset] [])) st10 ?_
      refine Run.aload (pc' := 132) X10 hx (hb hby at_130) rfl rfl ?_
      refine Run.iconst (pc' := 133) (v := (0 : Int32)) X10 hx (hb hby at_132) rfl rfl ?_
      obtain ⟨T11, L11, v11, X11, Q11, st11⟩ := callStatic X10 hx (y := (⟨"com/example/certwright/certwright/x509/RevokedCertificates", "serialNumberKey", "([BI)J"⟩ : MethodName)) (Ls := #[.val (.int p0), .val (.int p1), .val (.long q2), .second, .val (.int len), .val (.ref b1), .val (.int (4 : Int32)), .unset, .unset]) (rest := []) (W := 0) (argsL := [(.ref b1), (.int (0 : Int32))]) hZ hown (hw _ (List.mem_of_getElem? (i := 5) rfl)) (hw _ (List.mem_of_getElem? (i := 6) rfl)) (hw _ (List.mem_of_getElem? (i := 7) rfl)) (hw _ (List.mem_of_getElem? (i := 8) rfl)) (by decide) rfl (rm_k l Z a0 hw [] b1 (0 : Int32) G10 (2 : Int32) (4 : Int32) len (own_kn len) (own_t len) T10.heap n0 Z10 A10 (by decide) (by decide) (by decide) (by decide) (own_sa y1) (own_sb1 hlen hc52 y3) (own_sl1 hlen hc52 y3) (own_hk1 hlen hc52 y3) (own_in1 hlen hc52 y3) (by decide) (own_tl hlen) (own_t7 hlen)) (hb hby at_133) (lenOf own_pd3 rfl) (by decide) (by decide) (by rw [hml]; rfl) (Nat.le_of_eq rfl) (by decide) (by decide)
      obtain ⟨rfl, M11, e11⟩ := Q11
      have N11 := Fr.app N10 M11
      refine Run.back (g' := (mkF m 136 #[.val (.int p0), .val (.int p1), .val (.long q2), .second, .val (.int len), .val (.ref b1), .val (.int (4 : Int32)), .unset, .unset] [(.long (own_K G10 (4 : Int32) len (own_t len)))])) st11 ?_
      refine Run.lstore (pc' := 138) X11 hx (l' := #[.val (.int p0), .val (.int p1), .val (.long q2), .second, .val (.int len), .val (.ref b1), .val (.int (4 : Int32)), .val (.long (own_K G10 (4 : Int32) len (own_t len))), .second]) (hb hby at_136) rfl rfl ?_
      refine Run.lload (pc' := 140) X11 hx (hb hby at_138) rfl rfl ?_
      obtain ⟨T12, L12, v12, X12, Q12, st12⟩ := callStatic X11 hx (y := (⟨"com/example/certwright/certwright/x509/RevokedCertificates", "isWholeKey", "(J)Z"⟩ : MethodName)) (Ls := #[.val (.int p0), .val (.int p1), .val (.long q2), .second, .val (.int len), .val (.ref b1), .val (.int (4 : Int32)), .val (.long (own_K G10 (4 : Int32) len (own_t len))), .second]) (rest := []) (W := 0) (argsL := [(.long (own_K G10 (4 : Int32) len (own_t len)))]) hZ hown (hw _ (List.mem_of_getElem? (i := 20) rfl)) (hw _ (List.mem_of_getElem? (i := 21) rfl)) (hw _ (List.mem_of_getElem? (i := 7) rfl)) (hw _ (List.mem_of_getElem? (i := 22) rfl)) (by decide) e11 (rm_w l Z a0 hw [] (own_K G10 (4 : Int32) len (own_t len))  T10.heap n0 Z10 ) (hb hby at_140) (lenOf own_pd4 rfl) (by decide) (by decide) (by rw [hml]; rfl) (Nat.le_of_eq rfl) (by decide) (by decide)
      obtain ⟨hv12, M12, e12⟩ := Q12
      rw [show (own_Fw (own_K G10 (4 : Int32) len (own_t len))) = (if (7 : Int32) < len then (0 : Int32) else (1 : Int32)) from (own_whole G10 hlen)] at hv12
      subst hv12
      have N12 := Fr.app N11 M12
      refine Run.back (g' := (mkF m 143 #[.val (.int p0), .val (.int p1), .val (.long q2), .second, .val (.int len), .val (.ref b1), .val (.int (4 : Int32)), .val (.long (own_K G10 (4 : Int32) len (own_t len))), .second] [(.int (if (7 : Int32) < len then (0 : Int32) else (1 : Int32)))])) st12 ?_
      refine Run.iload (pc' := 145) X12 hx (hb hby at_143) rfl rfl ?_
      refine Run.bipush (pc' := 147) (v := (7 : Int32)) X12 hx (hb hby at_145) rfl rfl ?_
      by_cases hc147 : (7 : Int32) < len
      · skip
        refine Run.icmpYes (pc' := 154) X12 hx (hb hby at_147) (tlt hc147).2.2.1 (by decide) (by decide) ?_
        refine Run.iconst (pc' := 155) (v := (0 : Int32)) X12 hx (hb hby at_154) rfl rfl ?_
        refine Run.icmpNo (pc' := 158) X12 hx (hb hby at_155) (teq (if_pos hc147)).2 rfl ?_
        refine Run.iconst (pc' := 159) (v := (1 : Int32)) X12 hx (hb hby at_158) rfl rfl ?_
        refine Run.goto (pc' := 163) X12 hx (hb hby at_159) (by decide) (by decide) ?_
        exact Run.retSmall X12 hx (t := .boolean) (z' := (1 : Int32)) Bd.notSynchronized Bd.returns (by simp) rfl (hb hby at_163) ⟨rfl, N12⟩ (by decide) (by decide)
      · skip
        refine Run.icmpNo (pc' := 150) X12 hx (hb hby at_147) (flt hc147).2.2.1 rfl ?_
        refine Run.iconst (pc' := 151) (v := (1 : Int32)) X12 hx (hb hby at_150) rfl rfl ?_
        refine Run.goto (pc' := 155) X12 hx (hb hby at_151) (by decide) (by decide) ?_
        refine Run.icmpNo (pc' := 158) X12 hx (hb hby at_155) (teq (if_neg hc147)).2 rfl ?_
        refine Run.iconst (pc' := 159) (v := (1 : Int32)) X12 hx (hb hby at_158) rfl rfl ?_
        refine Run.goto (pc' := 163) X12 hx (hb hby at_159) (by decide) (by decide) ?_
        exact Run.retSmall X12 hx (t := .boolean) (z' := (1 : Int32)) Bd.notSynchronized Bd.returns (by simp) rfl (hb hby at_163) ⟨rfl, N12⟩ (by decide) (by decide)
    · skip
      refine Run.icmpYes (pc' := 68) X6 hx (hb hby at_52) (flt hc52).2.1 (by decide) (by decide) ?_
      refine Run.iload (pc' := 70) X6 hx (hb hby at_68) rfl rfl ?_
      refine Run.sipush (pc' := 73) (v := (256 : Int32)) X6 hx (hb hby at_70) rfl rfl ?_
      by_cases hc73 : len < (256 : Int32)
      · skip
        refine Run.icmpNo (pc' := 76) X6 hx (hb hby at_73) (tlt hc73).2.1 rfl ?_
        refine Run.aload (pc' := 78) X6 hx (hb hby at_76) rfl rfl ?_
        refine Run.iconst (pc' := 79) (v := (3 : Int32)) X6 hx (hb hby at_78) rfl rfl ?_
        refine Run.bipush (pc' := 81) (v := (-127 : Int32)) X6 hx (hb hby at_79) rfl rfl ?_
        obtain ⟨T13, h13, sl13, u13, X13, e13, W13, A13, st13⟩ := st_bastore X6 hx hZ e6 A6 (Ls := #[.val (.int p0), .val (.int p1), .val (.long q2), .second, .val (.int len), .val (.ref b1), .unset, .unset, .unset]) (rest := []) (j := (3 : Int32)) (x := (-127 : Int32)) (by decide) (by decide) (hb hby at_81)
        have N13 := Fr.snoc X13 N6 G1
        obtain ⟨f14, qf14⟩ : ∃ g : Int32 → Int32, g = fun i => if i = (3 : Int32) then (-127 : Int32).toInt8.toInt32 else f7 i := ⟨_, rfl⟩
        replace A13 : Ints Z h13 b1 .byte (13 : Int32) f14 := by rw [qf14]; exact A13
        have Z13 : n0 ≤ h13.size := Nat.le_trans Z6 (Keep.of_wr W13).1
        refine Run.back (g' := (mkF m 82 #[.val (.int p0), .val (.int p1), .val (.long q2), .second, .val (.int len), .val (.ref b1), .unset, .unset, .unset] [])) st13 ?_
        refine Run.aload (pc' := 84) X13 hx (hb hby at_82) rfl rfl ?_
        refine Run.iconst (pc' := 85) (v := (4 : Int32)) X13 hx (hb hby at_84) rfl rfl ?_
        refine Run.iload (pc' := 87) X13 hx (hb hby at_85) rfl rfl ?_
        refine Run.i2b (pc' := 88) X13 hx (hb hby at_87) rfl ?_
        obtain ⟨T15, h15, sl15, u15, X15, e15, W15, A15, st15⟩ := st_bastore X13 hx hZ e13 A13 (Ls := #[.val (.int p0), .val (.int p1), .val (.long q2), .second, .val (.int len), .val (.ref b1), .unset, .unset, .unset]) (rest := []) (j := (4 : Int32)) (x := (len.toInt8.toInt32)) (by decide) (by decide) (hb hby at_88)
        have N15 := Fr.snoc X15 N13 G1
        obtain ⟨f16, qf16⟩ : ∃ g : Int32 → Int32, g = fun i => if i = (4 : Int32) then (len.toInt8.toInt32).toInt8.toInt32 else f14 i := ⟨_, rfl⟩
        replace A15 : Ints Z h15 b1 .byte (13 : Int32) f16 := by rw [qf16]; exact A15
        have Z15 : n0 ≤ h15.size := Nat.le_trans Z13 (Keep.of_wr W15).1
        refine Run.back (g' := (mkF m 89 #[.val (.int p0), .val (.int p1), .val (.long q2), .second, .val (.int len), .val (.ref b1), .unset, .unset, .unset] [])) st15 ?_
        refine Run.iconst (pc' := 90) (v := (5 : Int32)) X15 hx (hb hby at_89) rfl rfl ?_
        refine Run.istore (pc' := 92) X15 hx (l' := #[.val (.int p0), .val (.int p1), .val (.long q2), .second, .val (.int len), .val (.ref b1), .val (.int (5 : Int32)), .unset, .unset]) (hb hby at_90) rfl rfl ?_
        refine Run.goto (pc' := 122) X15 hx (hb hby at_92) (by decide) (by decide) ?_
        refine Run.aload (pc' := 124) X15 hx (hb hby at_122) rfl rfl ?_
        refine Run.iload (pc' := 126) X15 hx (hb hby at_124) rfl rfl ?_
        refine Run.lloadN (pc' := 127) X15 hx (hb hby at_126) rfl rfl ?_
        obtain ⟨T17, L17, v17, X17, Q17, st17⟩ := callStatic X15 hx (y := (⟨"com/example/certwright/certwright/x509/RevokedCertificatesIsWholeKeyPinLaw", "put", "([BIJ)V"⟩ : MethodName)) (Ls := #[.val (.int p0), .val (.int p1), .val (.long q2), .second, .val (.int len), .val (.ref b1), .val (.int (5 : Int32)), .unset, .unset]) (rest := []) (W := 0) (argsL := [(.ref b1), (.int (5 : Int32)), (.long q2)]) hZ hown (hw _ (List.mem_of_getElem? (i := 1) rfl)) (hw _ (List.mem_of_getElem? (i := 2) rfl)) (hw _ (List.mem_of_getElem? (i := 3) rfl)) (hw _ (List.mem_of_getElem? (i := 4) rfl)) (by decide) e15 (rm_p l Z a0 hw [] b1 (5 : Int32) q2 f16 h15 n0 Z15 A15 G1 (by decide)) (hb hby at_127) (lenOf own_pd2 rfl) (by decide) (by decide) (by rw [hml]; rfl) (Nat.le_of_eq rfl) (by decide) (by decide)
        obtain ⟨rfl, M17, K17, G17, A17, hG17⟩ := Q17
        have N17 := Fr.app N15 M17
        have Z17 : n0 ≤ T17.heap.size := Nat.le_trans Z15 K17.1
        have y1 : G17 (1 : Int32) = (11 : Int32) := (hG17 _ (by decide) (by decide)).trans (by rw [qf16, qf14, qf7, qf5, qf3]; rfl)
        have y3 : G17 (3 : Int32) = ((-127) : Int32) := (hG17 _ (by decide) (by decide)).trans (by rw [qf16, qf14, qf7, qf5, qf3]; rfl)
        have y4 : G17 (4 : Int32) = (len.toInt8.toInt32.toInt8.toInt32) := (hG17 _ (by decide) (by decide)).trans (by rw [qf16, qf14, qf7, qf5, qf3]; rfl)
        refine Run.back (g' := (mkF m 130 #[.val (.int p0), .val (.int p1), .val (.long q2), .second, .val (.int len), .val (.ref b1), .val (.int (5 : Int32)), .unset, .unset] [])) st17 ?_
        refine Run.aload (pc' := 132) X17 hx (hb hby at_130) rfl rfl ?_
        refine Run.iconst (pc' := 133) (v := (0 : Int32)) X17 hx (hb hby at_132) rfl rfl ?_
        obtain ⟨T18, L18, v18, X18, Q18, st18⟩ := callStatic X17 hx (y := (⟨"com/example/certwright/certwright/x509/RevokedCertificates", "serialNumberKey", "([BI)J"⟩ : MethodName)) (Ls := #[.val (.int p0), .val (.int p1), .val (.long q2), .second, .val (.int len), .val (.ref b1), .val (.int (5 : Int32)), .unset, .unset]) (rest := []) (W := 0) (argsL := [(.ref b1), (.int (0 : Int32))]) hZ hown (hw _ (List.mem_of_getElem? (i := 5) rfl)) (hw _ (List.mem_of_getElem? (i := 6) rfl)) (hw _ (List.mem_of_getElem? (i := 7) rfl)) (hw _ (List.mem_of_getElem? (i := 8) rfl)) (by decide) rfl (rm_k l Z a0 hw [] b1 (0 : Int32) G17 (2 : Int32) (5 : Int32) len 1 (own_t len) T17.heap n0 Z17 A17 (by decide) (by decide) (by decide) (by decide) (own_sa y1) (own_sb2 y3) (own_sl2 hc52 hc73 y3 y4) (own_hk2 y3) (own_in2 y3) (by decide) (own_tl hlen) (own_t7 hlen)) (hb hby at_133) (lenOf own_pd3 rfl) (by decide) (by decide) (by rw [hml]; rfl) (Nat.le_of_eq rfl) (by decide) (by decide)
        obtain ⟨rfl, M18, e18⟩ := Q18
        have N18 := Fr.app N17 M18
        refine Run.back (g' := (mkF m 136 #[.val (.int p0), .val (.int p1), .val (.long q2), .second, .val (.int len), .val (.ref b1), .val (.int (5 : Int32)), .unset, .unset] [(.long (own_K G17 (5 : Int32) len (own_t len)))])) st18 ?_
        refine Run.lstore (pc' := 138) X18 hx (l' := #[.val (.int p0), .val (.int p1), .val (.long q2), .second, .val (.int len), .val (.ref b1), .val (.int (5 : Int32)), .val (.long (own_K G17 (5 : Int32) len (own_t len))), .second]) (hb hby at_136) rfl rfl ?_
        refine Run.lload (pc' := 140) X18 hx (hb hby at_138) rfl rfl ?_
        obtain ⟨T19, L19, v19, X19, Q19, st19⟩ := callStatic X18 hx (y := (⟨"com/example/certwright/certwright/x509/RevokedCertificates", "isWholeKey", "(J)Z"⟩ : MethodName)) (Ls := #[.val (.int p0), .val (.int p1), .val (.long q2), .second, .val (.int len), .val (.ref b1), .val (.int (5 : Int32)), .val (.long (own_K G17 (5 : Int32) len (own_t len))), .second]) (rest := []) (W := 0) (argsL := [(.long (own_K G17 (5 : Int32) len (own_t len)))]) hZ hown (hw _ (List.mem_of_getElem? (i := 20) rfl)) (hw _ (List.mem_of_getElem? (i := 21) rfl)) (hw _ (List.mem_of_getElem? (i := 7) rfl)) (hw _ (List.mem_of_getElem? (i := 22) rfl)) (by decide) e18 (rm_w l Z a0 hw [] (own_K G17 (5 : Int32) len (own_t len))  T17.heap n0 Z17 ) (hb hby at_140) (lenOf own_pd4 rfl) (by decide) (by decide) (by rw [hml]; rfl) (Nat.le_of_eq rfl) (by decide) (by decide)
        obtain ⟨hv19, M19, e19⟩ := Q19
        rw [show (own_Fw (own_K G17 (5 : Int32) len (own_t len))) = (if (7 : Int32) < len then (0 : Int32) else (1 : Int32)) from (own_whole G17 hlen)] at hv19
        subst hv19
        have N19 := Fr.app N18 M19
        refine Run.back (g' := (mkF m 143 #[.val (.int p0), .val (.int p1), .val (.long q2), .second, .val (.int len), .val (.ref b1), .val (.int (5 : Int32)), .val (.long (own_K G17 (5 : Int32) len (own_t len))), .second] [(.int (if (7 : Int32) < len then (0 : Int32) else (1 : Int32)))])) st19 ?_
        refine Run.iload (pc' := 145) X19 hx (hb hby at_143) rfl rfl ?_
        refine Run.bipush (pc' := 147) (v := (7 : Int32)) X19 hx (hb hby at_145) rfl rfl ?_
        by_cases hc147 : (7 : Int32) < len
        · skip
          refine Run.icmpYes (pc' := 154) X19 hx (hb hby at_147) (tlt hc147).2.2.1 (by decide) (by decide) ?_
          refine Run.iconst (pc' := 155) (v := (0 : Int32)) X19 hx (hb hby at_154) rfl rfl ?_
          refine Run.icmpNo (pc' := 158) X19 hx (hb hby at_155) (teq (if_pos hc147)).2 rfl ?_
          refine Run.iconst (pc' := 159) (v := (1 : Int32)) X19 hx (hb hby at_158) rfl rfl ?_
          refine Run.goto (pc' := 163) X19 hx (hb hby at_159) (by decide) (by decide) ?_
          exact Run.retSmall X19 hx (t := .boolean) (z' := (1 : Int32)) Bd.notSynchronized Bd.returns (by simp) rfl (hb hby at_163) ⟨rfl, N19⟩ (by decide) (by decide)
        · skip
          refine Run.icmpNo (pc' := 150) X19 hx (hb hby at_147) (flt hc147).2.2.1 rfl ?_
          refine Run.iconst (pc' := 151) (v := (1 : Int32)) X19 hx (hb hby at_150) rfl rfl ?_
          refine Run.goto (pc' := 155) X19 hx (hb hby at_151) (by decide) (by decide) ?_
          refine Run.icmpNo (pc' := 158) X19 hx (hb hby at_155) (teq (if_neg hc147)).2 rfl ?_
          refine Run.iconst (pc' := 159) (v := (1 : Int32)) X19 hx (hb hby at_158) rfl rfl ?_
          refine Run.goto (pc' := 163) X19 hx (hb hby at_159) (by decide) (by decide) ?_
          exact Run.retSmall X19 hx (t := .boolean) (z' := (1 : Int32)) Bd.notSynchronized Bd.returns (by simp) rfl (hb hby at_163) ⟨rfl, N19⟩ (by decide) (by decide)
      · skip
        refine Run.icmpYes (pc' := 95) X6 hx (hb hby at_73) (flt hc73).2.1 (by decide) (by decide) ?_
        refine Run.aload (pc' := 97) X6 hx (hb hby at_95) rfl rfl ?_
        refine Run.iconst (pc' := 98) (v := (3 : Int32)) X6 hx (hb hby at_97) rfl rfl ?_
        refine Run.bipush (pc' := 100) (v := (-126 : Int32)) X6 hx (hb hby at_98) rfl rfl ?_
        obtain ⟨T20, h20, sl20, u20, X20, e20, W20, A20, st20⟩ := st_bastore X6 hx hZ e6 A6 (Ls := #[.val (.int p0), .val (.int p1), .val (.long q2), .second, .val (.int len), .val (.ref b1), .unset, .unset, .unset]) (rest := []) (j := (3 : Int32)) (x := (-126 : Int32)) (by decide) (by decide) (hb hby at_100)
        have N20 := Fr.snoc X20 N6 G1
        obtain ⟨f21, qf21⟩ : ∃ g : Int32 → Int32, g = fun i => if i = (3 : Int32) then (-126 : Int32).toInt8.toInt32 else f7 i := ⟨_, rfl⟩
        replace A20 : Ints Z h20 b1 .byte (13 : Int32) f21 := by rw [qf21]; exact A20
        have Z20 : n0 ≤ h20.size := Nat.le_trans Z6 (Keep.of_wr W20).1
        refine Run.back (g' := (mkF m 101 #[.val (.int p0), .val (.int p1), .val (.long q2), .second, .val (.int len), .val (.ref b1), .unset, .unset, .unset] [])) st20 ?_
        refine Run.aload (pc' := 103) X20 hx (hb hby at_101) rfl rfl ?_
        refine Run.iconst (pc' := 104) (v := (4 : Int32)) X20 hx (hb hby at_103) rfl rfl ?_
        refine Run.iload (pc' := 106) X20 hx (hb hby at_104) rfl rfl ?_
        refine Run.bipush (pc' := 108) (v := (8 : Int32)) X20 hx (hb hby at_106) rfl rfl ?_
        refine Run.iushr (pc' := 109) X20 hx (hb hby at_108) rfl ?_
        refine Run.i2b (pc' := 110) X20 hx (hb hby at_109) rfl ?_
        obtain ⟨T22, h22, sl22, u22, X22, e22, W22, A22, st22⟩ := st_bastore X20 hx hZ e20 A20 (Ls := #[.val (.int p0), .val (.int p1), .val (.long q2), .second, .val (.int len), .val (.ref b1), .unset, .unset, .unset]) (rest := []) (j := (4 : Int32)) (x := (((len.toUInt32 >>> ((8 : Int32) &&& 31).toUInt32).toInt32).toInt8.toInt32)) (by decide) (by decide) (hb hby at_110)
        have N22 := Fr.snoc X22 N20 G1
        obtain ⟨f23, qf23⟩ : ∃ g : Int32 → Int32, g = fun i => if i = (4 : Int32) then (((len.toUInt32 >>> ((8 : Int32) &&& 31).toUInt32).toInt32).toInt8.toInt32).toInt8.toInt32 else f21 i := ⟨_, rfl⟩
        replace A22 : Ints Z h22 b1 .byte (13 : Int32) f23 := by rw [qf23]; exact A22
        have Z22 : n0 ≤ h22.size := Nat.le_trans Z20 (Keep.of_wr W22).1
        refine Run.back (g' := (mkF m 111 #[.val (.int p0), .val (.int p1), .val (.long q2), .second, .val (.int len), .val (.ref b1), .unset, .unset, .unset] [])) st22 ?_
        refine Run.aload (pc' := 113) X22 hx (hb hby at_111) rfl rfl ?_
        refine Run.iconst (pc' := 114) (v := (5 : Int32)) X22 hx (hb hby at_113) rfl rfl ?_
        refine Run.iload (pc' := 116) X22 hx (hb hby at_114) rfl rfl ?_
        refine Run.i2b (pc' := 117) X22 hx (hb hby at_116) rfl ?_
        obtain ⟨T24, h24, sl24, u24, X24, e24, W24, A24, st24⟩ := st_bastore X22 hx hZ e22 A22 (Ls := #[.val (.int p0), .val (.int p1), .val (.long q2), .second, .val (.int len), .val (.ref b1), .unset, .unset, .unset]) (rest := []) (j := (5 : Int32)) (x := (len.toInt8.toInt32)) (by decide) (by decide) (hb hby at_117)
        have N24 := Fr.snoc X24 N22 G1
        obtain ⟨f25, qf25⟩ : ∃ g : Int32 → Int32, g = fun i => if i = (5 : Int32) then (len.toInt8.toInt32).toInt8.toInt32 else f23 i := ⟨_, rfl⟩
        replace A24 : Ints Z h24 b1 .byte (13 : Int32) f25 := by rw [qf25]; exact A24
        have Z24 : n0 ≤ h24.size := Nat.le_trans Z22 (Keep.of_wr W24).1
        refine Run.back (g' := (mkF m 118 #[.val (.int p0), .val (.int p1), .val (.long q2), .second, .val (.int len), .val (.ref b1), .unset, .unset, .unset] [])) st24 ?_
        refine Run.bipush (pc' := 120) (v := (6 : Int32)) X24 hx (hb hby at_118) rfl rfl ?_
        refine Run.istore (pc' := 122) X24 hx (l' := #[.val (.int p0), .val (.int p1), .val (.long q2), .second, .val (.int len), .val (.ref b1), .val (.int (6 : Int32)), .unset, .unset]) (hb hby at_120) rfl rfl ?_
        refine Run.aload (pc' := 124) X24 hx (hb hby at_122) rfl rfl ?_
        refine Run.iload (pc' := 126) X24 hx (hb hby at_124) rfl rfl ?_
        refine Run.lloadN (pc' := 127) X24 hx (hb hby at_126) rfl rfl ?_
        obtain ⟨T26, L26, v26, X26, Q26, st26⟩ := callStatic X24 hx (y := (⟨"com/example/certwright/certwright/x509/RevokedCertificatesIsWholeKeyPinLaw", "put", "([BIJ)V"⟩ : MethodName)) (Ls := #[.val (.int p0), .val (.int p1), .val (.long q2), .second, .val (.int len), .val (.ref b1), .val (.int (6 : Int32)), .unset, .unset]) (rest := []) (W := 0) (argsL := [(.ref b1), (.int (6 : Int32)), (.long q2)]) hZ hown (hw _ (List.mem_of_getElem? (i := 1) rfl)) (hw _ (List.mem_of_getElem? (i := 2) rfl)) (hw _ (List.mem_of_getElem? (i := 3) rfl)) (hw _ (List.mem_of_getElem? (i := 4) rfl)) (by decide) e24 (rm_p l Z a0 hw [] b1 (6 : Int32) q2 f25 h24 n0 Z24 A24 G1 (by decide)) (hb hby at_127) (lenOf own_pd2 rfl) (by decide) (by decide) (by rw [hml]; rfl) (Nat.le_of_eq rfl) (by decide) (by decide)
        obtain ⟨rfl, M26, K26, G26, A26, hG26⟩ := Q26
        have N26 := Fr.app N24 M26
        have Z26 : n0 ≤ T26.heap.size := Nat.le_trans Z24 K26.1
        have y1 : G26 (1 : Int32) = (11 : Int32) := (hG26 _ (by decide) (by decide)).trans (by rw [qf25, qf23, qf21, qf7, qf5, qf3]; rfl)
        have y3 : G26 (3 : Int32) = ((-126) : Int32) := (hG26 _ (by decide) (by decide)).trans (by rw [qf25, qf23, qf21, qf7, qf5, qf3]; rfl)
        have y4 : G26 (4 : Int32) = (((len.toUInt32 >>> ((8 : Int32) &&& 31).toUInt32).toInt32).toInt8.toInt32.toInt8.toInt32) := (hG26 _ (by decide) (by decide)).trans (by rw [qf25, qf23, qf21, qf7, qf5, qf3]; rfl)
        have y5 : G26 (5 : Int32) = (len.toInt8.toInt32.toInt8.toInt32) := (hG26 _ (by decide) (by decide)).trans (by rw [qf25, qf23, qf21, qf7, qf5, qf3]; rfl)
        refine Run.back (g' := (mkF m 130 #[.val (.int p0), .val (.int p1), .val (.long q2), .second, .val (.int len), .val (.ref b1), .val (.int (6 : Int32)), .unset, .unset] [])) st26 ?_
        refine Run.aload (pc' := 132) X26 hx (hb hby at_130) rfl rfl ?_
        refine Run.iconst (pc' := 133) (v := (0 : Int32)) X26 hx (hb hby at_132) rfl rfl ?_
        obtain ⟨T27, L27, v27, X27, Q27, st27⟩ := callStatic X26 hx (y := (⟨"com/example/certwright/certwright/x509/RevokedCertificates", "serialNumberKey", "([BI)J"⟩ : MethodName)) (Ls := #[.val (.int p0), .val (.int p1), .val (.long q2), .second, .val (.int len), .val (.ref b1), .val (.int (6 : Int32)), .unset, .unset]) (rest := []) (W := 0) (argsL := [(.ref b1), (.int (0 : Int32))]) hZ hown (hw _ (List.mem_of_getElem? (i := 5) rfl)) (hw _ (List.mem_of_getElem? (i := 6) rfl)) (hw _ (List.mem_of_getElem? (i := 7) rfl)) (hw _ (List.mem_of_getElem? (i := 8) rfl)) (by decide) rfl (rm_k l Z a0 hw [] b1 (0 : Int32) G26 (2 : Int32) (6 : Int32) len 2 (own_t len) T26.heap n0 Z26 A26 (by decide) (by decide) (by decide) (by decide) (own_sa y1) (own_sb3 y3) (own_sl3 hlen hc73 y3 y4 y5) (own_hk3 y3) (own_in3 y3) (by decide) (own_tl hlen) (own_t7 hlen)) (hb hby at_133) (lenOf own_pd3 rfl) (by decide) (by decide) (by rw [hml]; rfl) (Nat.le_of_eq rfl) (by decide) (by decide)
        obtain ⟨rfl, M27, e27⟩ := Q27
        have N27 := Fr.app N26 M27
        refine Run.back (g' := (mkF m 136 #[.val (.int p0), .val (.int p1), .val (.long q2), .second, .val (.int len), .val (.ref b1), .val (.int (6 : Int32)), .unset, .unset] [(.long (own_K G26 (6 : Int32) len (own_t len)))])) st27 ?_
        refine Run.lstore (pc' := 138) X27 hx (l' := #[.val (.int p0), .val (.int p1), .val (.long q2), .second, .val (.int len), .val (.ref b1), .val (.int (6 : Int32)), .val (.long (own_K G26 (6 : Int32) len (own_t len))), .second]) (hb hby at_136) rfl rfl ?_
        refine Run.lload (pc' := 140) X27 hx (hb hby at_138) rfl rfl ?_
        obtain ⟨T28, L28, v28, X28, Q28, st28⟩ := callStatic X27 hx (y := (⟨"com/example/certwright/certwright/x509/RevokedCertificates", "isWholeKey", "(J)Z"⟩ : MethodName)) (Ls := #[.val (.int p0), .val (.int p1), .val (.long q2), .second, .val (.int len), .val (.ref b1), .val (.int (6 : Int32)), .val (.long (own_K G26 (6 : Int32) len (own_t len))), .second]) (rest := []) (W := 0) (argsL := [(.long (own_K G26 (6 : Int32) len (own_t len)))]) hZ hown (hw _ (List.mem_of_getElem? (i := 20) rfl)) (hw _ (List.mem_of_getElem? (i := 21) rfl)) (hw _ (List.mem_of_getElem? (i := 7) rfl)) (hw _ (List.mem_of_getElem? (i := 22) rfl)) (by decide) e27 (rm_w l Z a0 hw [] (own_K G26 (6 : Int32) len (own_t len))  T26.heap n0 Z26 ) (hb hby at_140) (lenOf own_pd4 rfl) (by decide) (by decide) (by rw [hml]; rfl) (Nat.le_of_eq rfl) (by decide) (by decide)
        obtain ⟨hv28, M28, e28⟩ := Q28
        rw [show (own_Fw (own_K G26 (6 : Int32) len (own_t len))) = (if (7 : Int32) < len then (0 : Int32) else (1 : Int32)) from (own_whole G26 hlen)] at hv28
        subst hv28
        have N28 := Fr.app N27 M28
        refine Run.back (g' := (mkF m 143 #[.val (.int p0), .val (.int p1), .val (.long q2), .second, .val (.int len), .val (.ref b1), .val (.int (6 : Int32)), .val (.long (own_K G26 (6 : Int32) len (own_t len))), .second] [(.int (if (7 : Int32) < len then (0 : Int32) else (1 : Int32)))])) st28 ?_
        refine Run.iload (pc' := 145) X28 hx (hb hby at_143) rfl rfl ?_
        refine Run.bipush (pc' := 147) (v := (7 : Int32)) X28 hx (hb hby at_145) rfl rfl ?_
        by_cases hc147 : (7 : Int32) < len
        · skip
          refine Run.icmpYes (pc' := 154) X28 hx (hb hby at_147) (tlt hc147).2.2.1 (by decide) (by decide) ?_
          refine Run.iconst (pc' := 155) (v := (0 : Int32)) X28 hx (hb hby at_154) rfl rfl ?_
          refine Run.icmpNo (pc' := 158) X28 hx (hb hby at_155) (teq (if_pos hc147)).2 rfl ?_
          refine Run.iconst (pc' := 159) (v := (1 : Int32)) X28 hx (hb hby at_158) rfl rfl ?_
          refine Run.goto (pc' := 163) X28 hx (hb hby at_159) (by decide) (by decide) ?_
          exact Run.retSmall X28 hx (t := .boolean) (z' := (1 : Int32)) Bd.notSynchronized Bd.returns (by simp) rfl (hb hby at_163) ⟨rfl, N28⟩ (by decide) (by decide)
        · skip
          refine Run.icmpNo (pc' := 150) X28 hx (hb hby at_147) (flt hc147).2.2.1 rfl ?_
          refine Run.iconst (pc' := 151) (v := (1 : Int32)) X28 hx (hb hby at_150) rfl rfl ?_
          refine Run.goto (pc' := 155) X28 hx (hb hby at_151) (by decide) (by decide) ?_
          refine Run.icmpNo (pc' := 158) X28 hx (hb hby at_155) (teq (if_neg hc147)).2 rfl ?_
          refine Run.iconst (pc' := 159) (v := (1 : Int32)) X28 hx (hb hby at_158) rfl rfl ?_
          refine Run.goto (pc' := 163) X28 hx (hb hby at_159) (by decide) (by decide) ?_
          exact Run.retSmall X28 hx (t := .boolean) (z' := (1 : Int32)) Bd.notSynchronized Bd.returns (by simp) rfl (hb hby at_163) ⟨rfl, N28⟩ (by decide) (by decide)
  by_cases hc3 : (p0 &&& (1 : Int32)) = (0 : Int32)
  · skip
    refine Run.ifYes (pc' := 15) X0 hx (hb hby at_3) ((if0 _ _).trans (teq hc3).1) (by decide) (by decide) ?_
    refine Run.iconst (pc' := 16) (v := (1 : Int32)) X0 hx (hb hby at_15) rfl rfl ?_
    refine Run.iloadN (pc' := 17) X0 hx (hb hby at_16) rfl rfl ?_
    refine Run.sipush (pc' := 20) (v := (32767 : Int32)) X0 hx (hb hby at_17) rfl rfl ?_
    refine Run.iand (pc' := 21) X0 hx (hb hby at_20) rfl ?_
    refine Run.iadd (pc' := 22) X0 hx (hb hby at_21) rfl ?_
    exact J22 _ (by rw [if_pos hc3]) _ _ X0 e0 N0
  · skip
    refine Run.ifNo (pc' := 6) X0 hx (hb hby at_3) ((if0 _ _).trans (feq hc3).1) rfl ?_
    refine Run.iconst (pc' := 7) (v := (1 : Int32)) X0 hx (hb hby at_6) rfl rfl ?_
    refine Run.iloadN (pc' := 8) X0 hx (hb hby at_7) rfl rfl ?_
    refine Run.bipush (pc' := 10) (v := (15 : Int32)) X0 hx (hb hby at_8) rfl rfl ?_
    refine Run.iand (pc' := 11) X0 hx (hb hby at_10) rfl ?_
    refine Run.iadd (pc' := 12) X0 hx (hb hby at_11) rfl ?_
    refine Run.goto (pc' := 22) X0 hx (hb hby at_12) (by decide) (by decide) ?_
    exact J22 _ (by rw [if_neg hc3]) _ _ X0 e0 N0
set_option maxRecDepth 65536 in
set_option maxHeartbeats 40000000 in
theorem comes_1 {Post : Tables → Env → Array Value → State → Outcome → State → Prop} (hpost : ∀ tb e args s v u, (limb_1_1.after args s (.returned v) u = true ∧ limb_1_2.after args s (.returned v) u = true ∧ True) → FrameEnd s (.returned v) u (Jvm.fieldLocs frame_1_writes args s ++ Jvm.arrayLocs frame_1_arrays args s ++ Jvm.staticLocs frame_1_statics s) 16 128 → Post tb e args s (.returned v) u) :
    ArmFor flags0 classFile x code maxLocals ret World_1 tables_1 room_1 Calls_1 rest_1 Pre_1 Post := by
  intro l hfl _ _ p e ha hc hk s m args below hf hA hF happ hP
  obtain ⟨hcalls, hrest, hpre⟩ := hP
  obtain ⟨-, -, -, hnamed, -, -, -, hat⟩ := (Spec.applies_iff hf).mp happ
  obtain ⟨hg, hn⟩ := and_e (Cond.before_iff.mp (show (Jvm.Cond.and given_1 narrow_1).before args s = true from hpre))
  obtain ⟨hcount, hg0⟩ := and_e hg
  obtain ⟨ha0, hg1⟩ := and_e hg0
  obtain ⟨ha1, hg2⟩ := and_e hg1
  obtain ⟨w0, w1, w2, rfl⟩ : ∃ w0 w1 w2 : Value, args = #[w0, w1, w2] := by
    have hs : args.size = 3 := by simpa [Cond.value, given_1] using hcount
    obtain ⟨L⟩ := args
    match L, hs with
    | [w0, w1, w2], _ => exact ⟨w0, w1, w2, rfl⟩
  have hw := fun d (hd : d ∈ tables_1) => atoms_spec (ws := Jvm.Cond.code x code maxLocals ret :: tables_1) hat d (List.mem_cons_of_mem _ hd)
  have hfit : Fit s := fun {y c} hc i hi => by
    obtain ⟨ha, rfl⟩ := Array.getElem?_eq_some_iff.mp hc
    have q := List.all_eq_true.mp ((Array.all_eq_true_iff_forall_mem.mp hF) _ (Array.getElem_mem ha)) i (List.mem_range.mpr hi)
    simpa [Array.getElem?_eq_getElem hi] using q
  obtain ⟨i0, ei0⟩ := is_v ha0
  obtain rfl : w0 = (.int i0) := Option.some.inj ei0
  obtain ⟨i1, ei1⟩ := is_v ha1
  obtain rfl : w1 = (.int i1) := Option.some.inj ei1
  obtain ⟨i2, ei2⟩ := isL_v hg2
  obtain rfl : w2 = (.long i2) := Option.some.inj ei2
  obtain ⟨n, o, h1, h2, h3, _, L, rfl, ⟨rfl, N⟩, hq⟩ := rm0 l s _ hw tables_1 i0 i1 i2 s.heap s.heap.size (Nat.le_refl _) p e ha hc hk s m _ below hf ((Spec.applies_iff_loose hf).mp happ).1 ⟨rfl, State.Warmed39.refl s, rfl⟩ trivial
  refine ⟨n, _, h1, h2, h3, hpost _ _ _ _ _ _ ⟨Cond.after_iff.mpr rfl, Cond.after_iff.mpr (eq_i res_at (Term.int_eval (1)) rfl), trivial⟩ ⟨hq.1, hq.2.1, (hq.2.2.sift fun y hy => Or.inr (N y hy)).mono (by decide) (by decide)⟩⟩
theorem main_1_1 : Claimed_1_1 := comes_1 fun _ _ _ _ _ _ h hF => ⟨h.1, hF⟩
theorem main_1_2 : Claimed_1_2 := comes_1 fun _ _ _ _ _ _ h hF => ⟨h.2.1, hF⟩
end Jvm.Pilot.@@N@@
namespace Jvm.Pilot.@@N@@
open Jvm Jvm.ClassFile Sem Op Lib Jvm.Free Jvm.Stand Jvm.Pilot.@@N@@.Jvm.D
/-! MADE BY PROGRAM (witnessworld.py) out of the Statement's table words and the real class files: 10 classes; the members and pool entries that the words name. The judged class is class 1, her method 1. -/
namespace start1
open Jvm.ClassFile
def u (s : String) : CpInfo := .utf8 (stringToUtf16 s)
/-- a pool by its gaps: so many unusable entries, then the entry; so many at the end -/
def gap : Nat → List CpInfo → List CpInfo
  | 0, r => r
  | n + 1, r => .unusable :: gap n r
def poolList (es : List (Nat × CpInfo)) (last : Nat) : List CpInfo := es.foldr (fun e r => gap e.1 (e.2 :: r)) (gap last [])
def pool (es : List (Nat × CpInfo)) (last : Nat) : Array CpInfo := ⟨poolList es last⟩
def fileOf (pool : Array CpInfo) (this : Nat) (attrs : Array Attribute := #[]) (ms : Array MethodInfo := #[]) (fl : Nat := 33) (sup : Nat := 0) (ifs : Array Nat := #[]) (fds : Array FieldInfo := #[]) : ClassFile where
  minorVersion := 0
  majorVersion := 65
  constantPool := pool
  accessFlags := fl
  thisClass := this
  superClass := sup
  interfaces := ifs
  fields := fds
  methods := ms
  attributes := attrs
def plain (name : String) (sup : Option ClassId) : Class where
  name := name
  kind := .ordinary
  loader := none
  accessFlags := 33
  super := sup
  interfaces := #[]
  cf := none
  fields := #[]
  methods := #[]
  instanceTypes := #[]
  staticTypes := #[]
  resolved := #[]
  callSites := []
  init := .initialized
  statics := none
  mirror := none

def pool0 : Array CpInfo := pool [(5, u "<init>"), (0, u "()V"), (1, .class_ 10), (1, u "java/lang/Object")] 113

def k0m0 : Method := { name := "<init>", desc := "()V", sig := { parameters := [], returnType := none }, accessFlags := 1, code := none }
/-- java/lang/Object -/
def k0 : Class := { plain "java/lang/Object" none with
  accessFlags := 33
  interfaces := #[]
  cf := some (fileOf pool0 8 #[] #[{ accessFlags := 1, nameIndex := 5, descriptorIndex := 6, attributes := #[] }] 33 0 #[] #[])
  fields := #[]
  methods := #[k0m0]
  instanceTypes := #[]
  staticTypes := #[]
  resolved := Array.replicate 124 none
  statics := none }

def pool1 : Array CpInfo := pool [(2, .class_ 4), (1, u "java/lang/Object"), (0, u "<init>"), (0, u "()V"), (0, .methodref 8 9), (0, .class_ 10), (0, .nameAndType 11 12), (0, u "com/example/certwright/certwright/x509/RevokedCertificatesIsWholeKeyPinLaw"), (0, u "put"), (0, u "([BIJ)V"), (0, .methodref 14 15), (0, .class_ 16), (0, .nameAndType 17 18), (0, u "com/example/certwright/certwright/x509/RevokedCertificates"), (0, u "serialNumberKey"), (0, u "([BI)J"), (0, .methodref 14 20), (0, .nameAndType 21 22), (0, u "isWholeKey"), (0, u "(J)Z"), (2, u "law"), (0, u "(IIJ)Z")] 5

def k1m0 : Method := { name := "<init>", desc := "()V", sig := { parameters := [], returnType := none }, accessFlags := 1, code := none }
def k1c1 : Code := { maxStack := 4, maxLocals := 9, code := code, exceptionTable := #[], attributes := #[] }
def k1m1 : Method := { name := "law", desc := "(IIJ)Z", sig := { parameters := [.int, .int, .long], returnType := some .boolean }, accessFlags := 9, code := some k1c1 }
def k1c2 : Code := { maxStack := 5, maxLocals := 4, code := method_3_code, exceptionTable := #[], attributes := #[] }
def k1m2 : Method := { name := "put", desc := "([BIJ)V", sig := { parameters := [(.array .byte), .int, .long], returnType := none }, accessFlags := 10, code := some k1c2 }
/-- com/example/certwright/certwright/x509/RevokedCertificatesIsWholeKeyPinLaw -/
def k1 : Class := { plain "com/example/certwright/certwright/x509/RevokedCertificatesIsWholeKeyPinLaw" (some 0) with
  accessFlags := 49
  interfaces := #[]
  cf := some (fileOf pool1 8 #[] #[{ accessFlags := 1, nameIndex := 5, descriptorIndex := 6, attributes := #[] }, { accessFlags := 9, nameIndex := 25, descriptorIndex := 26, attributes := #[] }, { accessFlags := 10, nameIndex := 11, descriptorIndex := 12, attributes := #[] }] 49 2 #[] #[])
  fields := #[]
  methods := #[k1m0, k1m1, k1m2]
  instanceTypes := #[]
  staticTypes := #[]
  resolved := Array.replicate 32 none
  statics := none }

def pool2 : Array CpInfo := pool [(2, .class_ 4), (1, u "java/lang/Object"), (0, u "<init>"), (0, u "()V"), (4, .class_ 13), (1, u "com/example/certwright/certwright/x509/RevokedCertificates"), (0, u "entries"), (0, u "Ljava/util/List;"), (25, u "length"), (0, u "I"), (1, .class_ 46), (1, u "java/lang/Math"), (1, u "(II)I"), (20, .methodref 11 70), (0, .nameAndType 71 72), (0, u "contentStart"), (0, u "([BI)I"), (0, .methodref 11 74), (0, .nameAndType 75 72), (0, u "contentLength"), (6, .methodref 44 83), (0, .nameAndType 84 48), (0, u "min"), (0, .long 9223372036854775808), (20, u "serialNumberKey"), (0, u "([BI)J"), (0, u "isWholeKey"), (0, u "(J)Z")] 33

def k2m0 : Method := { name := "<init>", desc := "()V", sig := { parameters := [], returnType := none }, accessFlags := 1, code := none }
def k2c1 : Code := { maxStack := 7, maxLocals := 10, code := prog_111_method_9_code, exceptionTable := #[], attributes := #[] }
def k2m1 : Method := { name := "serialNumberKey", desc := "([BI)J", sig := { parameters := [(.array .byte), .int], returnType := some .long }, accessFlags := 8, code := some k2c1 }
def k2c2 : Code := { maxStack := 4, maxLocals := 3, code := prog_111_method_10_code, exceptionTable := #[], attributes := #[] }
def k2m2 : Method := { name := "isWholeKey", desc := "(J)Z", sig := { parameters := [.long], returnType := some .boolean }, accessFlags := 8, code := some k2c2 }
def k2c3 : Code := { maxStack := 3, maxLocals := 3, code := prog_111_method_11_code, exceptionTable := #[], attributes := #[] }
def k2m3 : Method := { name := "contentStart", desc := "([BI)I", sig := { parameters := [(.array .byte), .int], returnType := some .int }, accessFlags := 10, code := some k2c3 }
def k2c4 : Code := { maxStack := 4, maxLocals := 5, code := prog_111_method_12_code, exceptionTable := #[], attributes := #[] }
def k2m4 : Method := { name := "contentLength", desc := "([BI)I", sig := { parameters := [(.array .byte), .int], returnType := some .int }, accessFlags := 10, code := some k2c4 }
/-- com/example/certwright/certwright/x509/RevokedCertificates -/
def k2 : Class := { plain "com/example/certwright/certwright/x509/RevokedCertificates" (some 0) with
  accessFlags := 49
  interfaces := #[]
  cf := some (fileOf pool2 11 #[] #[{ accessFlags := 1, nameIndex := 5, descriptorIndex := 6, attributes := #[] }, { accessFlags := 8, nameIndex := 106, descriptorIndex := 107, attributes := #[] }, { accessFlags := 8, nameIndex := 108, descriptorIndex := 109, attributes := #[] }, { accessFlags := 10, nameIndex := 71, descriptorIndex := 72, attributes := #[] }, { accessFlags := 10, nameIndex := 75, descriptorIndex := 72, attributes := #[] }] 49 2 #[] #[{ accessFlags := 18, nameIndex := 14, descriptorIndex := 15, attributes := #[] }, { accessFlags := 2, nameIndex := 41, descriptorIndex := 42, attributes := #[] }])
  fields := #[{ name := "entries", type := (.object "java/util/List"), accessFlags := 18, slot := 0, constantValue := 0 }, { name := "length", type := .int, accessFlags := 2, slot := 1, constantValue := 0 }]
  methods := #[k2m0, k2m1, k2m2, k2m3, k2m4]
  instanceTypes := #[(.object "java/util/List"), .int]
  staticTypes := #[]
  resolved := Array.replicate 143 none
  statics := none }

def pool3 : Array CpInfo := pool [(1, .class_ 2), (0, u "java/lang/Math"), (1, .class_ 6), (1, u "java/lang/Object"), (0, u "<init>"), (0, u "()V"), (89, .class_ 100), (1, u "java/lang/Math$RandomNumberGeneratorHolder"), (71, u "negativeZeroFloatBits"), (0, u "J"), (2, u "negativeZeroDoubleBits"), (24, u "min"), (43, u "$assertionsDisabled"), (0, u "Z"), (88, u "(II)I"), (2, u "twoToTheDoubleScaleDown"), (0, u "D"), (4, u "twoToTheDoubleScaleUp"), (9, u "E"), (3, u "PI"), (2, u "TAU"), (2, u "DEGREES_TO_RADIANS"), (0, u "RADIANS_TO_DEGREES")] 94

def k3m0 : Method := { name := "<init>", desc := "()V", sig := { parameters := [], returnType := none }, accessFlags := 2, code := none }
def k3c1 : Code := { maxStack := 2, maxLocals := 2, code := jdk_29_method_69_code, exceptionTable := #[], attributes := #[] }
def k3m1 : Method := { name := "min", desc := "(II)I", sig := { parameters := [.int, .int], returnType := some .int }, accessFlags := 9, code := some k3c1 }
/-- java/lang/Math -/
def k3 : Class := { plain "java/lang/Math" (some 0) with
  accessFlags := 49
  interfaces := #[]
  cf := some (fileOf pool3 1 #[.nestMembers #[98]] #[{ accessFlags := 2, nameIndex := 7, descriptorIndex := 8, attributes := #[] }, { accessFlags := 9, nameIndex := 201, descriptorIndex := 335, attributes := #[] }] 49 4 #[] #[{ accessFlags := 25, nameIndex := 354, descriptorIndex := 339, attributes := #[] }, { accessFlags := 25, nameIndex := 358, descriptorIndex := 339, attributes := #[] }, { accessFlags := 25, nameIndex := 361, descriptorIndex := 339, attributes := #[] }, { accessFlags := 26, nameIndex := 364, descriptorIndex := 339, attributes := #[] }, { accessFlags := 26, nameIndex := 365, descriptorIndex := 339, attributes := #[] }, { accessFlags := 26, nameIndex := 172, descriptorIndex := 173, attributes := #[] }, { accessFlags := 26, nameIndex := 176, descriptorIndex := 173, attributes := #[] }, { accessFlags := 8, nameIndex := 344, descriptorIndex := 339, attributes := #[] }, { accessFlags := 8, nameIndex := 338, descriptorIndex := 339, attributes := #[] }, { accessFlags := 4120, nameIndex := 245, descriptorIndex := 246, attributes := #[] }])
  fields := #[{ name := "E", type := .double, accessFlags := 25, slot := 0, constantValue := 0 }, { name := "PI", type := .double, accessFlags := 25, slot := 1, constantValue := 0 }, { name := "TAU", type := .double, accessFlags := 25, slot := 2, constantValue := 0 }, { name := "DEGREES_TO_RADIANS", type := .double, accessFlags := 26, slot := 3, constantValue := 0 }, { name := "RADIANS_TO_DEGREES", type := .double, accessFlags := 26, slot := 4, constantValue := 0 }, { name := "negativeZeroFloatBits", type := .long, accessFlags := 26, slot := 5, constantValue := 0 }, { name := "negativeZeroDoubleBits", type := .long, accessFlags := 26, slot := 6, constantValue := 0 }, { name := "twoToTheDoubleScaleUp", type := .double, accessFlags := 8, slot := 7, constantValue := 0 }, { name := "twoToTheDoubleScaleDown", type := .double, accessFlags := 8, slot := 8, constantValue := 0 }, { name := "$assertionsDisabled", type := .boolean, accessFlags := 4120, slot := 9, constantValue := 0 }]
  methods := #[k3m0, k3m1]
  instanceTypes := #[]
  staticTypes := #[.double, .double, .double, .double, .double, .long, .long, .double, .double, .boolean]
  resolved := Array.replicate 460 none
  statics := none }

def pool4 : Array CpInfo := pool [(1, u "java/lang/Cloneable"), (0, .class_ 1), (0, u "java/lang/Object"), (0, .class_ 3)] 3

/-- java/lang/Cloneable -/
def k4 : Class := { plain "java/lang/Cloneable" (some 0) with
  accessFlags := 1537
  interfaces := #[]
  cf := some (fileOf pool4 2 #[] #[] 1537 4 #[] #[])
  fields := #[]
  methods := #[]
  instanceTypes := #[]
  staticTypes := #[]
  resolved := Array.replicate 8 none
  statics := none }

def pool5 : Array CpInfo := pool [(1, u "java/io/Serializable"), (0, .class_ 1), (0, u "java/lang/Object"), (0, .class_ 3)] 3

/-- java/io/Serializable -/
def k5 : Class := { plain "java/io/Serializable" (some 0) with
  accessFlags := 1537
  interfaces := #[]
  cf := some (fileOf pool5 2 #[] #[] 1537 4 #[] #[])
  fields := #[]
  methods := #[]
  instanceTypes := #[]
  staticTypes := #[]
  resolved := Array.replicate 8 none
  statics := none }

/-- the primitive byte -/
def k6 : Class := { plain "byte" none with kind := .primitive 'B', accessFlags := 0x411 }
/-- [B -/
def k7 : Class := { plain "[B" (some 0) with kind := .array 6 .byte, interfaces := #[4, 5], accessFlags := 1041 }

/-- the primitive int -/
def k8 : Class := { plain "int" none with kind := .primitive 'I', accessFlags := 0x411 }
/-- [I -/
def k9 : Class := { plain "[I" (some 0) with kind := .array 8 .int, interfaces := #[4, 5], accessFlags := 1041 }

def heap : Heap := #[]
def classes : Array Class := #[k0, k1, k2, k3, k4, k5, k6, k7, k8, k9]
def interned : List (Array UInt16 × Addr) := []
def slotsUsed : Nat := 0
def theMethod : MethodId := ⟨1, 1⟩
def args0 : Array Value := #[.int 3, .int 5, .long 99]
def aboutOver (below : List Frame) : State where
  vm := { classes := classes, interned := interned.toArray }
  heap := heap
  slotsUsed := slotsUsed
  threads := #[{ frames := .invoking theMethod args0 :: below }]
def below0 : List Frame := [.native { method := ⟨0, 0⟩, args := #[] }]
def about1 : State := aboutOver below0
def p0 : Program := .bare "" "" ""
def e0 : Env := launch0.env 0 0 0
theorem w_frames : about1.frames = Frame.invoking theMethod args0 :: below0 := rfl
set_option maxRecDepth 65536 in
theorem w_args : argsFit about1.vm theMethod args0 = true := by decide +kernel
set_option maxRecDepth 65536 in
theorem w_heap : heapFits about1 = true := by decide +kernel
set_option maxRecDepth 65536 in
theorem w_runnable : about1.curStatus? = some .runnable := by decide +kernel
set_option maxRecDepth 65536 in
theorem w_alone : about1.alone = true := by decide +kernel
set_option maxRecDepth 65536 in
theorem w_named : about1.methodNamed? x = some theMethod := by decide +kernel
set_option maxRecDepth 65536 in
theorem w_hears : about1.hears theMethod below0 = true := by decide +kernel
set_option maxRecDepth 65536 in
theorem w_ripe : about1.ripe theMethod args0 below0 = true := by decide +kernel
theorem w_running : about1.status = .running := rfl
set_option maxRecDepth 65536 in
theorem w_room : about1.hasRoom e0.platform room_1 = true :=
  launch0.hasRoom_least _ room_1 (by decide +kernel) (by decide +kernel) (by decide +kernel) (by decide +kernel) (by decide +kernel) (by decide +kernel)
theorem allAtoms_all (ts : List Jvm.Cond) (a : Array Jvm.Value) (st : Jvm.State) : (allAtoms ts).before a st = ts.all (fun c => c.before a st) := by
  induction ts with
  | nil => rfl
  | cons c t ih =>
    show (Jvm.Cond.and c (allAtoms t)).before a st = _
    rw [Jvm.Cond.before_and, ih, List.all_cons]
def words1 : List Jvm.Cond := Jvm.Cond.code x code maxLocals ret :: tables_1
/-- a 'code' word, met by the world's own term for the bytes: nothing is compared byte by byte -/
theorem code_word {y : MethodName} {bytes : ByteArray} {mx : Nat} {rt : Option FieldType} {a : Array Value} {s : State} {m : MethodId} {meth : Method} {c : Code} (h1 : s.methodNamed? y = some m) (h2 : s.vm.method? m = some meth) (h3 : meth.code = some c) (h4 : c.code = bytes)
    (h5 : (c.maxLocals == mx && c.exceptionTable.isEmpty && decide (c.maxStack ≤ mostOperands) && decide (meth.sig.returnType = rt) && !meth.locks && decide (parseMethodDescriptor y.desc = some meth.sig)) = true) : (Jvm.Cond.code y bytes mx rt).before a s = true := by
  simp only [Bool.and_eq_true, beq_iff_eq, Bool.not_eq_true', decide_eq_true_eq] at h5
  obtain ⟨⟨⟨⟨⟨g1, g2⟩, g3⟩, g4⟩, g5⟩, g6⟩ := h5
  simp [Cond.before, Cond.holds, Cond.value, h1, h2, h3, h4, g1, g2, g3, g4, g5, g6]
def isCode : Jvm.Cond → Bool
  | .code _ _ _ _ => true
  | _ => false
theorem all_split {L : List Jvm.Cond} {P : Jvm.Cond → Bool} (h1 : L.all (fun c => isCode c || P c) = true) (h2 : ∀ c ∈ L.filter isCode, P c = true) : L.all P = true := by
  refine List.all_eq_true.mpr fun c hc => ?_
  have h := List.all_eq_true.mp h1 c hc
  rcases Bool.eq_false_or_eq_true (isCode c) with hi | hi
  · exact h2 c (List.mem_filter.mpr ⟨hc, hi⟩)
  · simpa [hi] using h
set_option maxRecDepth 65536 in
theorem w_c0 : (Jvm.Cond.code x code maxLocals ret).before args0 about1 = true := code_word (m := ⟨1, 1⟩) (meth := k1m1) (c := k1c1) (by decide +kernel) rfl rfl rfl (by decide +kernel)
set_option maxRecDepth 65536 in
theorem w_c1 : (Jvm.Cond.code ({ cls := "com/example/certwright/certwright/x509/RevokedCertificatesIsWholeKeyPinLaw", name := "put", desc := "([BIJ)V" } : Jvm.MethodName) method_3_code (4 : Nat) (Option.none : Option Jvm.ClassFile.FieldType)).before args0 about1 = true := code_word (m := ⟨1, 2⟩) (meth := k1m2) (c := k1c2) (by decide +kernel) rfl rfl rfl (by decide +kernel)
set_option maxRecDepth 65536 in
theorem w_c2 : (Jvm.Cond.code ({ cls := "com/example/certwright/certwright/x509/RevokedCertificates", name := "serialNumberKey", desc := "([BI)J" } : Jvm.MethodName) prog_111_method_9_code (10 : Nat) (Option.some Jvm.ClassFile.FieldType.long)).before args0 about1 = true := code_word (m := ⟨2, 1⟩) (meth := k2m1) (c := k2c1) (by decide +kernel) rfl rfl rfl (by decide +kernel)
set_option maxRecDepth 65536 in
theorem w_c3 : (Jvm.Cond.code ({ cls := "com/example/certwright/certwright/x509/RevokedCertificates", name := "contentStart", desc := "([BI)I" } : Jvm.MethodName) prog_111_method_11_code (3 : Nat) (Option.some Jvm.ClassFile.FieldType.int)).before args0 about1 = true := code_word (m := ⟨2, 3⟩) (meth := k2m3) (c := k2c3) (by decide +kernel) rfl rfl rfl (by decide +kernel)
set_option maxRecDepth 65536 in
theorem w_c4 : (Jvm.Cond.code ({ cls := "com/example/certwright/certwright/x509/RevokedCertificates", name := "contentLength", desc := "([BI)I" } : Jvm.MethodName) prog_111_method_12_code (5 : Nat) (Option.some Jvm.ClassFile.FieldType.int)).before args0 about1 = true := code_word (m := ⟨2, 4⟩) (meth := k2m4) (c := k2c4) (by decide +kernel) rfl rfl rfl (by decide +kernel)
set_option maxRecDepth 65536 in
theorem w_c5 : (Jvm.Cond.code ({ cls := "java/lang/Math", name := "min", desc := "(II)I" } : Jvm.MethodName) jdk_29_method_69_code (2 : Nat) (Option.some Jvm.ClassFile.FieldType.int)).before args0 about1 = true := code_word (m := ⟨3, 1⟩) (meth := k3m1) (c := k3c1) (by decide +kernel) rfl rfl rfl (by decide +kernel)
set_option maxRecDepth 65536 in
theorem w_c6 : (Jvm.Cond.code ({ cls := "com/example/certwright/certwright/x509/RevokedCertificates", name := "isWholeKey", desc := "(J)Z" } : Jvm.MethodName) prog_111_method_10_code (3 : Nat) (Option.some Jvm.ClassFile.FieldType.boolean)).before args0 about1 = true := code_word (m := ⟨2, 2⟩) (meth := k2m2) (c := k2c2) (by decide +kernel) rfl rfl rfl (by decide +kernel)
def codes1 : List Jvm.Cond := [Jvm.Cond.code x code maxLocals ret, Jvm.Cond.code ({ cls := "com/example/certwright/certwright/x509/RevokedCertificatesIsWholeKeyPinLaw", name := "put", desc := "([BIJ)V" } : Jvm.MethodName) method_3_code (4 : Nat) (Option.none : Option Jvm.ClassFile.FieldType), Jvm.Cond.code ({ cls := "com/example/certwright/certwright/x509/RevokedCertificates", name := "serialNumberKey", desc := "([BI)J" } : Jvm.MethodName) prog_111_method_9_code (10 : Nat) (Option.some Jvm.ClassFile.FieldType.long), Jvm.Cond.code ({ cls := "com/example/certwright/certwright/x509/RevokedCertificates", name := "contentStart", desc := "([BI)I" } : Jvm.MethodName) prog_111_method_11_code (3 : Nat) (Option.some Jvm.ClassFile.FieldType.int), Jvm.Cond.code ({ cls := "com/example/certwright/certwright/x509/RevokedCertificates", name := "contentLength", desc := "([BI)I" } : Jvm.MethodName) prog_111_method_12_code (5 : Nat) (Option.some Jvm.ClassFile.FieldType.int), Jvm.Cond.code ({ cls := "java/lang/Math", name := "min", desc := "(II)I" } : Jvm.MethodName) jdk_29_method_69_code (2 : Nat) (Option.some Jvm.ClassFile.FieldType.int), Jvm.Cond.code ({ cls := "com/example/certwright/certwright/x509/RevokedCertificates", name := "isWholeKey", desc := "(J)Z" } : Jvm.MethodName) prog_111_method_10_code (3 : Nat) (Option.some Jvm.ClassFile.FieldType.boolean)]
set_option maxRecDepth 65536 in
theorem codes_eq : words1.filter isCode = codes1 := rfl
theorem w_codes : ∀ c ∈ words1.filter isCode, c.before args0 about1 = true := by
  rw [codes_eq]
  intro c hc
  simp only [codes1, List.mem_cons, List.not_mem_nil, or_false] at hc
  rcases hc with rfl | rfl | rfl | rfl | rfl | rfl | rfl
  · exact w_c0
  · exact w_c1
  · exact w_c2
  · exact w_c3
  · exact w_c4
  · exact w_c5
  · exact w_c6
set_option maxRecDepth 65536 in
theorem w_t1 : words1.all (fun c => isCode c || c.before args0 about1) = true := by decide +kernel
theorem w_tables : (allAtoms (Jvm.Cond.code x code maxLocals ret :: tables_1)).before args0 about1 = true := by
  rw [allAtoms_all]
  show words1.all (fun c => c.before args0 about1) = true
  refine all_split ?_ w_codes
  rw [w_t1]
set_option maxRecDepth 65536 in
theorem w_case : (Jvm.Cond.and given_1 narrow_1).before args0 about1 = true := by decide +kernel
theorem w_applies : (headSpec (Jvm.Cond.code x code maxLocals ret :: tables_1) room_1).applies x e0.platform about1 = true :=
  (Spec.applies_iff w_frames).mpr ⟨w_running, w_runnable, w_alone, w_named, w_hears, w_ripe, w_room, w_tables⟩
theorem atStart : AtStart classFile x code maxLocals ret World_1 tables_1 room_1 Calls_1 rest_1 Pre_1 launch0 p0 e0 about1 theMethod args0 below0 :=
  ⟨lists_1, trivial, launch0.admits_env _ _ _, launch0.least_env, fairChoices_fair.cas, fairChoices_fair.clock, w_frames, w_args, w_heap, w_applies, trivial, trivial, w_case⟩
end start1
theorem witness_1 : WitnessClaimed_1 := ⟨start1.p0, start1.e0, start1.about1, start1.theMethod, start1.args0, start1.below0, start1.atStart⟩
end Jvm.Pilot.@@N@@
