import JvmDerived
import JvmDerived.Pilot.@@N@@Statement
import JvmDerived.Pilot.@@N@@Code
set_option linter.unusedVariables false
set_option linter.unusedSimpArgs false
namespace Jvm.OwnRun
open Sem ClassFile Op Lib Jvm.Stand Jvm.Free Jvm.LawKit Jvm.RoadKit
/-- from T with the top frame g the method's run ends as Φ says -/
def Run (tb : Tables) (e : Env) (below : List Frame) (Φ : Outcome → State → Prop) (T : State) (g : JFrame) : Prop := ∃ s₂ o, Steps tb e below (T.setTop g) s₂ ∧ s₂.status = .running ∧ Ended s₂ below o ∧ Φ o s₂
/-- what a contract asks of the end -/
def FinR (s : State) (K N : Nat) (Q : Option Value → Heap → List Loc → Prop) : Outcome → State → Prop := fun o u => ∃ v L, o = .returned v ∧ Q v u.heap L ∧ FrameEnd s o u L K N
/-- a contract's word on its end, kept in one piece -/
abbrev Say (Q : Option Value → Heap → List Loc → Prop) (v : Option Value) (h : Heap) (L : List Loc) : Prop := Q v h L
section Steps
variable {p : Program} {l : Launch} {e : Env} {R : Room} {s : State} {m : MethodId} {args : Array Value} {below : List Frame} {meth : Method} {c : Code} {T : State} {locs : List Loc} {cells slots : Nat} {Φ : Outcome → State → Prop} {pc pc' : Nat} {Ls : Array Slot} {rest : List Value}
theorem Run.back {tb : Tables} {T' : State} {g g' : JFrame} (h : ∀ t, Steps tb e below (T'.setTop g') t → Steps tb e below (T.setTop g) t) (k : Run tb e below Φ T' g') : Run tb e below Φ T g := by
  obtain ⟨s₂, o, h1, h2⟩ := k
  exact ⟨s₂, o, h _ h1, h2⟩
theorem Run.fwd {tb : Tables} {T' : State} {g g' : JFrame} (h : Steps tb e below (T.setTop g) (T'.setTop g')) (k : Run tb e below Φ T' g') : Run tb e below Φ T g := k.back fun _ kt => h.trans kt
theorem Run.iload (X : Stand p l e R s m args below meth c T locs cells slots) (hx : p.tables.exec = Jvm.exec) {k : Nat} {v : Int32} (hd : decode c.code pc = .ok (.iload k, 2)) (hl : Ls[k]? = some (.val (.int v))) (hp : pc + 2 = pc') (k : Run p.tables e below Φ T (mkF m pc' Ls (.int v :: rest))) : Run p.tables e below Φ T (mkF m pc Ls rest) := by
  subst hp
  exact k.back fun _ kt => XS.iload X.here hx rfl hd hl kt
theorem Run.iloadN (X : Stand p l e R s m args below meth c T locs cells slots) (hx : p.tables.exec = Jvm.exec) {k : Fin 4} {v : Int32} (hd : decode c.code pc = .ok (.iload_n k, 1)) (hl : Ls[k.val]? = some (.val (.int v))) (hp : pc + 1 = pc') (k : Run p.tables e below Φ T (mkF m pc' Ls (.int v :: rest))) : Run p.tables e below Φ T (mkF m pc Ls rest) := by
  subst hp
  exact k.back fun _ kt => XS.iloadN X.here hx rfl hd hl kt
theorem Run.istore (X : Stand p l e R s m args below meth c T locs cells slots) (hx : p.tables.exec = Jvm.exec) {k : Nat} {v : Int32} {l' : Array Slot} (hd : decode c.code pc = .ok (.istore k, 2)) (hl : storeLocals Ls k (.int v) = some l') (hp : pc + 2 = pc') (k : Run p.tables e below Φ T (mkF m pc' l' rest)) : Run p.tables e below Φ T (mkF m pc Ls (.int v :: rest)) := by
  subst hp
  exact k.back fun _ kt => XS.istore X.here hx rfl hd rfl hl kt
theorem Run.istoreN (X : Stand p l e R s m args below meth c T locs cells slots) (hx : p.tables.exec = Jvm.exec) {k : Fin 4} {v : Int32} {l' : Array Slot} (hd : decode c.code pc = .ok (.istore_n k, 1)) (hl : storeLocals Ls k.val (.int v) = some l') (hp : pc + 1 = pc') (k : Run p.tables e below Φ T (mkF m pc' l' rest)) : Run p.tables e below Φ T (mkF m pc Ls (.int v :: rest)) := by
  subst hp
  exact k.back fun _ kt => XS.istoreN X.here hx rfl hd rfl hl kt
theorem Run.lload (X : Stand p l e R s m args below meth c T locs cells slots) (hx : p.tables.exec = Jvm.exec) {k : Nat} {v : Int64} (hd : decode c.code pc = .ok (.lload k, 2)) (hl : Ls[k]? = some (.val (.long v))) (hp : pc + 2 = pc') (k : Run p.tables e below Φ T (mkF m pc' Ls (.long v :: rest))) : Run p.tables e below Φ T (mkF m pc Ls rest) := by
  subst hp
  exact k.back fun _ kt => XS.lload X.here hx rfl hd hl kt
theorem Run.lloadN (X : Stand p l e R s m args below meth c T locs cells slots) (hx : p.tables.exec = Jvm.exec) {k : Fin 4} {v : Int64} (hd : decode c.code pc = .ok (.lload_n k, 1)) (hl : Ls[k.val]? = some (.val (.long v))) (hp : pc + 1 = pc') (k : Run p.tables e below Φ T (mkF m pc' Ls (.long v :: rest))) : Run p.tables e below Φ T (mkF m pc Ls rest) := by
  subst hp
  exact k.back fun _ kt => XS.lloadN X.here hx rfl hd hl kt
theorem Run.lstore (X : Stand p l e R s m args below meth c T locs cells slots) (hx : p.tables.exec = Jvm.exec) {k : Nat} {v : Int64} {l' : Array Slot} (hd : decode c.code pc = .ok (.lstore k, 2)) (hl : storeLocals Ls k (.long v) = some l') (hp : pc + 2 = pc') (k : Run p.tables e below Φ T (mkF m pc' l' rest)) : Run p.tables e below Φ T (mkF m pc Ls (.long v :: rest)) := by
  subst hp
  exact k.back fun _ kt => XS.lstore X.here hx rfl hd rfl hl kt
theorem Run.lstoreN (X : Stand p l e R s m args below meth c T locs cells slots) (hx : p.tables.exec = Jvm.exec) {k : Fin 4} {v : Int64} {l' : Array Slot} (hd : decode c.code pc = .ok (.lstore_n k, 1)) (hl : storeLocals Ls k.val (.long v) = some l') (hp : pc + 1 = pc') (k : Run p.tables e below Φ T (mkF m pc' l' rest)) : Run p.tables e below Φ T (mkF m pc Ls (.long v :: rest)) := by
  subst hp
  exact k.back fun _ kt => XS.lstoreN X.here hx rfl hd rfl hl kt
theorem Run.aload (X : Stand p l e R s m args below meth c T locs cells slots) (hx : p.tables.exec = Jvm.exec) {k : Nat} {v : Addr} (hd : decode c.code pc = .ok (.aload k, 2)) (hl : Ls[k]? = some (.val (.ref v))) (hp : pc + 2 = pc') (k : Run p.tables e below Φ T (mkF m pc' Ls (.ref v :: rest))) : Run p.tables e below Φ T (mkF m pc Ls rest) := by
  subst hp
  exact k.back fun _ kt => XS.aload X.here hx rfl hd hl rfl kt
theorem Run.aloadN (X : Stand p l e R s m args below meth c T locs cells slots) (hx : p.tables.exec = Jvm.exec) {k : Fin 4} {v : Addr} (hd : decode c.code pc = .ok (.aload_n k, 1)) (hl : Ls[k.val]? = some (.val (.ref v))) (hp : pc + 1 = pc') (k : Run p.tables e below Φ T (mkF m pc' Ls (.ref v :: rest))) : Run p.tables e below Φ T (mkF m pc Ls rest) := by
  subst hp
  exact k.back fun _ kt => XS.aloadN X.here hx rfl hd hl rfl kt
theorem Run.astore (X : Stand p l e R s m args below meth c T locs cells slots) (hx : p.tables.exec = Jvm.exec) {k : Nat} {v : Addr} {l' : Array Slot} (hd : decode c.code pc = .ok (.astore k, 2)) (hl : storeLocals Ls k (.ref v) = some l') (hp : pc + 2 = pc') (k : Run p.tables e below Φ T (mkF m pc' l' rest)) : Run p.tables e below Φ T (mkF m pc Ls (.ref v :: rest)) := by
  subst hp
  exact k.back fun _ kt => XS.astore X.here hx rfl hd rfl rfl hl kt
theorem Run.astoreN (X : Stand p l e R s m args below meth c T locs cells slots) (hx : p.tables.exec = Jvm.exec) {k : Fin 4} {v : Addr} {l' : Array Slot} (hd : decode c.code pc = .ok (.astore_n k, 1)) (hl : storeLocals Ls k.val (.ref v) = some l') (hp : pc + 1 = pc') (k : Run p.tables e below Φ T (mkF m pc' l' rest)) : Run p.tables e below Φ T (mkF m pc Ls (.ref v :: rest)) := by
  subst hp
  exact k.back fun _ kt => XS.astoreN X.here hx rfl hd rfl rfl hl kt
theorem Run.iconst (X : Stand p l e R s m args below meth c T locs cells slots) (hx : p.tables.exec = Jvm.exec) {i : Int} {v : Int32} (hd : decode c.code pc = .ok (.iconst i, 1)) (hv : Int32.ofInt i = v) (hp : pc + 1 = pc') (k : Run p.tables e below Φ T (mkF m pc' Ls (.int v :: rest))) : Run p.tables e below Φ T (mkF m pc Ls rest) := by
  subst hp
  exact k.back fun _ kt => XS.iconst X.here hx rfl hd (by rw [hv]; exact kt)
theorem Run.bipush (X : Stand p l e R s m args below meth c T locs cells slots) (hx : p.tables.exec = Jvm.exec) {i : Int} {v : Int32} (hd : decode c.code pc = .ok (.bipush i, 2)) (hv : (Int8.ofInt i).toInt32 = v) (hp : pc + 2 = pc') (k : Run p.tables e below Φ T (mkF m pc' Ls (.int v :: rest))) : Run p.tables e below Φ T (mkF m pc Ls rest) := by
  subst hp
  exact k.back fun _ kt => XS.bipush X.here hx rfl hd (by rw [hv]; exact kt)
theorem Run.sipush (X : Stand p l e R s m args below meth c T locs cells slots) (hx : p.tables.exec = Jvm.exec) {i : Int} {v : Int32} (hd : decode c.code pc = .ok (.sipush i, 3)) (hv : (Int16.ofInt i).toInt32 = v) (hp : pc + 3 = pc') (k : Run p.tables e below Φ T (mkF m pc' Ls (.int v :: rest))) : Run p.tables e below Φ T (mkF m pc Ls rest) := by
  subst hp
  exact k.back fun _ kt => XS.sipush X.here hx rfl hd (by rw [hv]; exact kt)
theorem Run.lconst (X : Stand p l e R s m args below meth c T locs cells slots) (hx : p.tables.exec = Jvm.exec) {i : Fin 2} {v : Int64} (hd : decode c.code pc = .ok (.lconst i, 1)) (hv : Int64.ofNat i = v) (hp : pc + 1 = pc') (k : Run p.tables e below Φ T (mkF m pc' Ls (.long v :: rest))) : Run p.tables e below Φ T (mkF m pc Ls rest) := by
  subst hp
  exact k.back fun _ kt => XS.lconst X.here hx rfl hd (by first | (rw [hv]; exact kt) | (rw [← hv] at kt; exact kt))
theorem Run.aconstNull (X : Stand p l e R s m args below meth c T locs cells slots) (hx : p.tables.exec = Jvm.exec) (hd : decode c.code pc = .ok (.aconst_null, 1)) (hp : pc + 1 = pc') (k : Run p.tables e below Φ T (mkF m pc' Ls (.null :: rest))) : Run p.tables e below Φ T (mkF m pc Ls rest) := by
  subst hp
  exact k.back fun _ kt => XS.aconstNull X.here hx rfl hd kt
theorem Run.iadd (X : Stand p l e R s m args below meth c T locs cells slots) (hx : p.tables.exec = Jvm.exec) {x y : Int32} (hd : decode c.code pc = .ok (.iadd, 1)) (hp : pc + 1 = pc') (k : Run p.tables e below Φ T (mkF m pc' Ls (.int (x + y) :: rest))) : Run p.tables e below Φ T (mkF m pc Ls (.int y :: .int x :: rest)) := by
  subst hp
  exact k.back fun _ kt => XS.iadd X.here hx rfl hd rfl kt
theorem Run.isub (X : Stand p l e R s m args below meth c T locs cells slots) (hx : p.tables.exec = Jvm.exec) {x y : Int32} (hd : decode c.code pc = .ok (.isub, 1)) (hp : pc + 1 = pc') (k : Run p.tables e below Φ T (mkF m pc' Ls (.int (x - y) :: rest))) : Run p.tables e below Φ T (mkF m pc Ls (.int y :: .int x :: rest)) := by
  subst hp
  exact k.back fun _ kt => XS.isub X.here hx rfl hd rfl kt
theorem Run.imul (X : Stand p l e R s m args below meth c T locs cells slots) (hx : p.tables.exec = Jvm.exec) {x y : Int32} (hd : decode c.code pc = .ok (.imul, 1)) (hp : pc + 1 = pc') (k : Run p.tables e below Φ T (mkF m pc' Ls (.int (x * y) :: rest))) : Run p.tables e below Φ T (mkF m pc Ls (.int y :: .int x :: rest)) := by
  subst hp
  exact k.back fun _ kt => XS.imul X.here hx rfl hd rfl kt
theorem Run.iand (X : Stand p l e R s m args below meth c T locs cells slots) (hx : p.tables.exec = Jvm.exec) {x y : Int32} (hd : decode c.code pc = .ok (.iand, 1)) (hp : pc + 1 = pc') (k : Run p.tables e below Φ T (mkF m pc' Ls (.int (x &&& y) :: rest))) : Run p.tables e below Φ T (mkF m pc Ls (.int y :: .int x :: rest)) := by
  subst hp
  exact k.back fun _ kt => XS.iand X.here hx rfl hd rfl kt
theorem Run.ior (X : Stand p l e R s m args below meth c T locs cells slots) (hx : p.tables.exec = Jvm.exec) {x y : Int32} (hd : decode c.code pc = .ok (.ior, 1)) (hp : pc + 1 = pc') (k : Run p.tables e below Φ T (mkF m pc' Ls (.int (x ||| y) :: rest))) : Run p.tables e below Φ T (mkF m pc Ls (.int y :: .int x :: rest)) := by
  subst hp
  exact k.back fun _ kt => XS.ior X.here hx rfl hd rfl kt
theorem Run.ixor (X : Stand p l e R s m args below meth c T locs cells slots) (hx : p.tables.exec = Jvm.exec) {x y : Int32} (hd : decode c.code pc = .ok (.ixor, 1)) (hp : pc + 1 = pc') (k : Run p.tables e below Φ T (mkF m pc' Ls (.int (x ^^^ y) :: rest))) : Run p.tables e below Φ T (mkF m pc Ls (.int y :: .int x :: rest)) := by
  subst hp
  exact k.back fun _ kt => XS.ixor X.here hx rfl hd rfl kt
theorem Run.idiv (X : Stand p l e R s m args below meth c T locs cells slots) (hx : p.tables.exec = Jvm.exec) {x y : Int32} (hd : decode c.code pc = .ok (.idiv, 1)) (hy : y ≠ 0) (hp : pc + 1 = pc') (k : Run p.tables e below Φ T (mkF m pc' Ls (.int (x / y) :: rest))) : Run p.tables e below Φ T (mkF m pc Ls (.int y :: .int x :: rest)) := by
  subst hp
  exact k.back fun _ kt => XS.idiv X.here hx rfl hd rfl hy kt
theorem Run.ladd (X : Stand p l e R s m args below meth c T locs cells slots) (hx : p.tables.exec = Jvm.exec) {x y : Int64} (hd : decode c.code pc = .ok (.ladd, 1)) (hp : pc + 1 = pc') (k : Run p.tables e below Φ T (mkF m pc' Ls (.long (x + y) :: rest))) : Run p.tables e below Φ T (mkF m pc Ls (.long y :: .long x :: rest)) := by
  subst hp
  exact k.back fun _ kt => XS.ladd X.here hx rfl hd rfl kt
theorem Run.lsub (X : Stand p l e R s m args below meth c T locs cells slots) (hx : p.tables.exec = Jvm.exec) {x y : Int64} (hd : decode c.code pc = .ok (.lsub, 1)) (hp : pc + 1 = pc') (k : Run p.tables e below Φ T (mkF m pc' Ls (.long (x - y) :: rest))) : Run p.tables e below Φ T (mkF m pc Ls (.long y :: .long x :: rest)) := by
  subst hp
  exact k.back fun _ kt => XS.lsub X.here hx rfl hd rfl kt
theorem Run.lmul (X : Stand p l e R s m args below meth c T locs cells slots) (hx : p.tables.exec = Jvm.exec) {x y : Int64} (hd : decode c.code pc = .ok (.lmul, 1)) (hp : pc + 1 = pc') (k : Run p.tables e below Φ T (mkF m pc' Ls (.long (x * y) :: rest))) : Run p.tables e below Φ T (mkF m pc Ls (.long y :: .long x :: rest)) := by
  subst hp
  exact k.back fun _ kt => XS.lmul X.here hx rfl hd rfl kt
theorem Run.land (X : Stand p l e R s m args below meth c T locs cells slots) (hx : p.tables.exec = Jvm.exec) {x y : Int64} (hd : decode c.code pc = .ok (.land, 1)) (hp : pc + 1 = pc') (k : Run p.tables e below Φ T (mkF m pc' Ls (.long (x &&& y) :: rest))) : Run p.tables e below Φ T (mkF m pc Ls (.long y :: .long x :: rest)) := by
  subst hp
  exact k.back fun _ kt => XS.land X.here hx rfl hd rfl kt
theorem Run.lor (X : Stand p l e R s m args below meth c T locs cells slots) (hx : p.tables.exec = Jvm.exec) {x y : Int64} (hd : decode c.code pc = .ok (.lor, 1)) (hp : pc + 1 = pc') (k : Run p.tables e below Φ T (mkF m pc' Ls (.long (x ||| y) :: rest))) : Run p.tables e below Φ T (mkF m pc Ls (.long y :: .long x :: rest)) := by
  subst hp
  exact k.back fun _ kt => XS.lor X.here hx rfl hd rfl kt
theorem Run.lxor (X : Stand p l e R s m args below meth c T locs cells slots) (hx : p.tables.exec = Jvm.exec) {x y : Int64} (hd : decode c.code pc = .ok (.lxor, 1)) (hp : pc + 1 = pc') (k : Run p.tables e below Φ T (mkF m pc' Ls (.long (x ^^^ y) :: rest))) : Run p.tables e below Φ T (mkF m pc Ls (.long y :: .long x :: rest)) := by
  subst hp
  exact k.back fun _ kt => XS.lxor X.here hx rfl hd rfl kt
theorem Run.ldiv (X : Stand p l e R s m args below meth c T locs cells slots) (hx : p.tables.exec = Jvm.exec) {x y : Int64} (hd : decode c.code pc = .ok (.ldiv, 1)) (hy : y ≠ 0) (hp : pc + 1 = pc') (k : Run p.tables e below Φ T (mkF m pc' Ls (.long (x / y) :: rest))) : Run p.tables e below Φ T (mkF m pc Ls (.long y :: .long x :: rest)) := by
  subst hp
  exact k.back fun _ kt => XS.ldiv X.here hx rfl hd rfl hy kt
theorem Run.irem (X : Stand p l e R s m args below meth c T locs cells slots) (hx : p.tables.exec = Jvm.exec) {x y : Int32} (hd : decode c.code pc = .ok (.irem, 1)) (hy : y ≠ 0) (hp : pc + 1 = pc') (k : Run p.tables e below Φ T (mkF m pc' Ls (.int (x % y) :: rest))) : Run p.tables e below Φ T (mkF m pc Ls (.int y :: .int x :: rest)) := by
  subst hp
  exact k.back fun _ kt => iremM X hx rfl hd rfl hy kt
theorem Run.ishl (X : Stand p l e R s m args below meth c T locs cells slots) (hx : p.tables.exec = Jvm.exec) {x : Int32} {y : Int32} (hd : decode c.code pc = .ok (.ishl, 1)) (hp : pc + 1 = pc') (k : Run p.tables e below Φ T (mkF m pc' Ls (.int (x <<< (y &&& 31)) :: rest))) : Run p.tables e below Φ T (mkF m pc Ls (.int y :: .int x :: rest)) := by
  subst hp
  exact k.back fun _ kt => XS.ishl X.here hx rfl hd rfl kt
theorem Run.ishr (X : Stand p l e R s m args below meth c T locs cells slots) (hx : p.tables.exec = Jvm.exec) {x : Int32} {y : Int32} (hd : decode c.code pc = .ok (.ishr, 1)) (hp : pc + 1 = pc') (k : Run p.tables e below Φ T (mkF m pc' Ls (.int (x >>> (y &&& 31)) :: rest))) : Run p.tables e below Φ T (mkF m pc Ls (.int y :: .int x :: rest)) := by
  subst hp
  exact k.back fun _ kt => XS.ishr X.here hx rfl hd rfl kt
theorem Run.iushr (X : Stand p l e R s m args below meth c T locs cells slots) (hx : p.tables.exec = Jvm.exec) {x : Int32} {y : Int32} (hd : decode c.code pc = .ok (.iushr, 1)) (hp : pc + 1 = pc') (k : Run p.tables e below Φ T (mkF m pc' Ls (.int ((x.toUInt32 >>> (y &&& 31).toUInt32).toInt32) :: rest))) : Run p.tables e below Φ T (mkF m pc Ls (.int y :: .int x :: rest)) := by
  subst hp
  exact k.back fun _ kt => XS.iushr X.here hx rfl hd rfl kt
theorem Run.lshl (X : Stand p l e R s m args below meth c T locs cells slots) (hx : p.tables.exec = Jvm.exec) {x : Int64} {y : Int32} (hd : decode c.code pc = .ok (.lshl, 1)) (hp : pc + 1 = pc') (k : Run p.tables e below Φ T (mkF m pc' Ls (.long (x <<< (y &&& 0x3f).toInt64) :: rest))) : Run p.tables e below Φ T (mkF m pc Ls (.int y :: .long x :: rest)) := by
  subst hp
  exact k.back fun _ kt => XS.lshl X.here hx rfl hd rfl kt
theorem Run.lshr (X : Stand p l e R s m args below meth c T locs cells slots) (hx : p.tables.exec = Jvm.exec) {x : Int64} {y : Int32} (hd : decode c.code pc = .ok (.lshr, 1)) (hp : pc + 1 = pc') (k : Run p.tables e below Φ T (mkF m pc' Ls (.long (x >>> (y &&& 0x3f).toInt64) :: rest))) : Run p.tables e below Φ T (mkF m pc Ls (.int y :: .long x :: rest)) := by
  subst hp
  exact k.back fun _ kt => XS.lshr X.here hx rfl hd rfl kt
theorem Run.lushr (X : Stand p l e R s m args below meth c T locs cells slots) (hx : p.tables.exec = Jvm.exec) {x : Int64} {y : Int32} (hd : decode c.code pc = .ok (.lushr, 1)) (hp : pc + 1 = pc') (k : Run p.tables e below Φ T (mkF m pc' Ls (.long ((x.toUInt64 >>> (y &&& 0x3f).toInt64.toUInt64).toInt64) :: rest))) : Run p.tables e below Φ T (mkF m pc Ls (.int y :: .long x :: rest)) := by
  subst hp
  exact k.back fun _ kt => XS.lushr X.here hx rfl hd rfl kt
theorem Run.i2l (X : Stand p l e R s m args below meth c T locs cells slots) (hx : p.tables.exec = Jvm.exec) {x : Int32} (hd : decode c.code pc = .ok (.i2l, 1)) (hp : pc + 1 = pc') (k : Run p.tables e below Φ T (mkF m pc' Ls (.long (x.toInt64) :: rest))) : Run p.tables e below Φ T (mkF m pc Ls (.int x :: rest)) := by
  subst hp
  exact k.back fun _ kt => XS.i2l X.here hx rfl hd rfl kt
theorem Run.l2i (X : Stand p l e R s m args below meth c T locs cells slots) (hx : p.tables.exec = Jvm.exec) {x : Int64} (hd : decode c.code pc = .ok (.l2i, 1)) (hp : pc + 1 = pc') (k : Run p.tables e below Φ T (mkF m pc' Ls (.int (x.toInt32) :: rest))) : Run p.tables e below Φ T (mkF m pc Ls (.long x :: rest)) := by
  subst hp
  exact k.back fun _ kt => XS.l2i X.here hx rfl hd rfl kt
theorem Run.i2b (X : Stand p l e R s m args below meth c T locs cells slots) (hx : p.tables.exec = Jvm.exec) {x : Int32} (hd : decode c.code pc = .ok (.i2b, 1)) (hp : pc + 1 = pc') (k : Run p.tables e below Φ T (mkF m pc' Ls (.int (x.toInt8.toInt32) :: rest))) : Run p.tables e below Φ T (mkF m pc Ls (.int x :: rest)) := by
  subst hp
  exact k.back fun _ kt => XS.i2b X.here hx rfl hd rfl kt
theorem Run.i2s (X : Stand p l e R s m args below meth c T locs cells slots) (hx : p.tables.exec = Jvm.exec) {x : Int32} (hd : decode c.code pc = .ok (.i2s, 1)) (hp : pc + 1 = pc') (k : Run p.tables e below Φ T (mkF m pc' Ls (.int (x.toInt16.toInt32) :: rest))) : Run p.tables e below Φ T (mkF m pc Ls (.int x :: rest)) := by
  subst hp
  exact k.back fun _ kt => XS.i2s X.here hx rfl hd rfl kt
theorem Run.i2c (X : Stand p l e R s m args below meth c T locs cells slots) (hx : p.tables.exec = Jvm.exec) {x : Int32} (hd : decode c.code pc = .ok (.i2c, 1)) (hp : pc + 1 = pc') (k : Run p.tables e below Φ T (mkF m pc' Ls (.int (x.toUInt32.toUInt16.toUInt32.toInt32) :: rest))) : Run p.tables e below Φ T (mkF m pc Ls (.int x :: rest)) := by
  subst hp
  exact k.back fun _ kt => XS.i2c X.here hx rfl hd rfl kt
theorem Run.ineg (X : Stand p l e R s m args below meth c T locs cells slots) (hx : p.tables.exec = Jvm.exec) {x : Int32} (hd : decode c.code pc = .ok (.ineg, 1)) (hp : pc + 1 = pc') (k : Run p.tables e below Φ T (mkF m pc' Ls (.int (-x) :: rest))) : Run p.tables e below Φ T (mkF m pc Ls (.int x :: rest)) := by
  subst hp
  exact k.back fun _ kt => XS.ineg X.here hx rfl hd rfl kt
theorem Run.lcmp (X : Stand p l e R s m args below meth c T locs cells slots) (hx : p.tables.exec = Jvm.exec) {x y : Int64} (hd : decode c.code pc = .ok (.lcmp, 1)) (hp : pc + 1 = pc') (k : Run p.tables e below Φ T (mkF m pc' Ls (.int (lcmpW x y) :: rest))) : Run p.tables e below Φ T (mkF m pc Ls (.long y :: .long x :: rest)) := by
  subst hp
  exact k.back fun _ kt => XS.lcmp X.here hx rfl hd rfl kt
theorem Run.dup (X : Stand p l e R s m args below meth c T locs cells slots) (hx : p.tables.exec = Jvm.exec) {x : Value} (hd : decode c.code pc = .ok (.dup, 1)) (hc : x.category = 1) (hp : pc + 1 = pc') (k : Run p.tables e below Φ T (mkF m pc' Ls (x :: x :: rest))) : Run p.tables e below Φ T (mkF m pc Ls (x :: rest)) := by
  subst hp
  exact k.back fun _ kt => XS.dup X.here hx rfl hd rfl hc kt
theorem Run.dupX1 (X : Stand p l e R s m args below meth c T locs cells slots) (hx : p.tables.exec = Jvm.exec) {x y : Value} (hd : decode c.code pc = .ok (.dup_x1, 1)) (hc : x.category = 1) (hc2 : y.category = 1) (hp : pc + 1 = pc') (k : Run p.tables e below Φ T (mkF m pc' Ls (x :: y :: x :: rest))) : Run p.tables e below Φ T (mkF m pc Ls (x :: y :: rest)) := by
  subst hp
  exact k.back fun _ kt => XS.dupX1 X.here hx rfl hd rfl hc hc2 kt
theorem Run.pop (X : Stand p l e R s m args below meth c T locs cells slots) (hx : p.tables.exec = Jvm.exec) {x : Value} (hd : decode c.code pc = .ok (.pop, 1)) (hc : x.category = 1) (hp : pc + 1 = pc') (k : Run p.tables e below Φ T (mkF m pc' Ls rest)) : Run p.tables e below Φ T (mkF m pc Ls (x :: rest)) := by
  subst hp
  exact k.back fun _ kt => XS.pop X.here hx rfl hd rfl hc kt
theorem Run.iinc (X : Stand p l e R s m args below meth c T locs cells slots) (hx : p.tables.exec = Jvm.exec) {n : Nat} {i : Int} {v w : Int32} {l' : Array Slot} (hd : decode c.code pc = .ok (.iinc n i, 3)) (hl : Ls[n]? = some (.val (.int v))) (hv : Int32.ofInt i = w) (hl' : storeLocals Ls n (.int (v + w)) = some l') (hp : pc + 3 = pc') (k : Run p.tables e below Φ T (mkF m pc' l' rest)) : Run p.tables e below Φ T (mkF m pc Ls rest) := by
  subst hp
  exact k.back fun _ kt => XS.iinc X.here hx rfl hd hl (by rw [hv]; exact hl') kt
theorem Run.goto (X : Stand p l e R s m args below meth c T locs cells slots) (hx : p.tables.exec = Jvm.exec) {o : Int} (hd : decode c.code pc = .ok (.goto o, 3)) (ho : 0 ≤ (pc : Int) + o) (hp : ((pc : Int) + o).toNat = pc') (k : Run p.tables e below Φ T (mkF m pc' Ls rest)) : Run p.tables e below Φ T (mkF m pc Ls rest) := k.back fun _ kt => XS.goto X.here hx rfl rfl hd ho hp kt
theorem Run.ifYes (X : Stand p l e R s m args below meth c T locs cells slots) (hx : p.tables.exec = Jvm.exec) {cd : ClassFile.Cond} {o : Int} {x : Int32} (hd : decode c.code pc = .ok (.ifCond cd o, 3)) (hc : ifCond.holds cd x = true) (ho : 0 ≤ (pc : Int) + o) (hp : ((pc : Int) + o).toNat = pc') (k : Run p.tables e below Φ T (mkF m pc' Ls rest)) : Run p.tables e below Φ T (mkF m pc Ls (.int x :: rest)) := k.back fun _ kt => XS.ifYes X.here hx rfl rfl hd rfl hc ho hp kt
theorem Run.ifNo (X : Stand p l e R s m args below meth c T locs cells slots) (hx : p.tables.exec = Jvm.exec) {cd : ClassFile.Cond} {o : Int} {x : Int32} (hd : decode c.code pc = .ok (.ifCond cd o, 3)) (hc : ifCond.holds cd x = false) (hp : pc + 3 = pc') (k : Run p.tables e below Φ T (mkF m pc' Ls rest)) : Run p.tables e below Φ T (mkF m pc Ls (.int x :: rest)) := by
  subst hp
  exact k.back fun _ kt => XS.ifNo X.here hx rfl hd rfl hc kt
theorem Run.icmpYes (X : Stand p l e R s m args below meth c T locs cells slots) (hx : p.tables.exec = Jvm.exec) {cd : ClassFile.Cond} {o : Int} {x y : Int32} (hd : decode c.code pc = .ok (.if_icmp cd o, 3)) (hc : if_icmp.holds cd x y = true) (ho : 0 ≤ (pc : Int) + o) (hp : ((pc : Int) + o).toNat = pc') (k : Run p.tables e below Φ T (mkF m pc' Ls rest)) : Run p.tables e below Φ T (mkF m pc Ls (.int y :: .int x :: rest)) := k.back fun _ kt => XS.icmpYes X.here hx rfl rfl hd rfl hc ho hp kt
theorem Run.icmpNo (X : Stand p l e R s m args below meth c T locs cells slots) (hx : p.tables.exec = Jvm.exec) {cd : ClassFile.Cond} {o : Int} {x y : Int32} (hd : decode c.code pc = .ok (.if_icmp cd o, 3)) (hc : if_icmp.holds cd x y = false) (hp : pc + 3 = pc') (k : Run p.tables e below Φ T (mkF m pc' Ls rest)) : Run p.tables e below Φ T (mkF m pc Ls (.int y :: .int x :: rest)) := by
  subst hp
  exact k.back fun _ kt => XS.icmpNo X.here hx rfl hd rfl hc kt
theorem Run.acmpYes (X : Stand p l e R s m args below meth c T locs cells slots) (hx : p.tables.exec = Jvm.exec) {cd : ACond} {o : Int} {a b : Addr} (hd : decode c.code pc = .ok (.if_acmp cd o, 3)) (hc : if_acmp.holds cd (some a) (some b) = true) (ho : 0 ≤ (pc : Int) + o) (hp : ((pc : Int) + o).toNat = pc') (k : Run p.tables e below Φ T (mkF m pc' Ls rest)) : Run p.tables e below Φ T (mkF m pc Ls (.ref b :: .ref a :: rest)) := k.back fun _ kt => XS.acmpYes X.here hx rfl rfl hd rfl hc ho hp kt
theorem Run.acmpNo (X : Stand p l e R s m args below meth c T locs cells slots) (hx : p.tables.exec = Jvm.exec) {cd : ACond} {o : Int} {a b : Addr} (hd : decode c.code pc = .ok (.if_acmp cd o, 3)) (hc : if_acmp.holds cd (some a) (some b) = false) (hp : pc + 3 = pc') (k : Run p.tables e below Φ T (mkF m pc' Ls rest)) : Run p.tables e below Φ T (mkF m pc Ls (.ref b :: .ref a :: rest)) := by
  subst hp
  exact k.back fun _ kt => XS.acmpNo X.here hx rfl hd rfl hc kt
theorem own_acmpEqT {a b : Addr} (h : a = b) : if_acmp.holds .eq (some a) (some b) = true := by subst h; simp [if_acmp.holds]
theorem own_acmpEqF {a b : Addr} (h : ¬ a = b) : if_acmp.holds .eq (some a) (some b) = false := by simp [if_acmp.holds, h]
theorem own_acmpNeT {a b : Addr} (h : a = b) : if_acmp.holds .ne (some a) (some b) = false := by subst h; simp [if_acmp.holds]
theorem own_acmpNeF {a b : Addr} (h : ¬ a = b) : if_acmp.holds .ne (some a) (some b) = true := by simp [if_acmp.holds, h]
theorem Run.ldcInt (X : Stand p l e R s m args below meth c T locs cells slots) (hx : p.tables.exec = Jvm.exec) {own : String} {index : Nat} {v : Int32} (hown : s.vm.findClass own = some m.cls) (hconst : (Cond.constant own index v).before args s = true) (hd : decode c.code pc = .ok (.ldc index, 2)) (hp : pc + 2 = pc') (k : Run p.tables e below Φ T (mkF m pc' Ls (.int v :: rest))) : Run p.tables e below Φ T (mkF m pc Ls rest) := by
  subst hp
  exact k.back fun _ kt => X.ldcInt hx hown hconst (g := mkF m pc Ls rest) rfl hd _ kt
theorem Run.ldc2Long (X : Stand p l e R s m args below meth c T locs cells slots) (hx : p.tables.exec = Jvm.exec) {own : String} {index : Nat} {v : Int64} (hown : s.vm.findClass own = some m.cls) (hconst : (Cond.constantLong own index v).before args s = true) (hd : decode c.code pc = .ok (.ldc2_w index, 3)) (hp : pc + 3 = pc') (k : Run p.tables e below Φ T (mkF m pc' Ls (.long v :: rest))) : Run p.tables e below Φ T (mkF m pc Ls rest) := by
  subst hp
  exact k.back fun _ kt => X.ldc2Long hx hown hconst (g := mkF m pc Ls rest) rfl hd _ kt
theorem Run.switchHit (X : Stand p l e R s m args below meth c T locs cells slots) (hx : p.tables.exec = Jvm.exec) {default : Int} {pairs : Array (Int × Int)} {len : Nat} {a off : Int} {z : Int32} (hd : decode c.code pc = .ok (.lookupswitch default pairs, len)) (hs : (pairs.toList.zip (pairs.toList.drop 1)).all (fun (a, next) => a.1 < next.1) = true) (hf : pairs.find? (·.1 == z.toInt) = some (a, off)) (ho : 0 ≤ (pc : Int) + off) (hp : ((pc : Int) + off).toNat = pc') (k : Run p.tables e below Φ T (mkF m pc' Ls rest)) : Run p.tables e below Φ T (mkF m pc Ls (.int z :: rest)) := by
  subst hp
  exact k.back fun _ kt => X.lookupswitchHit hx (g := mkF m pc Ls (.int z :: rest)) rfl rfl hd hs hf ho _ kt
theorem Run.switchMiss (X : Stand p l e R s m args below meth c T locs cells slots) (hx : p.tables.exec = Jvm.exec) {default : Int} {pairs : Array (Int × Int)} {len : Nat} {z : Int32} (hd : decode c.code pc = .ok (.lookupswitch default pairs, len)) (hs : (pairs.toList.zip (pairs.toList.drop 1)).all (fun (a, next) => a.1 < next.1) = true) (hf : pairs.find? (·.1 == z.toInt) = none) (ho : 0 ≤ (pc : Int) + default) (hp : ((pc : Int) + default).toNat = pc') (k : Run p.tables e below Φ T (mkF m pc' Ls rest)) : Run p.tables e below Φ T (mkF m pc Ls (.int z :: rest)) := by
  subst hp
  exact k.back fun _ kt => X.lookupswitchMiss hx (g := mkF m pc Ls (.int z :: rest)) rfl rfl hd hs hf ho _ kt
/-- a body that writes nothing returns r -/
abbrev QPure (n0 : Nat) (h0 : Heap) (r : Value) : Option Value → Heap → List Loc → Prop := fun v h L => v = some r ∧ Fr n0 L ∧ h = h0
theorem Run.retInt (X : Stand p l e R s m args below meth c T locs cells slots) (hx : p.tables.exec = Jvm.exec) {K N : Nat} {Q : Option Value → Heap → List Loc → Prop} {z : Int32} (hlk : meth.locks = false) (hret : meth.sig.returnType = some .int) (hd : decode c.code pc = .ok (.ireturn, 1)) (hQ : Q (some (.int z)) T.heap locs) (hc : cells ≤ K) (hn : slots ≤ N) : Run p.tables e below (FinR s K N Q) T (mkF m pc Ls (.int z :: rest)) := by
  obtain ⟨fs, hr, hrun, hended, hW, hsame⟩ := X.leave (v := (some (.int z))) (fun h => by rw [hret] at h; cases h) hlk
  exact ⟨_, _, retOut X hx hret rfl (Or.inl ⟨rfl, Or.inl rfl, z, rfl⟩) hd hr, hrun, hended, _, _, rfl, hQ, ⟨_, rfl⟩, hW, hsame.mono hc hn⟩
theorem Run.retLong (X : Stand p l e R s m args below meth c T locs cells slots) (hx : p.tables.exec = Jvm.exec) {K N : Nat} {Q : Option Value → Heap → List Loc → Prop} {z : Int64} (hlk : meth.locks = false) (hret : meth.sig.returnType = some .long) (hd : decode c.code pc = .ok (.lreturn, 1)) (hQ : Q (some (.long z)) T.heap locs) (hc : cells ≤ K) (hn : slots ≤ N) : Run p.tables e below (FinR s K N Q) T (mkF m pc Ls (.long z :: rest)) := by
  obtain ⟨fs, hr, hrun, hended, hW, hsame⟩ := X.leave (v := (some (.long z))) (fun h => by rw [hret] at h; cases h) hlk
  exact ⟨_, _, retOut X hx hret rfl (Or.inr (Or.inl ⟨rfl, rfl, z, rfl⟩)) hd hr, hrun, hended, _, _, rfl, hQ, ⟨_, rfl⟩, hW, hsame.mono hc hn⟩
theorem Run.retRef (X : Stand p l e R s m args below meth c T locs cells slots) (hx : p.tables.exec = Jvm.exec) {K N : Nat} {Q : Option Value → Heap → List Loc → Prop} {z : Addr} {t : FieldType} (hlk : meth.locks = false) (hret : meth.sig.returnType = some t) (ht : t.isReference = true) (hnr : narrow t (.ref z) = .ref z) (hd : decode c.code pc = .ok (.areturn, 1)) (hQ : Q (some (.ref z)) T.heap locs) (hc : cells ≤ K) (hn : slots ≤ N) : Run p.tables e below (FinR s K N Q) T (mkF m pc Ls (.ref z :: rest)) := by
  obtain ⟨fs, hr, hrun, hended, hW, hsame⟩ := X.leave (v := (some (.ref z))) (fun h => by rw [hret] at h; cases h) hlk
  exact ⟨_, _, retOut X hx hret hnr (Or.inr (Or.inr (Or.inr (Or.inr ⟨rfl, ht, rfl⟩)))) hd hr, hrun, hended, _, _, rfl, hQ, ⟨_, rfl⟩, hW, hsame.mono hc hn⟩
theorem Run.retSmall (X : Stand p l e R s m args below meth c T locs cells slots) (hx : p.tables.exec = Jvm.exec) {K N : Nat} {Q : Option Value → Heap → List Loc → Prop} {z z' : Int32} {t : FieldType} (hlk : meth.locks = false) (hret : meth.sig.returnType = some t) (ht : t = .boolean ∨ t = .byte ∨ t = .char ∨ t = .short) (hz : nar t z = z') (hd : decode c.code pc = .ok (.ireturn, 1)) (hQ : Q (some (.int z')) T.heap locs) (hc : cells ≤ K) (hn : slots ≤ N) : Run p.tables e below (FinR s K N Q) T (mkF m pc Ls (.int z :: rest)) := by
  obtain ⟨fs, hr, hrun, hended, hW, hsame⟩ := X.leave (v := (some (.int z'))) (fun h => by rw [hret] at h; cases h) hlk
  exact ⟨_, _, RoadKit.retN X hx hret ht hd (by rw [hz]; exact hr), hrun, hended, _, _, rfl, hQ, ⟨_, rfl⟩, hW, hsame.mono hc hn⟩
theorem Run.retVoid (X : Stand p l e R s m args below meth c T locs cells slots) (hx : p.tables.exec = Jvm.exec) {K N : Nat} {Q : Option Value → Heap → List Loc → Prop} (hlk : meth.locks = false) (hret : meth.sig.returnType = none) (hd : decode c.code pc = .ok (.return_, 1)) (hQ : Q none T.heap locs) (hc : cells ≤ K) (hn : slots ≤ N) : Run p.tables e below (FinR s K N Q) T (mkF m pc Ls []) := by
  obtain ⟨fs, hr, hrun, hended, hW, hsame⟩ := X.leave (v := none) (fun _ => rfl) hlk
  exact ⟨_, _, X.returnOut hx hret hd hr, hrun, hended, _, _, rfl, hQ, ⟨_, rfl⟩, hW, hsame.mono hc hn⟩
theorem callStatic (X : Stand p l e R s m args below meth c T locs cells slots) (hx : p.tables.exec = Jvm.exec) {a0 : Array Value} {Z : State} {h : Heap} {own : String} {index : Nat} {bytes : ByteArray} {maxL : Nat} {ret : Option FieldType} {rm : Room} {W : Nat} {Qc : Option Value → Heap → List Loc → Prop} {y : MethodName} {argsL : List Value} (hZ : Z.Warmed39 s.vm) (hown : s.vm.findClass own = some m.cls) (w1 : (Cond.methodLink own index y).before a0 Z = true) (w2 : (Cond.static y).before a0 Z = true) (w3 : (Cond.initialized y.cls).before a0 Z = true) (w4 : (Cond.code y bytes maxL ret).before a0 Z = true) (hy : y.cls ≠ "java/lang/invoke/MethodHandle" ∧ y.cls ≠ "java/lang/invoke/VarHandle") (eT : T.heap = h) (hM : MetFree l y (head1 [Cond.code y bytes maxL ret] rm) (fun av U => av = argsL.toArray ∧ Z.Warmed39 U.vm ∧ U.heap = h) (fun _ _ _ _ _ => True) (fun _ U o U' => ∃ v L, o = .returned v ∧ Qc v U'.heap L ∧ FrameEnd U o U' L rm.cells rm.slots)) (hd : decode c.code pc = .ok (.invokestatic index, 3)) (hlen : ∀ sig, parseMethodDescriptor y.desc = some sig → argsL.length = sig.parameters.length) (hf : rm.frames + 1 ≤ R.frames) (hl : W + (maxL + 11) + rm.locals ≤ R.locals) (hsize : Ls.size = c.maxLocals) (hW : (rest.map fun v => v.category).sum ≤ W) (hcs : cells + rm.cells ≤ R.cells) (hss : slots + rm.slots ≤ R.slots) :
    ∃ (T' : State) (L : List Loc) (v : Option Value), Stand p l e R s m args below meth c T' (locs ++ L) (cells + rm.cells) (slots + rm.slots) ∧ Qc v T'.heap L ∧ ∀ t, Steps p.tables e below (T'.setTop (mkF m (pc + 3) Ls (v.toList ++ rest))) t → Steps p.tables e below (T.setTop (mkF m pc Ls (argsL.reverse ++ rest))) t := by
  obtain ⟨v, vm, ⟨T', L', k', n'⟩, -, X', ⟨L, hQ, l1, l2, l3⟩, st⟩ := Jvm.LawKit.callS X hx (y := y) hown (mvT hZ w1) (mvT hZ w2) (mvT hZ w3) (mvT hZ w4) hy (backOf (W := W) hM hZ w4 w3 hf hl) (g := mkF m pc Ls (argsL.reverse ++ rest)) rfl hsize (argsL := argsL) (rest := rest) hlen rfl (by show 2 * 0 + _ ≤ _; omega) hd (fun _ _ => ⟨rfl, eT, hcs, hss⟩)
  dsimp only [Pt.U, Pt.locs, Pt.cells, Pt.slots] at X' hQ l1 l2 l3 st
  subst l1 l2 l3
  exact ⟨T', L, v, X', hQ, st⟩
theorem callSpecial (X : Stand p l e R s m args below meth c T locs cells slots) (hx : p.tables.exec = Jvm.exec) {a0 : Array Value} {Z : State} {h : Heap} {own : String} {index : Nat} {bytes : ByteArray} {maxL : Nat} {ret : Option FieldType} {rm : Room} {W : Nat} {Qc : Option Value → Heap → List Loc → Prop} {y : MethodName} {a : Addr} {argsL : List Value} (hy1 : y.name = "<init>") (hZ : Z.Warmed39 s.vm) (hown : s.vm.findClass own = some m.cls) (w1 : (Cond.methodLink own index y).before a0 Z = true) (w2 : (Cond.instanceMethod y).before a0 Z = true) (w3 : (Cond.initialized y.cls).before a0 Z = true) (w4 : (Cond.code y bytes maxL none).before a0 Z = true) (hy : y.cls ≠ "java/lang/invoke/MethodHandle" ∧ y.cls ≠ "java/lang/invoke/VarHandle") (eT : T.heap = h) (hM : MetFree l y (head1 [Cond.code y bytes maxL none] rm) (fun av U => av = (.ref a :: argsL).toArray ∧ Z.Warmed39 U.vm ∧ U.heap = h) (fun _ _ _ _ _ => True) (fun _ U o U' => ∃ v L, o = .returned v ∧ Qc v U'.heap L ∧ FrameEnd U o U' L rm.cells rm.slots)) (hd : decode c.code pc = .ok (.invokespecial index, 3)) (hlen : ∀ sig, parseMethodDescriptor y.desc = some sig → argsL.length = sig.parameters.length) (hf : rm.frames + 1 ≤ R.frames) (hl : W + (maxL + 11) + rm.locals ≤ R.locals) (hsize : Ls.size = c.maxLocals) (hW : (rest.map fun v => v.category).sum ≤ W) (hcs : cells + rm.cells ≤ R.cells) (hss : slots + rm.slots ≤ R.slots) :
    ∃ (T' : State) (L : List Loc) (v : Option Value), Stand p l e R s m args below meth c T' (locs ++ L) (cells + rm.cells) (slots + rm.slots) ∧ Qc v T'.heap L ∧ ∀ t, Steps p.tables e below (T'.setTop (mkF m (pc + 3) Ls (v.toList ++ rest))) t → Steps p.tables e below (T.setTop (mkF m pc Ls (argsL.reverse ++ .ref a :: rest))) t := by
  obtain ⟨v, vm, ⟨T', L', k', n'⟩, -, X', ⟨L, hQ, l1, l2, l3⟩, st⟩ := X.specialBack hx (y := y) hy1 hown (mvT hZ w1) (mvT hZ w2) (mvT hZ w4) hy (backOf (W := W) hM hZ w4 w3 hf hl) (g := mkF m pc Ls (argsL.reverse ++ .ref a :: rest)) rfl hsize (Steps.refl _) (a := a) (argsL := argsL) (rest := rest) hlen rfl (by show 2 * 0 + _ ≤ _; omega) hd (fun _ _ => ⟨rfl, eT, hcs, hss⟩)
  dsimp only [Pt.U, Pt.locs, Pt.cells, Pt.slots] at X' hQ l1 l2 l3 st
  subst l1 l2 l3
  exact ⟨T', L, v, X', hQ, fun t kt => st.trans kt⟩
theorem callVirtual (X : Stand p l e R s m args below meth c T locs cells slots) (hx : p.tables.exec = Jvm.exec) {a0 : Array Value} {Z : State} {h : Heap} {own : String} {index : Nat} {bytes : ByteArray} {maxL : Nat} {ret : Option FieldType} {rm : Room} {W : Nat} {Qc : Option Value → Heap → List Loc → Prop} {y z : MethodName} {C : String} {a : Addr} {argsL : List Value} (hZ : Z.Warmed39 s.vm) (hown : s.vm.findClass own = some m.cls) (w1 : (Cond.methodLink own index y).before a0 Z = true) (w2 : (Cond.declares y).before a0 Z = true) (hnf : NotFace s y) (w5 : (Cond.selects C y z).before a0 Z = true) (w6 : (Cond.instanceMethod z).before a0 Z = true) (w3 : (Cond.initialized z.cls).before a0 Z = true) (w4 : (Cond.code z bytes maxL ret).before a0 Z = true) (hy : y.cls ≠ "java/lang/invoke/MethodHandle" ∧ y.cls ≠ "java/lang/invoke/VarHandle") (eT : T.heap = h) (E : Exa Z h a C) (hM : MetFree l z (head1 [Cond.code z bytes maxL ret] rm) (fun av U => av = (.ref a :: argsL).toArray ∧ Z.Warmed39 U.vm ∧ U.heap = h) (fun _ _ _ _ _ => True) (fun _ U o U' => ∃ v L, o = .returned v ∧ Qc v U'.heap L ∧ FrameEnd U o U' L rm.cells rm.slots)) (hd : decode c.code pc = .ok (.invokevirtual index, 3)) (hlen : ∀ sig, parseMethodDescriptor y.desc = some sig → argsL.length = sig.parameters.length) (hf : rm.frames + 1 ≤ R.frames) (hl : W + (maxL + 11) + rm.locals ≤ R.locals) (hsize : Ls.size = c.maxLocals) (hW : (rest.map fun v => v.category).sum ≤ W) (hcs : cells + rm.cells ≤ R.cells) (hss : slots + rm.slots ≤ R.slots) :
    ∃ (T' : State) (L : List Loc) (v : Option Value), Stand p l e R s m args below meth c T' (locs ++ L) (cells + rm.cells) (slots + rm.slots) ∧ Qc v T'.heap L ∧ ∀ t, Steps p.tables e below (T'.setTop (mkF m (pc + 3) Ls (v.toList ++ rest))) t → Steps p.tables e below (T.setTop (mkF m pc Ls (argsL.reverse ++ .ref a :: rest))) t := by
  obtain ⟨cB, kB, qa, -, qc⟩ := isOf hZ eT E
  obtain ⟨v, vm, ⟨T', L', k', n'⟩, -, X', ⟨L, hQ, l1, l2, l3⟩, st⟩ := X.virtualBack hx (y := y) (z := z) hown (mvT hZ w1) (mvT hZ w2) hnf (mvT hZ w5) (mvT hZ w6) hy (backOf (W := W) hM hZ w4 w3 hf hl) qa qc (g := mkF m pc Ls (argsL.reverse ++ .ref a :: rest)) rfl hsize (Steps.refl _) (argsL := argsL) (rest := rest) hlen rfl (by show 2 * 0 + _ ≤ _; omega) hd (fun _ _ => ⟨rfl, eT, hcs, hss⟩)
  dsimp only [Pt.U, Pt.locs, Pt.cells, Pt.slots] at X' hQ l1 l2 l3 st
  subst l1 l2 l3
  exact ⟨T', L, v, X', hQ, fun t kt => st.trans kt⟩
end Steps
section Arrays
variable {Z : State} {h h' : Heap} {a b : Addr} {ty : FieldType} {n : Int32} {f : Int32 → Int32} {sl : Nat} {v : Value} {ws : List Addr}
/-- the array at a: of kind ty, n places, the place j holds the int f j -/
def Ints (Z : State) (h : Heap) (a : Addr) (ty : FieldType) (n : Int32) (f : Int32 → Int32) : Prop := ∃ cl : Cell, Arr Z h a cl ty ∧ cl.slots.size = n.toNatClampNeg ∧ ¬ n < 0 ∧ ∀ j : Int32, ¬ j < 0 → j < n → cl.slots[j.toNatClampNeg]? = some (.int (f j))
theorem Ints.lt (F : Ints Z h a ty n f) : a < h.size := by obtain ⟨_, A, -⟩ := F; exact A.lt
theorem Ints.ext (E : Ext h h') (F : Ints Z h a ty n f) : Ints Z h' a ty n f := by obtain ⟨c, A, r⟩ := F; exact ⟨c, A.ext E, r⟩
theorem Ints.other (W : Wr h h' b sl v) (F : Ints Z h a ty n f) (q : a ≠ b) : Ints Z h' a ty n f := by obtain ⟨c, A, r⟩ := F; exact ⟨c, A.other W q, r⟩
theorem Ints.keep (F : Ints Z h a ty n f) (K : Keep h h' ws) (q : a ∉ ws) : Ints Z h' a ty n f := by obtain ⟨c, A, r⟩ := F; exact ⟨c, ⟨K.2.1 a c A.1 q, A.2⟩, r⟩
theorem Ints.inb {cl : Cell} (S : cl.slots.size = n.toNatClampNeg) {j : Int32} (h1 : ¬ j < 0) (h2 : j < n) : ¬ (j < 0 ∨ cl.slots.size ≤ j.toNatClampNeg) := inb_of S ⟨h1, h2⟩
theorem nat_inj {i j : Int32} (hi : ¬ i < 0) (hj : ¬ j < 0) (q : i.toNatClampNeg = j.toNatClampNeg) : i = j := Int32.toInt_inj.mp (by rw [nat_of hi, nat_of hj, q])
theorem Ints.set {j : Int32} {x : Int32} {cl : Cell} (A : Arr Z h a cl ty) (S : cl.slots.size = n.toNatClampNeg) (hn : ¬ n < 0) (H : ∀ j : Int32, ¬ j < 0 → j < n → cl.slots[j.toNatClampNeg]? = some (.int (f j))) (h1 : ¬ j < 0) (h2 : j < n) (W : Wr h h' a j.toNatClampNeg (.int x)) : Ints Z h' a ty n (fun i => if i = j then x else f i) := by
  refine ⟨_, A.same W, by rw [← S]; simp [Cell.setSlot], hn, fun i hi hi2 => ?_⟩
  have hlt : i.toNatClampNeg < cl.slots.size := Nat.lt_of_not_le fun q => inb_of S ⟨hi, hi2⟩ (Or.inr q)
  by_cases e : i = j
  · subst e; simp [Cell.setSlot, hlt]
  · have hne : j.toNatClampNeg ≠ i.toNatClampNeg := fun q => e (nat_inj hi h1 q.symm)
    simp only [if_neg e]
    rw [← H i hi hi2]
    simp [Cell.setSlot, Array.getElem?_setIfInBounds_ne hne]
theorem Ints.new {k : ClassId} (A : Arr Z h a (newA k ty n) ty) (hn : ¬ n < 0) (hd : defaultValue ty = .int 0) : Ints Z h a ty n (fun _ => 0) := by
  obtain ⟨cl, A', -, S, -, H, -⟩ := Arv.new A hn
  exact ⟨cl, A', S, hn, fun j h1 h2 => by rw [H _ (Nat.lt_of_not_le fun q => inb_of S ⟨h1, h2⟩ (Or.inr q))]; simp [hd]⟩
theorem Ints.congr {g : Int32 → Int32} (F : Ints Z h a ty n f) (q : ∀ j : Int32, ¬ j < 0 → j < n → f j = g j) : Ints Z h a ty n g := by
  obtain ⟨cl, A, S, hn, H⟩ := F
  exact ⟨cl, A, S, hn, fun j h1 h2 => by rw [← q j h1 h2]; exact H j h1 h2⟩
end Arrays
section ArraySteps
variable {p : Program} {l : Launch} {e : Env} {R : Room} {s : State} {m : MethodId} {args : Array Value} {below : List Frame} {meth : Method} {c : Code} {T : State} {locs : List Loc} {cells slots : Nat} {Φ : Outcome → State → Prop} {pc pc' : Nat} {Ls : Array Slot} {rest : List Value} {Z : State} {h : Heap} {a : Addr} {n j : Int32} {f : Int32 → Int32}
theorem Run.iaload (X : Stand p l e R s m args below meth c T locs cells slots) (hx : p.tables.exec = Jvm.exec) (hZ : Z.Warmed39 s.vm) (eT : T.heap = h) (F : Ints Z h a .int n f) (h1 : ¬ j < 0) (h2 : j < n) (hd : decode c.code pc = .ok (.iaload, 1)) (hp : pc + 1 = pc') (k : Run p.tables e below Φ T (mkF m pc' Ls (.int (f j) :: rest))) : Run p.tables e below Φ T (mkF m pc Ls (.int j :: .ref a :: rest)) := by
  subst hp
  obtain ⟨cl, A, S, hn, H⟩ := F
  exact k.back fun _ kt => X.iaload hx (by rw [eT]; exact A.1) (State.isArrayOf_alike hZ.alike A.2.1) A.2.2 (inb_of S ⟨h1, h2⟩) (H j h1 h2) (g := mkF m pc Ls (.int j :: .ref a :: rest)) rfl rfl hd _ kt
theorem Run.baload (X : Stand p l e R s m args below meth c T locs cells slots) (hx : p.tables.exec = Jvm.exec) (hZ : Z.Warmed39 s.vm) (eT : T.heap = h) (F : Ints Z h a .byte n f) (h1 : ¬ j < 0) (h2 : j < n) (hd : decode c.code pc = .ok (.baload, 1)) (hp : pc + 1 = pc') (k : Run p.tables e below Φ T (mkF m pc' Ls (.int (f j) :: rest))) : Run p.tables e below Φ T (mkF m pc Ls (.int j :: .ref a :: rest)) := by
  subst hp
  obtain ⟨cl, A, S, hn, H⟩ := F
  exact k.back fun _ kt => X.baloadBytes hx (by rw [eT]; exact A.1) (State.isArrayOf_alike hZ.alike A.2.1) A.2.2 (inb_of S ⟨h1, h2⟩) (H j h1 h2) (g := mkF m pc Ls (.int j :: .ref a :: rest)) rfl rfl hd _ kt
theorem Run.zaload (X : Stand p l e R s m args below meth c T locs cells slots) (hx : p.tables.exec = Jvm.exec) (hZ : Z.Warmed39 s.vm) (eT : T.heap = h) (F : Ints Z h a .boolean n f) (h1 : ¬ j < 0) (h2 : j < n) (hd : decode c.code pc = .ok (.baload, 1)) (hp : pc + 1 = pc') (k : Run p.tables e below Φ T (mkF m pc' Ls (.int (f j) :: rest))) : Run p.tables e below Φ T (mkF m pc Ls (.int j :: .ref a :: rest)) := by
  subst hp
  obtain ⟨cl, A, S, hn, H⟩ := F
  exact k.back fun _ kt => X.baloadBooleans hx (by rw [eT]; exact A.1) (State.isArrayOf_alike hZ.alike A.2.1) A.2.2 (inb_of S ⟨h1, h2⟩) (H j h1 h2) (g := mkF m pc Ls (.int j :: .ref a :: rest)) rfl rfl hd _ kt
theorem Run.arraylength (X : Stand p l e R s m args below meth c T locs cells slots) (hx : p.tables.exec = Jvm.exec) {ty : FieldType} (hZ : Z.Warmed39 s.vm) (eT : T.heap = h) (F : Ints Z h a ty n f) (hd : decode c.code pc = .ok (.arraylength, 1)) (hp : pc + 1 = pc') (k : Run p.tables e below Φ T (mkF m pc' Ls (.int n :: rest))) : Run p.tables e below Φ T (mkF m pc Ls (.ref a :: rest)) := by
  subst hp
  obtain ⟨cl, A, S, hn, H⟩ := F
  rw [← len_of S hn] at k
  exact k.back fun _ kt => X.arraylength hx (by rw [eT]; exact A.1) (State.isArrayOf_alike hZ.alike A.2.1) (g := mkF m pc Ls (.ref a :: rest)) rfl rfl hd _ kt
theorem st_iastore (X : Stand p l e R s m args below meth c T locs cells slots) (hx : p.tables.exec = Jvm.exec) {x : Int32} (hZ : Z.Warmed39 s.vm) (eT : T.heap = h) (F : Ints Z h a .int n f) (h1 : ¬ j < 0) (h2 : j < n) (hd : decode c.code pc = .ok (.iastore, 1)) : ∃ T' h' sl v, Stand p l e R s m args below meth c T' (locs ++ [⟨a, sl⟩]) cells slots ∧ T'.heap = h' ∧ Wr h h' a sl v ∧ Ints Z h' a .int n (fun i => if i = j then x else f i) ∧ ∀ t, Steps p.tables e below (T'.setTop (mkF m (pc + 1) Ls rest)) t → Steps p.tables e below (T.setTop (mkF m pc Ls (.int x :: .int j :: .ref a :: rest))) t := by
  obtain ⟨cl, A, S, hn, H⟩ := F
  obtain ⟨T', h', X', e', W, st⟩ := stI X hx hZ eT A (j := j) (x := x) (inb_of S ⟨h1, h2⟩) (g := mkF m pc Ls (.int x :: .int j :: .ref a :: rest)) rfl rfl hd
  exact ⟨T', h', _, _, X', e', W, Ints.set A S hn H h1 h2 W, st⟩
theorem st_bastore (X : Stand p l e R s m args below meth c T locs cells slots) (hx : p.tables.exec = Jvm.exec) {x : Int32} (hZ : Z.Warmed39 s.vm) (eT : T.heap = h) (F : Ints Z h a .byte n f) (h1 : ¬ j < 0) (h2 : j < n) (hd : decode c.code pc = .ok (.bastore, 1)) : ∃ T' h' sl v, Stand p l e R s m args below meth c T' (locs ++ [⟨a, sl⟩]) cells slots ∧ T'.heap = h' ∧ Wr h h' a sl v ∧ Ints Z h' a .byte n (fun i => if i = j then x.toInt8.toInt32 else f i) ∧ ∀ t, Steps p.tables e below (T'.setTop (mkF m (pc + 1) Ls rest)) t → Steps p.tables e below (T.setTop (mkF m pc Ls (.int x :: .int j :: .ref a :: rest))) t := by
  obtain ⟨cl, A, S, hn, H⟩ := F
  obtain ⟨T', h', X', e', W, st⟩ := stB X hx hZ eT A (j := j) (x := x) (inb_of S ⟨h1, h2⟩) (g := mkF m pc Ls (.int x :: .int j :: .ref a :: rest)) rfl rfl hd
  exact ⟨T', h', _, _, X', e', W, Ints.set A S hn H h1 h2 W, st⟩
theorem st_zastore (X : Stand p l e R s m args below meth c T locs cells slots) (hx : p.tables.exec = Jvm.exec) {x : Int32} (hZ : Z.Warmed39 s.vm) (eT : T.heap = h) (F : Ints Z h a .boolean n f) (h1 : ¬ j < 0) (h2 : j < n) (hd : decode c.code pc = .ok (.bastore, 1)) : ∃ T' h' sl v, Stand p l e R s m args below meth c T' (locs ++ [⟨a, sl⟩]) cells slots ∧ T'.heap = h' ∧ Wr h h' a sl v ∧ Ints Z h' a .boolean n (fun i => if i = j then x &&& 1 else f i) ∧ ∀ t, Steps p.tables e below (T'.setTop (mkF m (pc + 1) Ls rest)) t → Steps p.tables e below (T.setTop (mkF m pc Ls (.int x :: .int j :: .ref a :: rest))) t := by
  obtain ⟨cl, A, S, hn, H⟩ := F
  obtain ⟨T', h', X', e', W, st⟩ := stZ X hx hZ eT A (j := j) (x := x) (inb_of S ⟨h1, h2⟩) (g := mkF m pc Ls (.int x :: .int j :: .ref a :: rest)) rfl rfl hd
  exact ⟨T', h', _, _, X', e', W, Ints.set A S hn H h1 h2 W, st⟩
theorem st_newarray (X : Stand p l e R s m args below meth c T locs cells slots) (hx : p.tables.exec = Jvm.exec) {aty : ArrayType} {a0 : Array Value} (hZ : Z.Warmed39 s.vm) (w : (Cond.arrayClass (newarray.typeOf aty)).before a0 Z = true) (eT : T.heap = h) (hd : decode c.code pc = .ok (.newarray aty, 2)) (hn : ¬ n < 0) {cap : Nat} (hcap : n.toNatClampNeg ≤ cap) (hb : cap * 8 ≤ 536870912) (hc : cells + 1 ≤ R.cells) (hl : slots + cap ≤ R.slots) (hdef : defaultValue (newarray.typeOf aty) = .int 0) : ∃ T' h' b, Stand p l e R s m args below meth c T' locs (cells + 1) (slots + cap) ∧ T'.heap = h' ∧ Ext h h' ∧ b = h.size ∧ Ints Z h' b (newarray.typeOf aty) n (fun _ => 0) ∧ ∀ t, Steps p.tables e below (T'.setTop (mkF m (pc + 2) Ls (.ref b :: rest))) t → Steps p.tables e below (T.setTop (mkF m pc Ls (.int n :: rest))) t := by
  obtain ⟨T', h', cA, X', e', E, A, st⟩ := newP X hx hZ w eT (g := mkF m pc Ls (.int n :: rest)) rfl hd rfl hn hcap hb hc hl
  exact ⟨T', h', _, X', e', E, rfl, Ints.new A hn hdef, st⟩
end ArraySteps
section Table
variable {Z : State} {args : Array Value} {t : Term} {a : Addr} {c : Cell} {ty : FieldType} {n j : Int32}
theorem tab_ints {h : Heap} (F : Tab Z h a c ty n) : Ints Z h a ty n (atv c) := ⟨c, F.1, F.2.1, F.2.2.1, fun j h1 h2 => F.2.2.2 j (inb_of F.2.1 ⟨h1, h2⟩)⟩
theorem tab_all {q : Jvm.Cond} (et : ∀ idx, t.eval args Z none idx Z = some (.ref a)) (F : Tab Z Z.heap a c ty n) (h : (Jvm.Cond.all t q).value args Z none Z [] = some true) (h1 : ¬ j < 0) (h2 : j < n) : q.value args Z none Z [j.toNatClampNeg] = some true :=
  Jvm.Cond.all_elim (et []) (F.1.fin (Vm.Alike.refl _)) h _ (Nat.lt_of_not_le fun y => inb_of F.2.1 ⟨h1, h2⟩ (Or.inr y))
theorem tab_elem (et : ∀ idx, t.eval args Z none idx Z = some (.ref a)) (F : Tab Z Z.heap a c ty n) (h1 : ¬ j < 0) (h2 : j < n) : (Term.elem t (.index 0)).eval args Z none [j.toNatClampNeg] Z = some (.int (atv c j)) :=
  (elem_f (et _) (idx_at h1) (F.1.fin (Vm.Alike.refl _)) h1).trans (F.2.2.2 j (inb_of F.2.1 ⟨h1, h2⟩))
theorem tab_le {x v : Int32} (et : ∀ idx, t.eval args Z none idx Z = some (.ref a)) (F : Tab Z Z.heap a c ty n) (h : (Jvm.Cond.all t (.or (.le (.int x) (.index 0)) (.eq (.elem t (.index 0)) (.int v)))).value args Z none Z [] = some true) (j : Int32) (h1 : ¬ j < 0) (h2 : j < n) : x ≤ j ∨ atv c j = v :=
  or_e2 (Jvm.Cond.le_ints (Term.int_eval x) (idx_at h1)) (Jvm.Cond.eq_ints (tab_elem et F h1 h2) (Term.int_eval v)) (tab_all et F h h1 h2)
theorem tab_in {x y v : Int32} (et : ∀ idx, t.eval args Z none idx Z = some (.ref a)) (F : Tab Z Z.heap a c ty n) (h : (Jvm.Cond.all t (.or (.lt (.index 0) (.int x)) (.or (.le (.int y) (.index 0)) (.eq (.elem t (.index 0)) (.int v))))).value args Z none Z [] = some true) (j : Int32) (h1 : ¬ j < 0) (h2 : j < n) : j < x ∨ ¬ j < y ∨ atv c j = v :=
  or3 (tab_all et F h h1 h2) (Jvm.Cond.lt_ints (idx_at h1) (Term.int_eval x)) (Jvm.Cond.le_ints (Term.int_eval y) (idx_at h1)) (Jvm.Cond.eq_ints (tab_elem et F h1 h2) (Term.int_eval v))
theorem tab_one {k v : Int32} (et : ∀ idx, t.eval args Z none idx Z = some (.ref a)) (F : Tab Z Z.heap a c ty n) (h1 : ¬ k < 0) (h2 : k < n) (h : (Jvm.Cond.eq (.elem t (.int k)) (.int v)).value args Z none Z [] = some true) : atv c k = v := by
  have e := (elem_f (et []) (Term.int_eval (args := args) (first := Z) (o := none) (idx := []) (s := Z) k) (F.1.fin (Vm.Alike.refl _)) h1).trans (F.2.2.2 k (inb_of F.2.1 ⟨h1, h2⟩))
  have q := (Jvm.Cond.eq_ints e (Term.int_eval v)).symm.trans h
  simpa using q
theorem tab_ge {x v : Int32} (et : ∀ idx, t.eval args Z none idx Z = some (.ref a)) (F : Tab Z Z.heap a c ty n) (h : (Jvm.Cond.all t (.or (.lt (.index 0) (.int x)) (.eq (.elem t (.index 0)) (.int v)))).value args Z none Z [] = some true) (j : Int32) (h1 : ¬ j < 0) (h2 : j < n) : j < x ∨ atv c j = v :=
  or_e2 (Jvm.Cond.lt_ints (idx_at h1) (Term.int_eval x)) (Jvm.Cond.eq_ints (tab_elem et F h1 h2) (Term.int_eval v)) (tab_all et F h h1 h2)
theorem tab_start (hf : Fit Z) (et : t.eval args Z none [] Z = some (.ref a)) (A : Arr Z Z.heap a c ty) (hl : (Jvm.Cond.eq (Term.length t) (.int n)).value args Z none Z [] = some true) (ht : ty = .int ∨ ty = .boolean ∨ ty = .byte ∨ ty = .char ∨ ty = .short) (hn : ¬ n < 0) : Tab Z Z.heap a c ty n := by
  have e := eqv_i (Term.int_eval n) hl
  have ha : Z.arrayAt? a = some c := A.fin (Vm.Alike.refl _)
  by_cases q : c.slots.size < 2 ^ 31
  · have e2 := len_f et ha q
    exact Tab.start hf A ht q (by simpa using Option.some.inj (e2.symm.trans e)) hn
  · simp [Term.eval, et, ha, q] at e
theorem small_int (N : Nat) (hN : N < 2147483648) (P : Int32 → Prop) (H : ∀ k : Fin N, P (Int32.ofNat k.val)) (c : Int32) (h1 : ¬ c < 0) (h2 : c < Int32.ofNat N) : P c := by
  have e : c.toInt = (c.toNatClampNeg : Int) := nat_of h1
  have hc : Int32.ofNat c.toNatClampNeg = c := by
    apply Int32.toInt_inj.mp
    rw [Int32.toInt_ofNat_of_lt (by have := c.toInt_lt; omega), e]
  have h3 : c.toInt < (Int32.ofNat N).toInt := Int32.lt_iff_toInt_lt.mp h2
  rw [Int32.toInt_ofNat_of_lt (by omega)] at h3
  rw [← hc]
  exact H ⟨c.toNatClampNeg, by omega⟩
end Table
end Jvm.OwnRun

namespace Jvm.Pilot.@@N@@
open Jvm Jvm.ClassFile Sem Op Lib Jvm.Free Jvm.Stand Jvm.LawKit Jvm.RoadKit Jvm.OwnRun Bundle Jvm.Pilot.@@N@@.Jvm.D
theorem own_pd0 : parseMethodDescriptor "()B" = some ⟨[], some .byte⟩ := by decide +kernel
theorem own_pd1 : parseMethodDescriptor "(IILjava/util/function/BiFunction;)I" = some ⟨[.int, .int, (.object "java/util/function/BiFunction")], some .int⟩ := by decide +kernel
theorem own_pd2 : parseMethodDescriptor "(II)V" = some ⟨[.int, .int], none⟩ := by decide +kernel
theorem own_pd3 : parseMethodDescriptor "()Z" = some ⟨[], some .boolean⟩ := by decide +kernel
theorem own_pd4 : parseMethodDescriptor "([BI)C" = some ⟨[(.array .byte), .int], some .char⟩ := by decide +kernel
theorem own_pd5 : parseMethodDescriptor "(I)Lcom/example/portcullis/portcullis/Outcome;" = some ⟨[.int], some (.object "com/example/portcullis/portcullis/Outcome")⟩ := by decide +kernel
theorem own_pd6 : parseMethodDescriptor "()Ljava/lang/String;" = some ⟨[], some (.object "java/lang/String")⟩ := by decide +kernel
theorem own_pd7 : parseMethodDescriptor "()I" = some ⟨[], some .int⟩ := by decide +kernel
theorem own_pd8 : parseMethodDescriptor "(I)C" = some ⟨[.int], some .char⟩ := by decide +kernel
theorem own_pn0 : plainName "com/example/portcullis/portcullis/OutcomeIsLoggedPinLaw" = true := by first | (simp [plainName, overriddenIn]; done) | decide +kernel
theorem own_pn1 : plainName "com/example/portcullis/portcullis/Outcome" = true := by first | (simp [plainName, overriddenIn]; done) | decide +kernel
theorem own_pn2 : plainName "java/lang/String" = true := by first | (simp [plainName, overriddenIn]; done) | decide +kernel
theorem own_pn3 : plainName "jdk/internal/util/Preconditions" = true := by first | (simp [plainName, overriddenIn]; done) | decide +kernel
theorem own_pn4 : plainName "java/lang/StringLatin1" = true := by first | (simp [plainName, overriddenIn]; done) | decide +kernel
def own_w_ALLOW (j : Int32) : Int32 := (if j = (0 : Int32) then 97 else (if j = (1 : Int32) then 108 else (if j = (2 : Int32) then 108 else (if j = (3 : Int32) then 111 else 119))))
theorem own_w_ALLOW_of (f : Int32 → Int32) (t0 : f 0 = 97) (t1 : f 1 = 108) (t2 : f 2 = 108) (t3 : f 3 = 111) (t4 : f 4 = 119) (j : Int32) (h0 : ¬ j < 0) (h1 : j < 5) : f j = own_w_ALLOW j := by
  rw [Int32.lt_iff_toInt_lt] at h0 h1
  have e0 : (0 : Int32).toInt = 0 := rfl
  have e1 : (1 : Int32).toInt = 1 := rfl
  have e2 : (2 : Int32).toInt = 2 := rfl
  have e3 : (3 : Int32).toInt = 3 := rfl
  have e4 : (4 : Int32).toInt = 4 := rfl
  have e5 : (5 : Int32).toInt = 5 := rfl
  have h : j = 0 ∨ j = 1 ∨ j = 2 ∨ j = 3 ∨ j = 4 := by simp only [← Int32.toInt_inj]; omega
  rcases h with rfl | rfl | rfl | rfl | rfl
  · exact t0
  · exact t1
  · exact t2
  · exact t3
  · exact t4
def own_w_ALLOW_LOG (j : Int32) : Int32 := (if j = (0 : Int32) then 97 else (if j = (1 : Int32) then 108 else (if j = (2 : Int32) then 108 else (if j = (3 : Int32) then 111 else (if j = (4 : Int32) then 119 else (if j = (5 : Int32) then 45 else (if j = (6 : Int32) then 108 else (if j = (7 : Int32) then 111 else 103))))))))
theorem own_w_ALLOW_LOG_of (f : Int32 → Int32) (t0 : f 0 = 97) (t1 : f 1 = 108) (t2 : f 2 = 108) (t3 : f 3 = 111) (t4 : f 4 = 119) (t5 : f 5 = 45) (t6 : f 6 = 108) (t7 : f 7 = 111) (t8 : f 8 = 103) (j : Int32) (h0 : ¬ j < 0) (h1 : j < 9) : f j = own_w_ALLOW_LOG j := by
  rw [Int32.lt_iff_toInt_lt] at h0 h1
  have e0 : (0 : Int32).toInt = 0 := rfl
  have e1 : (1 : Int32).toInt = 1 := rfl
  have e2 : (2 : Int32).toInt = 2 := rfl
  have e3 : (3 : Int32).toInt = 3 := rfl
  have e4 : (4 : Int32).toInt = 4 := rfl
  have e5 : (5 : Int32).toInt = 5 := rfl
  have e6 : (6 : Int32).toInt = 6 := rfl
  have e7 : (7 : Int32).toInt = 7 := rfl
  have e8 : (8 : Int32).toInt = 8 := rfl
  have e9 : (9 : Int32).toInt = 9 := rfl
  have h : j = 0 ∨ j = 1 ∨ j = 2 ∨ j = 3 ∨ j = 4 ∨ j = 5 ∨ j = 6 ∨ j = 7 ∨ j = 8 := by simp only [← Int32.toInt_inj]; omega
  rcases h with rfl | rfl | rfl | rfl | rfl | rfl | rfl | rfl | rfl
  · exact t0
  · exact t1
  · exact t2
  · exact t3
  · exact t4
  · exact t5
  · exact t6
  · exact t7
  · exact t8
def own_w_DENY (j : Int32) : Int32 := (if j = (0 : Int32) then 100 else (if j = (1 : Int32) then 101 else (if j = (2 : Int32) then 110 else 121)))
theorem own_w_DENY_of (f : Int32 → Int32) (t0 : f 0 = 100) (t1 : f 1 = 101) (t2 : f 2 = 110) (t3 : f 3 = 121) (j : Int32) (h0 : ¬ j < 0) (h1 : j < 4) : f j = own_w_DENY j := by
  rw [Int32.lt_iff_toInt_lt] at h0 h1
  have e0 : (0 : Int32).toInt = 0 := rfl
  have e1 : (1 : Int32).toInt = 1 := rfl
  have e2 : (2 : Int32).toInt = 2 := rfl
  have e3 : (3 : Int32).toInt = 3 := rfl
  have e4 : (4 : Int32).toInt = 4 := rfl
  have h : j = 0 ∨ j = 1 ∨ j = 2 ∨ j = 3 := by simp only [← Int32.toInt_inj]; omega
  rcases h with rfl | rfl | rfl | rfl
  · exact t0
  · exact t1
  · exact t2
  · exact t3
def own_w_DENY_LOG (j : Int32) : Int32 := (if j = (0 : Int32) then 100 else (if j = (1 : Int32) then 101 else (if j = (2 : Int32) then 110 else (if j = (3 : Int32) then 121 else (if j = (4 : Int32) then 45 else (if j = (5 : Int32) then 108 else (if j = (6 : Int32) then 111 else 103)))))))
theorem own_w_DENY_LOG_of (f : Int32 → Int32) (t0 : f 0 = 100) (t1 : f 1 = 101) (t2 : f 2 = 110) (t3 : f 3 = 121) (t4 : f 4 = 45) (t5 : f 5 = 108) (t6 : f 6 = 111) (t7 : f 7 = 103) (j : Int32) (h0 : ¬ j < 0) (h1 : j < 8) : f j = own_w_DENY_LOG j := by
  rw [Int32.lt_iff_toInt_lt] at h0 h1
  have e0 : (0 : Int32).toInt = 0 := rfl
  have e1 : (1 : Int32).toInt = 1 := rfl
  have e2 : (2 : Int32).toInt = 2 := rfl
  have e3 : (3 : Int32).toInt = 3 := rfl
  have e4 : (4 : Int32).toInt = 4 := rfl
  have e5 : (5 : Int32).toInt = 5 := rfl
  have e6 : (6 : Int32).toInt = 6 := rfl
  have e7 : (7 : Int32).toInt = 7 := rfl
  have e8 : (8 : Int32).toInt = 8 := rfl
  have h : j = 0 ∨ j = 1 ∨ j = 2 ∨ j = 3 ∨ j = 4 ∨ j = 5 ∨ j = 6 ∨ j = 7 := by simp only [← Int32.toInt_inj]; omega
  rcases h with rfl | rfl | rfl | rfl | rfl | rfl | rfl | rfl
  · exact t0
  · exact t1
  · exact t2
  · exact t3
  · exact t4
  · exact t5
  · exact t6
  · exact t7
def own_w_DEFER (j : Int32) : Int32 := (if j = (0 : Int32) then 100 else (if j = (1 : Int32) then 101 else (if j = (2 : Int32) then 102 else (if j = (3 : Int32) then 101 else 114))))
theorem own_w_DEFER_of (f : Int32 → Int32) (t0 : f 0 = 100) (t1 : f 1 = 101) (t2 : f 2 = 102) (t3 : f 3 = 101) (t4 : f 4 = 114) (j : Int32) (h0 : ¬ j < 0) (h1 : j < 5) : f j = own_w_DEFER j := by
  rw [Int32.lt_iff_toInt_lt] at h0 h1
  have e0 : (0 : Int32).toInt = 0 := rfl
  have e1 : (1 : Int32).toInt = 1 := rfl
  have e2 : (2 : Int32).toInt = 2 := rfl
  have e3 : (3 : Int32).toInt = 3 := rfl
  have e4 : (4 : Int32).toInt = 4 := rfl
  have e5 : (5 : Int32).toInt = 5 := rfl
  have h : j = 0 ∨ j = 1 ∨ j = 2 ∨ j = 3 ∨ j = 4 := by simp only [← Int32.toInt_inj]; omega
  rcases h with rfl | rfl | rfl | rfl | rfl
  · exact t0
  · exact t1
  · exact t2
  · exact t3
  · exact t4
def own_F1 (p0 : Int32) (a_ALLOW : Addr) (a_ALLOW_LOG : Addr) (a_DENY : Addr) (a_DENY_LOG : Addr) (a_DEFER : Addr) : Addr := (if p0 = (0 : Int32) then a_ALLOW else (if p0 = (1 : Int32) then a_ALLOW_LOG else (if p0 = (2 : Int32) then a_DENY else (if p0 = (3 : Int32) then a_DENY_LOG else a_DEFER))))
theorem own_d1_0 : decode method_2_code 0 = .ok (.iload_n 0, 1) := by decide +kernel
theorem own_d1_1 : decode method_2_code 1 = .ok (.ifCond .ne 7, 3) := by decide +kernel
theorem own_d1_4 : decode method_2_code 4 = .ok (.getstatic 7, 3) := by decide +kernel
theorem own_d1_7 : decode method_2_code 7 = .ok (.areturn, 1) := by decide +kernel
theorem own_d1_8 : decode method_2_code 8 = .ok (.iload_n 0, 1) := by decide +kernel
theorem own_d1_9 : decode method_2_code 9 = .ok (.iconst 1, 1) := by decide +kernel
theorem own_d1_10 : decode method_2_code 10 = .ok (.if_icmp .ne 7, 3) := by decide +kernel
theorem own_d1_13 : decode method_2_code 13 = .ok (.getstatic 13, 3) := by decide +kernel
theorem own_d1_16 : decode method_2_code 16 = .ok (.areturn, 1) := by decide +kernel
theorem own_d1_17 : decode method_2_code 17 = .ok (.iload_n 0, 1) := by decide +kernel
theorem own_d1_18 : decode method_2_code 18 = .ok (.iconst 2, 1) := by decide +kernel
theorem own_d1_19 : decode method_2_code 19 = .ok (.if_icmp .ne 7, 3) := by decide +kernel
theorem own_d1_22 : decode method_2_code 22 = .ok (.getstatic 16, 3) := by decide +kernel
theorem own_d1_25 : decode method_2_code 25 = .ok (.areturn, 1) := by decide +kernel
theorem own_d1_26 : decode method_2_code 26 = .ok (.iload_n 0, 1) := by decide +kernel
theorem own_d1_27 : decode method_2_code 27 = .ok (.iconst 3, 1) := by decide +kernel
theorem own_d1_28 : decode method_2_code 28 = .ok (.if_icmp .ne 7, 3) := by decide +kernel
theorem own_d1_31 : decode method_2_code 31 = .ok (.getstatic 19, 3) := by decide +kernel
theorem own_d1_34 : decode method_2_code 34 = .ok (.areturn, 1) := by decide +kernel
theorem own_d1_35 : decode method_2_code 35 = .ok (.getstatic 22, 3) := by decide +kernel
theorem own_d1_38 : decode method_2_code 38 = .ok (.areturn, 1) := by decide +kernel
theorem own_ef1 (m : MethodId) (x0 : Int32) : entryFrame m #[(.int x0)] 1 = mkF m 0 #[.val (.int x0)] [] := by first | (simp [entryFrame, mkF, argsToLocals, Value.category]; done) | rfl
set_option maxRecDepth 65536 in
set_option maxHeartbeats 40000000 in
theorem rm1 (l : Launch) (Z : State) (a0 : Array Value) (hw : ∀ d ∈ tables_1, d.before a0 Z = true) (ws : List Jvm.Cond) (p0 : Int32) (a_ALLOW : Addr) (a_ALLOW_LOG : Addr) (a_DENY : Addr) (a_DENY_LOG : Addr) (a_DEFER : Addr) (h0 : Heap) (n0 : Nat) (Z0 : n0 ≤ h0.size) (S_ALLOW : Sta Z h0 "com/example/portcullis/portcullis/Outcome" "ALLOW" "Lcom/example/portcullis/portcullis/Outcome;" (.ref a_ALLOW)) (S_ALLOW_LOG : Sta Z h0 "com/example/portcullis/portcullis/Outcome" "ALLOW_LOG" "Lcom/example/portcullis/portcullis/Outcome;" (.ref a_ALLOW_LOG)) (S_DENY : Sta Z h0 "com/example/portcullis/portcullis/Outcome" "DENY" "Lcom/example/portcullis/portcullis/Outcome;" (.ref a_DENY)) (S_DENY_LOG : Sta Z h0 "com/example/portcullis/portcullis/Outcome" "DENY_LOG" "Lcom/example/portcullis/portcullis/Outcome;" (.ref a_DENY_LOG)) (S_DEFER : Sta Z h0 "com/example/portcullis/portcullis/Outcome" "DEFER" "Lcom/example/portcullis/portcullis/Outcome;" (.ref a_DEFER)) :
    MetFree l (⟨"com/example/portcullis/portcullis/OutcomeIsLoggedPinLaw", "pick", "(I)Lcom/example/portcullis/portcullis/Outcome;"⟩ : MethodName) (head1 (Jvm.Cond.code (⟨"com/example/portcullis/portcullis/OutcomeIsLoggedPinLaw", "pick", "(I)Lcom/example/portcullis/portcullis/Outcome;"⟩ : MethodName) method_2_code 1 (some (.object "com/example/portcullis/portcullis/Outcome")) :: ws) ({ frames := 0, cells := 0, slots := 0, locals := 0 } : Room)) (fun a U => a = #[(.int p0)] ∧ Z.Warmed39 U.vm ∧ U.heap = h0) (fun _ _ _ _ _ => True) (fun _ U o U' => ∃ v L, o = .returned v ∧ (QPure n0 h0 (.ref (own_F1 p0 a_ALLOW a_ALLOW_LOG a_DENY a_DENY_LOG a_DEFER))) v U'.heap L ∧ FrameEnd U o U' L ({ frames := 0, cells := 0, slots := 0, locals := 0 } : Room).cells ({ frames := 0, cells := 0, slots := 0, locals := 0 } : Room).slots) := by
  refine MetFree.of_bodySF (plainFor_of_name own_pn0) hisR ?_
  intro p e s m args below meth c s₁ Bd hml0 hP hK
  obtain ⟨rfl, hZ, hh⟩ := hP
  have hx := Bd.exec
  have hby := Bd.bytes
  have hml : c.maxLocals = 1 := hml0
  have hown : s.vm.findClass "com/example/portcullis/portcullis/OutcomeIsLoggedPinLaw" = some m.cls := findClass_of_methodNamed Bd.named
  have hnm := (name_of_methodNamed Bd.named Bd.method).1
  have X0 : Stand p l e ({ frames := 0, cells := 0, slots := 0, locals := 0 } : Room) s m #[(.int p0)] below meth c s₁ [] 0 0 := Stand.of_body Bd
  have e0 : s₁.heap = h0 := by rw [← hh, Bd.state]; rfl
  have N0 := Fr.nil n0
  suffices H : Run p.tables e below (FinR s ({ frames := 0, cells := 0, slots := 0, locals := 0 } : Room).cells ({ frames := 0, cells := 0, slots := 0, locals := 0 } : Room).slots (QPure n0 h0 (.ref (own_F1 p0 a_ALLOW a_ALLOW_LOG a_DENY a_DENY_LOG a_DEFER)))) s₁ (mkF m 0 #[.val (.int p0)] []) by
    obtain ⟨s₂, o, k1, k2, k3, k4⟩ := H
    exact ⟨s₂, o, castTop (own_ef1 m p0) k1, k2, k3, k4⟩
  obtain ⟨r, hr⟩ : ∃ r, r = own_F1 p0 a_ALLOW a_ALLOW_LOG a_DENY a_DENY_LOG a_DEFER := ⟨_, rfl⟩
  rw [← hr]
  rw [own_F1] at hr
  refine Run.iloadN (pc' := 1) X0 hx (hb hby own_d1_0) rfl rfl ?_
  by_cases hc1 : p0 = (0 : Int32)
  · rw [if_pos hc1] at hr
    refine Run.ifNo (pc' := 4) X0 hx (hb hby own_d1_1) ((if0 _ _).trans (teq hc1).2) rfl ?_
    obtain ⟨T1, X1, e1, st1⟩ := getS2 X0 hx hZ hown (host := "") (Or.inl (hw _ (List.mem_of_getElem? (i := 5) rfl))) Via.refl e0 S_ALLOW (g := (mkF m 4 #[.val (.int p0)] [])) rfl (hb hby own_d1_4)
    refine Run.back (g' := (mkF m 7 #[.val (.int p0)] [(.ref a_ALLOW)])) st1 ?_
    exact Run.retRef X1 hx Bd.notSynchronized Bd.returns rfl rfl (hb hby own_d1_7) ⟨by rw [hr], N0, e1⟩ (by decide) (by decide)
  · rw [if_neg hc1] at hr
    refine Run.ifYes (pc' := 8) X0 hx (hb hby own_d1_1) ((if0 _ _).trans (feq hc1).2) (by decide) (by decide) ?_
    refine Run.iloadN (pc' := 9) X0 hx (hb hby own_d1_8) rfl rfl ?_
    refine Run.iconst (pc' := 10) (v := (1 : Int32)) X0 hx (hb hby own_d1_9) rfl rfl ?_
    by_cases hc10 : p0 = (1 : Int32)
    · rw [if_pos hc10] at hr
      refine Run.icmpNo (pc' := 13) X0 hx (hb hby own_d1_10) (teq hc10).2 rfl ?_
      obtain ⟨T2, X2, e2, st2⟩ := getS2 X0 hx hZ hown (host := "") (Or.inl (hw _ (List.mem_of_getElem? (i := 63) rfl))) Via.refl e0 S_ALLOW_LOG (g := (mkF m 13 #[.val (.int p0)] [])) rfl (hb hby own_d1_13)
      refine Run.back (g' := (mkF m 16 #[.val (.int p0)] [(.ref a_ALLOW_LOG)])) st2 ?_
      exact Run.retRef X2 hx Bd.notSynchronized Bd.returns rfl rfl (hb hby own_d1_16) ⟨by rw [hr], N0, e2⟩ (by decide) (by decide)
    · rw [if_neg hc10] at hr
      refine Run.icmpYes (pc' := 17) X0 hx (hb hby own_d1_10) (feq hc10).2 (by decide) (by decide) ?_
      refine Run.iloadN (pc' := 18) X0 hx (hb hby own_d1_17) rfl rfl ?_
      refine Run.iconst (pc' := 19) (v := (2 : Int32)) X0 hx (hb hby own_d1_18) rfl rfl ?_
      by_cases hc19 : p0 = (2 : Int32)
      · rw [if_pos hc19] at hr
        refine Run.icmpNo (pc' := 22) X0 hx (hb hby own_d1_19) (teq hc19).2 rfl ?_
        obtain ⟨T3, X3, e3, st3⟩ := getS2 X0 hx hZ hown (host := "") (Or.inl (hw _ (List.mem_of_getElem? (i := 66) rfl))) Via.refl e0 S_DENY (g := (mkF m 22 #[.val (.int p0)] [])) rfl (hb hby own_d1_22)
        refine Run.back (g' := (mkF m 25 #[.val (.int p0)] [(.ref a_DENY)])) st3 ?_
        exact Run.retRef X3 hx Bd.notSynchronized Bd.returns rfl rfl (hb hby own_d1_25) ⟨by rw [hr], N0, e3⟩ (by decide) (by decide)
      · rw [if_neg hc19] at hr
        refine Run.icmpYes (pc' := 26) X0 hx (hb hby own_d1_19) (feq hc19).2 (by decide) (by decide) ?_
        refine Run.iloadN (pc' := 27) X0 hx (hb hby own_d1_26) rfl rfl ?_
        refine Run.iconst (pc' := 28) (v := (3 : Int32)) X0 hx (hb hby own_d1_27) rfl rfl ?_
        by_cases hc28 : p0 = (3 : Int32)
        · rw [if_pos hc28] at hr
          refine Run.icmpNo (pc' := 31) X0 hx (hb hby own_d1_28) (teq hc28).2 rfl ?_
          obtain ⟨T4, X4, e4, st4⟩ := getS2 X0 hx hZ hown (host := "") (Or.inl (hw _ (List.mem_of_getElem? (i := 62) rfl))) Via.refl e0 S_DENY_LOG (g := (mkF m 31 #[.val (.int p0)] [])) rfl (hb hby own_d1_31)
          refine Run.back (g' := (mkF m 34 #[.val (.int p0)] [(.ref a_DENY_LOG)])) st4 ?_
          exact Run.retRef X4 hx Bd.notSynchronized Bd.returns rfl rfl (hb hby own_d1_34) ⟨by rw [hr], N0, e4⟩ (by decide) (by decide)
        · rw [if_neg hc28] at hr
          refine Run.icmpYes (pc' := 35) X0 hx (hb hby own_d1_28) (feq hc28).2 (by decide) (by decide) ?_
          obtain ⟨T5, X5, e5, st5⟩ := getS2 X0 hx hZ hown (host := "") (Or.inl (hw _ (List.mem_of_getElem? (i := 64) rfl))) Via.refl e0 S_DEFER (g := (mkF m 35 #[.val (.int p0)] [])) rfl (hb hby own_d1_35)
          refine Run.back (g' := (mkF m 38 #[.val (.int p0)] [(.ref a_DEFER)])) st5 ?_
          exact Run.retRef X5 hx Bd.notSynchronized Bd.returns rfl rfl (hb hby own_d1_38) ⟨by rw [hr], N0, e5⟩ (by decide) (by decide)
def own_F2 (o0 : Addr) (w : Addr) : Addr := w
theorem own_d2_0 : decode prog_9_method_5_code 0 = .ok (.aload_n 0, 1) := by decide +kernel
theorem own_d2_1 : decode prog_9_method_5_code 1 = .ok (.getfield 38, 3) := by decide +kernel
theorem own_d2_4 : decode prog_9_method_5_code 4 = .ok (.areturn, 1) := by decide +kernel
theorem own_ef2 (m : MethodId) (x0 : Addr) : entryFrame m #[(.ref x0)] 1 = mkF m 0 #[.val (.ref x0)] [] := by first | (simp [entryFrame, mkF, argsToLocals, Value.category]; done) | rfl
set_option maxRecDepth 65536 in
set_option maxHeartbeats 40000000 in
theorem rm2 (l : Launch) (Z : State) (a0 : Array Value) (hw : ∀ d ∈ tables_1, d.before a0 Z = true) (ws : List Jvm.Cond) (o0 : Addr) (w : Addr) (h0 : Heap) (n0 : Nat) (Z0 : n0 ≤ h0.size) (F_o : Fld Z h0 o0 "com/example/portcullis/portcullis/Outcome" "word" "Ljava/lang/String;" (.ref w)) :
    MetFree l (⟨"com/example/portcullis/portcullis/Outcome", "word", "()Ljava/lang/String;"⟩ : MethodName) (head1 (Jvm.Cond.code (⟨"com/example/portcullis/portcullis/Outcome", "word", "()Ljava/lang/String;"⟩ : MethodName) prog_9_method_5_code 1 (some (.object "java/lang/String")) :: ws) ({ frames := 0, cells := 0, slots := 0, locals := 0 } : Room)) (fun a U => a = #[(.ref o0)] ∧ Z.Warmed39 U.vm ∧ U.heap = h0) (fun _ _ _ _ _ => True) (fun _ U o U' => ∃ v L, o = .returned v ∧ (QPure n0 h0 (.ref (own_F2 o0 w))) v U'.heap L ∧ FrameEnd U o U' L ({ frames := 0, cells := 0, slots := 0, locals := 0 } : Room).cells ({ frames := 0, cells := 0, slots := 0, locals := 0 } : Room).slots) := by
  refine MetFree.of_bodySF (plainFor_of_name own_pn1) hisR ?_
  intro p e s m args below meth c s₁ Bd hml0 hP hK
  obtain ⟨rfl, hZ, hh⟩ := hP
  have hx := Bd.exec
  have hby := Bd.bytes
  have hml : c.maxLocals = 1 := hml0
  have hown : s.vm.findClass "com/example/portcullis/portcullis/Outcome" = some m.cls := findClass_of_methodNamed Bd.named
  have hnm := (name_of_methodNamed Bd.named Bd.method).1
  have X0 : Stand p l e ({ frames := 0, cells := 0, slots := 0, locals := 0 } : Room) s m #[(.ref o0)] below meth c s₁ [] 0 0 := Stand.of_body Bd
  have e0 : s₁.heap = h0 := by rw [← hh, Bd.state]; rfl
  have N0 := Fr.nil n0
  suffices H : Run p.tables e below (FinR s ({ frames := 0, cells := 0, slots := 0, locals := 0 } : Room).cells ({ frames := 0, cells := 0, slots := 0, locals := 0 } : Room).slots (QPure n0 h0 (.ref (own_F2 o0 w)))) s₁ (mkF m 0 #[.val (.ref o0)] []) by
    obtain ⟨s₂, o, k1, k2, k3, k4⟩ := H
    exact ⟨s₂, o, castTop (own_ef2 m o0) k1, k2, k3, k4⟩
  obtain ⟨r, hr⟩ : ∃ r, r = own_F2 o0 w := ⟨_, rfl⟩
  rw [← hr]
  rw [own_F2] at hr
  refine Run.aloadN (pc' := 1) X0 hx (hb hby own_d2_0) rfl rfl ?_
  obtain ⟨T1, X1, e1, st1⟩ := getF X0 hx hZ hown (host := "") (Or.inl (hw _ (List.mem_of_getElem? (i := 13) rfl))) Via.refl e0 F_o (g := (mkF m 1 #[.val (.ref o0)] [(.ref o0)])) rfl rfl (hb hby own_d2_1)
  refine Run.back (g' := (mkF m 4 #[.val (.ref o0)] [(.ref w)])) st1 ?_
  exact Run.retRef X1 hx Bd.notSynchronized Bd.returns rfl rfl (hb hby own_d2_4) ⟨by rw [hr], N0, e1⟩ (by decide) (by decide)
def own_f3_14 (o0 : Addr) : Int32 := (0 : Int32)
def own_F3 (o0 : Addr) : Int32 := (own_f3_14 o0)
theorem own_d3_0 : decode jdk_42_method_152_code 0 = .ok (.getstatic 38, 3) := by decide +kernel
theorem own_d3_3 : decode jdk_42_method_152_code 3 = .ok (.ifCond .eq 10, 3) := by decide +kernel
theorem own_d3_6 : decode jdk_42_method_152_code 6 = .ok (.aload_n 0, 1) := by decide +kernel
theorem own_d3_7 : decode jdk_42_method_152_code 7 = .ok (.getfield 15, 3) := by decide +kernel
theorem own_d3_10 : decode jdk_42_method_152_code 10 = .ok (.goto 4, 3) := by decide +kernel
theorem own_d3_14 : decode jdk_42_method_152_code 14 = .ok (.ireturn, 1) := by decide +kernel
theorem own_ef3 (m : MethodId) (x0 : Addr) : entryFrame m #[(.ref x0)] 1 = mkF m 0 #[.val (.ref x0)] [] := by first | (simp [entryFrame, mkF, argsToLocals, Value.category]; done) | rfl
set_option maxRecDepth 65536 in
set_option maxHeartbeats 40000000 in
theorem rm3 (l : Launch) (Z : State) (a0 : Array Value) (hw : ∀ d ∈ tables_1, d.before a0 Z = true) (ws : List Jvm.Cond) (o0 : Addr) (cs : Int32) (h0 : Heap) (n0 : Nat) (Z0 : n0 ≤ h0.size) (F_c : Fld Z h0 o0 "java/lang/String" "coder" "B" (.int (0 : Int32))) (S_cs : Sta Z h0 "java/lang/String" "COMPACT_STRINGS" "Z" (.int cs)) (hcs : ¬ cs = (0 : Int32)) :
    MetFree l (⟨"java/lang/String", "coder", "()B"⟩ : MethodName) (head1 (Jvm.Cond.code (⟨"java/lang/String", "coder", "()B"⟩ : MethodName) jdk_42_method_152_code 1 (some .byte) :: ws) ({ frames := 0, cells := 0, slots := 0, locals := 0 } : Room)) (fun a U => a = #[(.ref o0)] ∧ Z.Warmed39 U.vm ∧ U.heap = h0) (fun _ _ _ _ _ => True) (fun _ U o U' => ∃ v L, o = .returned v ∧ (QPure n0 h0 (.int (own_F3 o0))) v U'.heap L ∧ FrameEnd U o U' L ({ frames := 0, cells := 0, slots := 0, locals := 0 } : Room).cells ({ frames := 0, cells := 0, slots := 0, locals := 0 } : Room).slots) := by
  refine MetFree.of_bodySF (plainFor_of_name own_pn2) hisR ?_
  intro p e s m args below meth c s₁ Bd hml0 hP hK
  obtain ⟨rfl, hZ, hh⟩ := hP
  have hx := Bd.exec
  have hby := Bd.bytes
  have hml : c.maxLocals = 1 := hml0
  have hown : s.vm.findClass "java/lang/String" = some m.cls := findClass_of_methodNamed Bd.named
  have hnm := (name_of_methodNamed Bd.named Bd.method).1
  have X0 : Stand p l e ({ frames := 0, cells := 0, slots := 0, locals := 0 } : Room) s m #[(.ref o0)] below meth c s₁ [] 0 0 := Stand.of_body Bd
  have e0 : s₁.heap = h0 := by rw [← hh, Bd.state]; rfl
  have N0 := Fr.nil n0
  suffices H : Run p.tables e below (FinR s ({ frames := 0, cells := 0, slots := 0, locals := 0 } : Room).cells ({ frames := 0, cells := 0, slots := 0, locals := 0 } : Room).slots (QPure n0 h0 (.int (own_F3 o0)))) s₁ (mkF m 0 #[.val (.ref o0)] []) by
    obtain ⟨s₂, o, k1, k2, k3, k4⟩ := H
    exact ⟨s₂, o, castTop (own_ef3 m o0) k1, k2, k3, k4⟩
  obtain ⟨r, hr⟩ : ∃ r, r = own_F3 o0 := ⟨_, rfl⟩
  rw [← hr]
  have J14 : ∀  (r : Int32), r = (own_f3_14 o0) → ∀ (T : State) (locs : List Loc), Stand p l e ({ frames := 0, cells := 0, slots := 0, locals := 0 } : Room) s m #[(.ref o0)] below meth c T locs 0 0 → T.heap = h0 → Fr n0 locs → Run p.tables e below (FinR s ({ frames := 0, cells := 0, slots := 0, locals := 0 } : Room).cells ({ frames := 0, cells := 0, slots := 0, locals := 0 } : Room).slots (QPure n0 h0 (.int r))) T (mkF m 14 #[.val (.ref o0)] [(.int (0 : Int32))]) := by
    clear hr
    intro  r hr T locs X eT N
    rw [own_f3_14] at hr
    exact Run.retSmall X hx (t := .byte) (z' := (0 : Int32)) Bd.notSynchronized Bd.returns (by simp) rfl (hb hby own_d3_14) ⟨by rw [hr], N, eT⟩ (by decide) (by decide)
  rw [own_F3] at hr
  obtain ⟨T1, X1, e1, st1⟩ := getS2 X0 hx hZ hown (host := "") (Or.inl (hw _ (List.mem_of_getElem? (i := 28) rfl))) Via.refl e0 S_cs (g := (mkF m 0 #[.val (.ref o0)] [])) rfl (hb hby own_d3_0)
  refine Run.back (g' := (mkF m 3 #[.val (.ref o0)] [(.int cs)])) st1 ?_
  refine Run.ifNo (pc' := 6) X1 hx (hb hby own_d3_3) ((if0 _ _).trans (feq hcs).1) rfl ?_
  refine Run.aloadN (pc' := 7) X1 hx (hb hby own_d3_6) rfl rfl ?_
  obtain ⟨T2, X2, e2, st2⟩ := getF X1 hx hZ hown (host := "") (Or.inl (hw _ (List.mem_of_getElem? (i := 29) rfl))) Via.refl e1 F_c (g := (mkF m 7 #[.val (.ref o0)] [(.ref o0)])) rfl rfl (hb hby own_d3_7)
  refine Run.back (g' := (mkF m 10 #[.val (.ref o0)] [(.int (0 : Int32))])) st2 ?_
  refine Run.goto (pc' := 14) X2 hx (hb hby own_d3_10) (by decide) (by decide) ?_
  exact J14  _ hr _ _ X2 e2 N0
def own_F4 (o0 : Addr) (n : Int32) : Int32 := (n >>> ((0 : Int32) &&& 31))
theorem own_d4_0 : decode jdk_42_method_54_code 0 = .ok (.aload_n 0, 1) := by decide +kernel
theorem own_d4_1 : decode jdk_42_method_54_code 1 = .ok (.getfield 9, 3) := by decide +kernel
theorem own_d4_4 : decode jdk_42_method_54_code 4 = .ok (.arraylength, 1) := by decide +kernel
theorem own_d4_5 : decode jdk_42_method_54_code 5 = .ok (.aload_n 0, 1) := by decide +kernel
theorem own_d4_6 : decode jdk_42_method_54_code 6 = .ok (.invokevirtual 335, 3) := by decide +kernel
theorem own_d4_9 : decode jdk_42_method_54_code 9 = .ok (.ishr, 1) := by decide +kernel
theorem own_d4_10 : decode jdk_42_method_54_code 10 = .ok (.ireturn, 1) := by decide +kernel
theorem own_ef4 (m : MethodId) (x0 : Addr) : entryFrame m #[(.ref x0)] 1 = mkF m 0 #[.val (.ref x0)] [] := by first | (simp [entryFrame, mkF, argsToLocals, Value.category]; done) | rfl
set_option maxRecDepth 65536 in
set_option maxHeartbeats 40000000 in
theorem rm4 (l : Launch) (Z : State) (a0 : Array Value) (hw : ∀ d ∈ tables_1, d.before a0 Z = true) (ws : List Jvm.Cond) (o0 : Addr) (cs : Int32) (tv : Addr) (f : Int32 → Int32) (n : Int32) (h0 : Heap) (n0 : Nat) (Z0 : n0 ≤ h0.size) (E_o : Exa Z h0 o0 "java/lang/String") (F_v : Fld Z h0 o0 "java/lang/String" "value" "[B" (.ref tv)) (A_v : Ints Z h0 tv .byte n f) (F_c : Fld Z h0 o0 "java/lang/String" "coder" "B" (.int (0 : Int32))) (S_cs : Sta Z h0 "java/lang/String" "COMPACT_STRINGS" "Z" (.int cs)) (hcs : ¬ cs = (0 : Int32)) :
    MetFree l (⟨"java/lang/String", "length", "()I"⟩ : MethodName) (head1 (Jvm.Cond.code (⟨"java/lang/String", "length", "()I"⟩ : MethodName) jdk_42_method_54_code 1 (some .int) :: ws) ({ frames := 1, cells := 0, slots := 0, locals := 13 } : Room)) (fun a U => a = #[(.ref o0)] ∧ Z.Warmed39 U.vm ∧ U.heap = h0) (fun _ _ _ _ _ => True) (fun _ U o U' => ∃ v L, o = .returned v ∧ (QPure n0 h0 (.int (own_F4 o0 n))) v U'.heap L ∧ FrameEnd U o U' L ({ frames := 1, cells := 0, slots := 0, locals := 13 } : Room).cells ({ frames := 1, cells := 0, slots := 0, locals := 13 } : Room).slots) := by
  refine MetFree.of_bodySF (plainFor_of_name own_pn2) hisR ?_
  intro p e s m args below meth c s₁ Bd hml0 hP hK
  obtain ⟨rfl, hZ, hh⟩ := hP
  have hx := Bd.exec
  have hby := Bd.bytes
  have hml : c.maxLocals = 1 := hml0
  have hown : s.vm.findClass "java/lang/String" = some m.cls := findClass_of_methodNamed Bd.named
  have hnm := (name_of_methodNamed Bd.named Bd.method).1
  have X0 : Stand p l e ({ frames := 1, cells := 0, slots := 0, locals := 13 } : Room) s m #[(.ref o0)] below meth c s₁ [] 0 0 := Stand.of_body Bd
  have e0 : s₁.heap = h0 := by rw [← hh, Bd.state]; rfl
  have N0 := Fr.nil n0
  suffices H : Run p.tables e below (FinR s ({ frames := 1, cells := 0, slots := 0, locals := 13 } : Room).cells ({ frames := 1, cells := 0, slots := 0, locals := 13 } : Room).slots (QPure n0 h0 (.int (own_F4 o0 n)))) s₁ (mkF m 0 #[.val (.ref o0)] []) by
    obtain ⟨s₂, o, k1, k2, k3, k4⟩ := H
    exact ⟨s₂, o, castTop (own_ef4 m o0) k1, k2, k3, k4⟩
  obtain ⟨r, hr⟩ : ∃ r, r = own_F4 o0 n := ⟨_, rfl⟩
  rw [← hr]
  rw [own_F4] at hr
  refine Run.aloadN (pc' := 1) X0 hx (hb hby own_d4_0) rfl rfl ?_
  obtain ⟨T1, X1, e1, st1⟩ := getF X0 hx hZ hown (host := "") (Or.inl (hw _ (List.mem_of_getElem? (i := 21) rfl))) Via.refl e0 F_v (g := (mkF m 1 #[.val (.ref o0)] [(.ref o0)])) rfl rfl (hb hby own_d4_1)
  refine Run.back (g' := (mkF m 4 #[.val (.ref o0)] [(.ref tv)])) st1 ?_
  refine Run.arraylength (pc' := 5) X1 hx hZ e1 A_v (hb hby own_d4_4) rfl ?_
  refine Run.aloadN (pc' := 6) X1 hx (hb hby own_d4_5) rfl rfl ?_
  obtain ⟨T2, L2, v2, X2, Q2, st2⟩ := callVirtual X1 hx (y := (⟨"java/lang/String", "coder", "()B"⟩ : MethodName)) (z := (⟨"java/lang/String", "coder", "()B"⟩ : MethodName)) (C := "java/lang/String") (a := o0) (Ls := #[.val (.ref o0)]) (rest := [(.int n)]) (W := 1) (argsL := []) hZ hown (hw _ (List.mem_of_getElem? (i := 23) rfl)) (hw _ (List.mem_of_getElem? (i := 24) rfl)) (notFace_of_selects (args := #[]) (mvT hZ (hw _ (List.mem_of_getElem? (i := 26) rfl)))) (hw _ (List.mem_of_getElem? (i := 26) rfl)) (hw _ (List.mem_of_getElem? (i := 25) rfl)) (hw _ (List.mem_of_getElem? (i := 19) rfl)) (hw _ (List.mem_of_getElem? (i := 27) rfl)) (by decide) e1 E_o (rm3 l Z a0 hw [] o0 cs h0 n0 Z0 F_c S_cs hcs) (hb hby own_d4_6) (lenOf own_pd0 rfl) (by decide) (by decide) (by rw [hml]; rfl) (Nat.le_of_eq rfl) (by decide) (by decide)
  obtain ⟨hv2, M2, e2⟩ := Q2
  rw [show (own_F3 o0) = (0 : Int32) from rfl] at hv2
  subst hv2
  have N2 := Fr.app N0 M2
  refine Run.back (g' := (mkF m 9 #[.val (.ref o0)] [(.int (0 : Int32)), (.int n)])) st2 ?_
  refine Run.ishr (pc' := 10) X2 hx (hb hby own_d4_9) rfl ?_
  exact Run.retInt X2 hx Bd.notSynchronized Bd.returns (hb hby own_d4_10) ⟨by rw [hr], N2, e2⟩ (by decide) (by decide)
def own_f5_18 (o0 : Addr) : Int32 := (1 : Int32)
def own_F5 (o0 : Addr) : Int32 := (own_f5_18 o0)
theorem own_d5_0 : decode jdk_42_method_154_code 0 = .ok (.getstatic 38, 3) := by decide +kernel
theorem own_d5_3 : decode jdk_42_method_154_code 3 = .ok (.ifCond .eq 14, 3) := by decide +kernel
theorem own_d5_6 : decode jdk_42_method_154_code 6 = .ok (.aload_n 0, 1) := by decide +kernel
theorem own_d5_7 : decode jdk_42_method_154_code 7 = .ok (.getfield 15, 3) := by decide +kernel
theorem own_d5_10 : decode jdk_42_method_154_code 10 = .ok (.ifCond .ne 7, 3) := by decide +kernel
theorem own_d5_13 : decode jdk_42_method_154_code 13 = .ok (.iconst 1, 1) := by decide +kernel
theorem own_d5_14 : decode jdk_42_method_154_code 14 = .ok (.goto 4, 3) := by decide +kernel
theorem own_d5_18 : decode jdk_42_method_154_code 18 = .ok (.ireturn, 1) := by decide +kernel
theorem own_ef5 (m : MethodId) (x0 : Addr) : entryFrame m #[(.ref x0)] 1 = mkF m 0 #[.val (.ref x0)] [] := by first | (simp [entryFrame, mkF, argsToLocals, Value.category]; done) | rfl
set_option maxRecDepth 65536 in
set_option maxHeartbeats 40000000 in
theorem rm5 (l : Launch) (Z : State) (a0 : Array Value) (hw : ∀ d ∈ tables_1, d.before a0 Z = true) (ws : List Jvm.Cond) (o0 : Addr) (cs : Int32) (h0 : Heap) (n0 : Nat) (Z0 : n0 ≤ h0.size) (F_c : Fld Z h0 o0 "java/lang/String" "coder" "B" (.int (0 : Int32))) (S_cs : Sta Z h0 "java/lang/String" "COMPACT_STRINGS" "Z" (.int cs)) (hcs : ¬ cs = (0 : Int32)) :
    MetFree l (⟨"java/lang/String", "isLatin1", "()Z"⟩ : MethodName) (head1 (Jvm.Cond.code (⟨"java/lang/String", "isLatin1", "()Z"⟩ : MethodName) jdk_42_method_154_code 1 (some .boolean) :: ws) ({ frames := 0, cells := 0, slots := 0, locals := 0 } : Room)) (fun a U => a = #[(.ref o0)] ∧ Z.Warmed39 U.vm ∧ U.heap = h0) (fun _ _ _ _ _ => True) (fun _ U o U' => ∃ v L, o = .returned v ∧ (QPure n0 h0 (.int (own_F5 o0))) v U'.heap L ∧ FrameEnd U o U' L ({ frames := 0, cells := 0, slots := 0, locals := 0 } : Room).cells ({ frames := 0, cells := 0, slots := 0, locals := 0 } : Room).slots) := by
  refine MetFree.of_bodySF (plainFor_of_name own_pn2) hisR ?_
  intro p e s m args below meth c s₁ Bd hml0 hP hK
  obtain ⟨rfl, hZ, hh⟩ := hP
  have hx := Bd.exec
  have hby := Bd.bytes
  have hml : c.maxLocals = 1 := hml0
  have hown : s.vm.findClass "java/lang/String" = some m.cls := findClass_of_methodNamed Bd.named
  have hnm := (name_of_methodNamed Bd.named Bd.method).1
  have X0 : Stand p l e ({ frames := 0, cells := 0, slots := 0, locals := 0 } : Room) s m #[(.ref o0)] below meth c s₁ [] 0 0 := Stand.of_body Bd
  have e0 : s₁.heap = h0 := by rw [← hh, Bd.state]; rfl
  have N0 := Fr.nil n0
  suffices H : Run p.tables e below (FinR s ({ frames := 0, cells := 0, slots := 0, locals := 0 } : Room).cells ({ frames := 0, cells := 0, slots := 0, locals := 0 } : Room).slots (QPure n0 h0 (.int (own_F5 o0)))) s₁ (mkF m 0 #[.val (.ref o0)] []) by
    obtain ⟨s₂, o, k1, k2, k3, k4⟩ := H
    exact ⟨s₂, o, castTop (own_ef5 m o0) k1, k2, k3, k4⟩
  obtain ⟨r, hr⟩ : ∃ r, r = own_F5 o0 := ⟨_, rfl⟩
  rw [← hr]
  have J18 : ∀  (r : Int32), r = (own_f5_18 o0) → ∀ (T : State) (locs : List Loc), Stand p l e ({ frames := 0, cells := 0, slots := 0, locals := 0 } : Room) s m #[(.ref o0)] below meth c T locs 0 0 → T.heap = h0 → Fr n0 locs → Run p.tables e below (FinR s ({ frames := 0, cells := 0, slots := 0, locals := 0 } : Room).cells ({ frames := 0, cells := 0, slots := 0, locals := 0 } : Room).slots (QPure n0 h0 (.int r))) T (mkF m 18 #[.val (.ref o0)] [(.int (1 : Int32))]) := by
    clear hr
    intro  r hr T locs X eT N
    rw [own_f5_18] at hr
    exact Run.retSmall X hx (t := .boolean) (z' := (1 : Int32)) Bd.notSynchronized Bd.returns (by simp) rfl (hb hby own_d5_18) ⟨by rw [hr], N, eT⟩ (by decide) (by decide)
  rw [own_F5] at hr
  obtain ⟨T1, X1, e1, st1⟩ := getS2 X0 hx hZ hown (host := "") (Or.inl (hw _ (List.mem_of_getElem? (i := 28) rfl))) Via.refl e0 S_cs (g := (mkF m 0 #[.val (.ref o0)] [])) rfl (hb hby own_d5_0)
  refine Run.back (g' := (mkF m 3 #[.val (.ref o0)] [(.int cs)])) st1 ?_
  refine Run.ifNo (pc' := 6) X1 hx (hb hby own_d5_3) ((if0 _ _).trans (feq hcs).1) rfl ?_
  refine Run.aloadN (pc' := 7) X1 hx (hb hby own_d5_6) rfl rfl ?_
  obtain ⟨T2, X2, e2, st2⟩ := getF X1 hx hZ hown (host := "") (Or.inl (hw _ (List.mem_of_getElem? (i := 29) rfl))) Via.refl e1 F_c (g := (mkF m 7 #[.val (.ref o0)] [(.ref o0)])) rfl rfl (hb hby own_d5_7)
  refine Run.back (g' := (mkF m 10 #[.val (.ref o0)] [(.int (0 : Int32))])) st2 ?_
  refine Run.ifNo (pc' := 13) X2 hx (hb hby own_d5_10) ((if0 _ _).trans (teq rfl).2) rfl ?_
  refine Run.iconst (pc' := 14) (v := (1 : Int32)) X2 hx (hb hby own_d5_13) rfl rfl ?_
  refine Run.goto (pc' := 18) X2 hx (hb hby own_d5_14) (by decide) (by decide) ?_
  exact J18  _ hr _ _ X2 e2 N0
def own_F6 (p0 : Int32) (p1 : Int32) : Int32 := p0
theorem own_d6_0 : decode jdk_41_method_11_code 0 = .ok (.iload_n 0, 1) := by decide +kernel
theorem own_d6_1 : decode jdk_41_method_11_code 1 = .ok (.ifCond .lt 8, 3) := by decide +kernel
theorem own_d6_4 : decode jdk_41_method_11_code 4 = .ok (.iload_n 0, 1) := by decide +kernel
theorem own_d6_5 : decode jdk_41_method_11_code 5 = .ok (.iload_n 1, 1) := by decide +kernel
theorem own_d6_6 : decode jdk_41_method_11_code 6 = .ok (.if_icmp .lt 10, 3) := by decide +kernel
theorem own_d6_16 : decode jdk_41_method_11_code 16 = .ok (.iload_n 0, 1) := by decide +kernel
theorem own_d6_17 : decode jdk_41_method_11_code 17 = .ok (.ireturn, 1) := by decide +kernel
theorem own_ef6 (m : MethodId) (x0 : Int32) (x1 : Int32) : entryFrame m #[(.int x0), (.int x1), .null] 3 = mkF m 0 #[.val (.int x0), .val (.int x1), .val .null] [] := by first | (simp [entryFrame, mkF, argsToLocals, Value.category]; done) | rfl
set_option maxRecDepth 65536 in
set_option maxHeartbeats 40000000 in
theorem rm6 (l : Launch) (Z : State) (a0 : Array Value) (hw : ∀ d ∈ tables_1, d.before a0 Z = true) (ws : List Jvm.Cond) (p0 : Int32) (p1 : Int32) (h0 : Heap) (n0 : Nat) (Z0 : n0 ≤ h0.size) (hk0 : ¬ p0 < (0 : Int32)) (hk1 : p0 < p1) :
    MetFree l (⟨"jdk/internal/util/Preconditions", "checkIndex", "(IILjava/util/function/BiFunction;)I"⟩ : MethodName) (head1 (Jvm.Cond.code (⟨"jdk/internal/util/Preconditions", "checkIndex", "(IILjava/util/function/BiFunction;)I"⟩ : MethodName) jdk_41_method_11_code 3 (some .int) :: ws) ({ frames := 0, cells := 0, slots := 0, locals := 0 } : Room)) (fun a U => a = #[(.int p0), (.int p1), .null] ∧ Z.Warmed39 U.vm ∧ U.heap = h0) (fun _ _ _ _ _ => True) (fun _ U o U' => ∃ v L, o = .returned v ∧ (QPure n0 h0 (.int (own_F6 p0 p1))) v U'.heap L ∧ FrameEnd U o U' L ({ frames := 0, cells := 0, slots := 0, locals := 0 } : Room).cells ({ frames := 0, cells := 0, slots := 0, locals := 0 } : Room).slots) := by
  refine MetFree.of_bodySF (plainFor_of_name own_pn3) hisR ?_
  intro p e s m args below meth c s₁ Bd hml0 hP hK
  obtain ⟨rfl, hZ, hh⟩ := hP
  have hx := Bd.exec
  have hby := Bd.bytes
  have hml : c.maxLocals = 3 := hml0
  have hown : s.vm.findClass "jdk/internal/util/Preconditions" = some m.cls := findClass_of_methodNamed Bd.named
  have hnm := (name_of_methodNamed Bd.named Bd.method).1
  have X0 : Stand p l e ({ frames := 0, cells := 0, slots := 0, locals := 0 } : Room) s m #[(.int p0), (.int p1), .null] below meth c s₁ [] 0 0 := Stand.of_body Bd
  have e0 : s₁.heap = h0 := by rw [← hh, Bd.state]; rfl
  have N0 := Fr.nil n0
  suffices H : Run p.tables e below (FinR s ({ frames := 0, cells := 0, slots := 0, locals := 0 } : Room).cells ({ frames := 0, cells := 0, slots := 0, locals := 0 } : Room).slots (QPure n0 h0 (.int (own_F6 p0 p1)))) s₁ (mkF m 0 #[.val (.int p0), .val (.int p1), .val .null] []) by
    obtain ⟨s₂, o, k1, k2, k3, k4⟩ := H
    exact ⟨s₂, o, castTop (own_ef6 m p0 p1) k1, k2, k3, k4⟩
  obtain ⟨r, hr⟩ : ∃ r, r = own_F6 p0 p1 := ⟨_, rfl⟩
  rw [← hr]
  rw [own_F6] at hr
  refine Run.iloadN (pc' := 1) X0 hx (hb hby own_d6_0) rfl rfl ?_
  refine Run.ifNo (pc' := 4) X0 hx (hb hby own_d6_1) ((if0 _ _).trans (flt hk0).1) rfl ?_
  refine Run.iloadN (pc' := 5) X0 hx (hb hby own_d6_4) rfl rfl ?_
  refine Run.iloadN (pc' := 6) X0 hx (hb hby own_d6_5) rfl rfl ?_
  refine Run.icmpYes (pc' := 16) X0 hx (hb hby own_d6_6) (tlt hk1).1 (by decide) (by decide) ?_
  refine Run.iloadN (pc' := 17) X0 hx (hb hby own_d6_16) rfl rfl ?_
  exact Run.retInt X0 hx Bd.notSynchronized Bd.returns (hb hby own_d6_17) ⟨by rw [hr], N0, e0⟩ (by decide) (by decide)
def own_F7 (p0 : Int32) (p1 : Int32) (o2 : Addr) : Int32 := p0
theorem own_d7_0 : decode jdk_41_method_11_code 0 = .ok (.iload_n 0, 1) := by decide +kernel
theorem own_d7_1 : decode jdk_41_method_11_code 1 = .ok (.ifCond .lt 8, 3) := by decide +kernel
theorem own_d7_4 : decode jdk_41_method_11_code 4 = .ok (.iload_n 0, 1) := by decide +kernel
theorem own_d7_5 : decode jdk_41_method_11_code 5 = .ok (.iload_n 1, 1) := by decide +kernel
theorem own_d7_6 : decode jdk_41_method_11_code 6 = .ok (.if_icmp .lt 10, 3) := by decide +kernel
theorem own_d7_16 : decode jdk_41_method_11_code 16 = .ok (.iload_n 0, 1) := by decide +kernel
theorem own_d7_17 : decode jdk_41_method_11_code 17 = .ok (.ireturn, 1) := by decide +kernel
theorem own_ef7 (m : MethodId) (x0 : Int32) (x1 : Int32) (x2 : Addr) : entryFrame m #[(.int x0), (.int x1), (.ref x2)] 3 = mkF m 0 #[.val (.int x0), .val (.int x1), .val (.ref x2)] [] := by first | (simp [entryFrame, mkF, argsToLocals, Value.category]; done) | rfl
set_option maxRecDepth 65536 in
set_option maxHeartbeats 40000000 in
theorem rm7 (l : Launch) (Z : State) (a0 : Array Value) (hw : ∀ d ∈ tables_1, d.before a0 Z = true) (ws : List Jvm.Cond) (p0 : Int32) (p1 : Int32) (o2 : Addr) (h0 : Heap) (n0 : Nat) (Z0 : n0 ≤ h0.size) (hk0 : ¬ p0 < (0 : Int32)) (hk1 : p0 < p1) :
    MetFree l (⟨"jdk/internal/util/Preconditions", "checkIndex", "(IILjava/util/function/BiFunction;)I"⟩ : MethodName) (head1 (Jvm.Cond.code (⟨"jdk/internal/util/Preconditions", "checkIndex", "(IILjava/util/function/BiFunction;)I"⟩ : MethodName) jdk_41_method_11_code 3 (some .int) :: ws) ({ frames := 0, cells := 0, slots := 0, locals := 0 } : Room)) (fun a U => a = #[(.int p0), (.int p1), (.ref o2)] ∧ Z.Warmed39 U.vm ∧ U.heap = h0) (fun _ _ _ _ _ => True) (fun _ U o U' => ∃ v L, o = .returned v ∧ (QPure n0 h0 (.int (own_F7 p0 p1 o2))) v U'.heap L ∧ FrameEnd U o U' L ({ frames := 0, cells := 0, slots := 0, locals := 0 } : Room).cells ({ frames := 0, cells := 0, slots := 0, locals := 0 } : Room).slots) := by
  refine MetFree.of_bodySF (plainFor_of_name own_pn3) hisR ?_
  intro p e s m args below meth c s₁ Bd hml0 hP hK
  obtain ⟨rfl, hZ, hh⟩ := hP
  have hx := Bd.exec
  have hby := Bd.bytes
  have hml : c.maxLocals = 3 := hml0
  have hown : s.vm.findClass "jdk/internal/util/Preconditions" = some m.cls := findClass_of_methodNamed Bd.named
  have hnm := (name_of_methodNamed Bd.named Bd.method).1
  have X0 : Stand p l e ({ frames := 0, cells := 0, slots := 0, locals := 0 } : Room) s m #[(.int p0), (.int p1), (.ref o2)] below meth c s₁ [] 0 0 := Stand.of_body Bd
  have e0 : s₁.heap = h0 := by rw [← hh, Bd.state]; rfl
  have N0 := Fr.nil n0
  suffices H : Run p.tables e below (FinR s ({ frames := 0, cells := 0, slots := 0, locals := 0 } : Room).cells ({ frames := 0, cells := 0, slots := 0, locals := 0 } : Room).slots (QPure n0 h0 (.int (own_F7 p0 p1 o2)))) s₁ (mkF m 0 #[.val (.int p0), .val (.int p1), .val (.ref o2)] []) by
    obtain ⟨s₂, o, k1, k2, k3, k4⟩ := H
    exact ⟨s₂, o, castTop (own_ef7 m p0 p1 o2) k1, k2, k3, k4⟩
  obtain ⟨r, hr⟩ : ∃ r, r = own_F7 p0 p1 o2 := ⟨_, rfl⟩
  rw [← hr]
  rw [own_F7] at hr
  refine Run.iloadN (pc' := 1) X0 hx (hb hby own_d7_0) rfl rfl ?_
  refine Run.ifNo (pc' := 4) X0 hx (hb hby own_d7_1) ((if0 _ _).trans (flt hk0).1) rfl ?_
  refine Run.iloadN (pc' := 5) X0 hx (hb hby own_d7_4) rfl rfl ?_
  refine Run.iloadN (pc' := 6) X0 hx (hb hby own_d7_5) rfl rfl ?_
  refine Run.icmpYes (pc' := 16) X0 hx (hb hby own_d7_6) (tlt hk1).1 (by decide) (by decide) ?_
  refine Run.iloadN (pc' := 17) X0 hx (hb hby own_d7_16) rfl rfl ?_
  exact Run.retInt X0 hx Bd.notSynchronized Bd.returns (hb hby own_d7_17) ⟨by rw [hr], N0, e0⟩ (by decide) (by decide)
theorem own_d8_0 : decode jdk_42_method_155_code 0 = .ok (.iload_n 0, 1) := by decide +kernel
theorem own_d8_1 : decode jdk_42_method_155_code 1 = .ok (.iload_n 1, 1) := by decide +kernel
theorem own_d8_2 : decode jdk_42_method_155_code 2 = .ok (.getstatic 1053, 3) := by decide +kernel
theorem own_d8_5 : decode jdk_42_method_155_code 5 = .ok (.invokestatic 1059, 3) := by decide +kernel
theorem own_d8_8 : decode jdk_42_method_155_code 8 = .ok (.pop, 1) := by decide +kernel
theorem own_d8_9 : decode jdk_42_method_155_code 9 = .ok (.return_, 1) := by decide +kernel
theorem own_ef8 (m : MethodId) (x0 : Int32) (x1 : Int32) : entryFrame m #[(.int x0), (.int x1)] 2 = mkF m 0 #[.val (.int x0), .val (.int x1)] [] := by first | (simp [entryFrame, mkF, argsToLocals, Value.category]; done) | rfl
set_option maxRecDepth 65536 in
set_option maxHeartbeats 40000000 in
theorem rm8 (l : Launch) (Z : State) (a0 : Array Value) (hw : ∀ d ∈ tables_1, d.before a0 Z = true) (ws : List Jvm.Cond) (p0 : Int32) (p1 : Int32) (fm : Value) (h0 : Heap) (n0 : Nat) (Z0 : n0 ≤ h0.size) (hk0 : ¬ p0 < (0 : Int32)) (hk1 : p0 < p1) (S_f : Sta Z h0 "jdk/internal/util/Preconditions" "SIOOBE_FORMATTER" "Ljava/util/function/BiFunction;" fm) (hfm : fm.isRef = true) :
    MetFree l (⟨"java/lang/String", "checkIndex", "(II)V"⟩ : MethodName) (head1 (Jvm.Cond.code (⟨"java/lang/String", "checkIndex", "(II)V"⟩ : MethodName) jdk_42_method_155_code 2 none :: ws) ({ frames := 1, cells := 0, slots := 0, locals := 14 } : Room)) (fun a U => a = #[(.int p0), (.int p1)] ∧ Z.Warmed39 U.vm ∧ U.heap = h0) (fun _ _ _ _ _ => True) (fun _ U o U' => ∃ v L, o = .returned v ∧ (Say (fun v h L => v = none ∧ Fr n0 L ∧ h = h0)) v U'.heap L ∧ FrameEnd U o U' L ({ frames := 1, cells := 0, slots := 0, locals := 14 } : Room).cells ({ frames := 1, cells := 0, slots := 0, locals := 14 } : Room).slots) := by
  refine MetFree.of_bodySF (plainFor_of_name own_pn2) hisR ?_
  intro p e s m args below meth c s₁ Bd hml0 hP hK
  obtain ⟨rfl, hZ, hh⟩ := hP
  have hx := Bd.exec
  have hby := Bd.bytes
  have hml : c.maxLocals = 2 := hml0
  have hown : s.vm.findClass "java/lang/String" = some m.cls := findClass_of_methodNamed Bd.named
  have hnm := (name_of_methodNamed Bd.named Bd.method).1
  have X0 : Stand p l e ({ frames := 1, cells := 0, slots := 0, locals := 14 } : Room) s m #[(.int p0), (.int p1)] below meth c s₁ [] 0 0 := Stand.of_body Bd
  have e0 : s₁.heap = h0 := by rw [← hh, Bd.state]; rfl
  have N0 := Fr.nil n0
  suffices H : Run p.tables e below (FinR s ({ frames := 1, cells := 0, slots := 0, locals := 14 } : Room).cells ({ frames := 1, cells := 0, slots := 0, locals := 14 } : Room).slots (Say (fun v h L => v = none ∧ Fr n0 L ∧ h = h0))) s₁ (mkF m 0 #[.val (.int p0), .val (.int p1)] []) by
    obtain ⟨s₂, o, k1, k2, k3, k4⟩ := H
    exact ⟨s₂, o, castTop (own_ef8 m p0 p1) k1, k2, k3, k4⟩
  rcases ref_cases hfm with rfl | ⟨fa, rfl⟩
  · skip
    refine Run.iloadN (pc' := 1) X0 hx (hb hby own_d8_0) rfl rfl ?_
    refine Run.iloadN (pc' := 2) X0 hx (hb hby own_d8_1) rfl rfl ?_
    obtain ⟨T1, X1, e1, st1⟩ := getS2 X0 hx hZ hown (host := "") (Or.inl (hw _ (List.mem_of_getElem? (i := 48) rfl))) Via.refl e0 S_f (g := (mkF m 2 #[.val (.int p0), .val (.int p1)] [(.int p1), (.int p0)])) rfl (hb hby own_d8_2)
    refine Run.back (g' := (mkF m 5 #[.val (.int p0), .val (.int p1)] [.null, (.int p1), (.int p0)])) st1 ?_
    obtain ⟨T2, L2, v2, X2, Q2, st2⟩ := callStatic X1 hx (y := (⟨"jdk/internal/util/Preconditions", "checkIndex", "(IILjava/util/function/BiFunction;)I"⟩ : MethodName)) (Ls := #[.val (.int p0), .val (.int p1)]) (rest := []) (W := 0) (argsL := [(.int p0), (.int p1), .null]) hZ hown (hw _ (List.mem_of_getElem? (i := 50) rfl)) (hw _ (List.mem_of_getElem? (i := 51) rfl)) (hw _ (List.mem_of_getElem? (i := 49) rfl)) (hw _ (List.mem_of_getElem? (i := 52) rfl)) (by decide) e1 (rm6 l Z a0 hw [] p0 p1  h0 n0 Z0 hk0 hk1) (hb hby own_d8_5) (lenOf own_pd1 rfl) (by decide) (by decide) (by rw [hml]; rfl) (Nat.le_of_eq rfl) (by decide) (by decide)
    obtain ⟨rfl, M2, e2⟩ := Q2
    have N2 := Fr.app N0 M2
    refine Run.back (g' := (mkF m 8 #[.val (.int p0), .val (.int p1)] [(.int (own_F6 p0 p1))])) st2 ?_
    refine Run.pop (pc' := 9) X2 hx (hb hby own_d8_8) rfl rfl ?_
    exact Run.retVoid X2 hx Bd.notSynchronized Bd.returns (hb hby own_d8_9) ⟨rfl, N2, e2⟩ (by decide) (by decide)
  · skip
    refine Run.iloadN (pc' := 1) X0 hx (hb hby own_d8_0) rfl rfl ?_
    refine Run.iloadN (pc' := 2) X0 hx (hb hby own_d8_1) rfl rfl ?_
    obtain ⟨T3, X3, e3, st3⟩ := getS2 X0 hx hZ hown (host := "") (Or.inl (hw _ (List.mem_of_getElem? (i := 48) rfl))) Via.refl e0 S_f (g := (mkF m 2 #[.val (.int p0), .val (.int p1)] [(.int p1), (.int p0)])) rfl (hb hby own_d8_2)
    refine Run.back (g' := (mkF m 5 #[.val (.int p0), .val (.int p1)] [(.ref fa), (.int p1), (.int p0)])) st3 ?_
    obtain ⟨T4, L4, v4, X4, Q4, st4⟩ := callStatic X3 hx (y := (⟨"jdk/internal/util/Preconditions", "checkIndex", "(IILjava/util/function/BiFunction;)I"⟩ : MethodName)) (Ls := #[.val (.int p0), .val (.int p1)]) (rest := []) (W := 0) (argsL := [(.int p0), (.int p1), (.ref fa)]) hZ hown (hw _ (List.mem_of_getElem? (i := 50) rfl)) (hw _ (List.mem_of_getElem? (i := 51) rfl)) (hw _ (List.mem_of_getElem? (i := 49) rfl)) (hw _ (List.mem_of_getElem? (i := 52) rfl)) (by decide) e3 (rm7 l Z a0 hw [] p0 p1 fa  h0 n0 Z0 hk0 hk1) (hb hby own_d8_5) (lenOf own_pd1 rfl) (by decide) (by decide) (by rw [hml]; rfl) (Nat.le_of_eq rfl) (by decide) (by decide)
    obtain ⟨rfl, M4, e4⟩ := Q4
    have N4 := Fr.app N0 M4
    refine Run.back (g' := (mkF m 8 #[.val (.int p0), .val (.int p1)] [(.int (own_F7 p0 p1 fa))])) st4 ?_
    refine Run.pop (pc' := 9) X4 hx (hb hby own_d8_8) rfl rfl ?_
    exact Run.retVoid X4 hx Bd.notSynchronized Bd.returns (hb hby own_d8_9) ⟨rfl, N4, e4⟩ (by decide) (by decide)
def own_F9 (o0 : Addr) (p1 : Int32) (f : Int32 → Int32) : Int32 := ((((f p1) &&& (255 : Int32)).toUInt32.toUInt16.toUInt32.toInt32).toUInt32.toUInt16.toUInt32.toInt32)
theorem own_d9_0 : decode jdk_43_method_2_code 0 = .ok (.iload_n 1, 1) := by decide +kernel
theorem own_d9_1 : decode jdk_43_method_2_code 1 = .ok (.aload_n 0, 1) := by decide +kernel
theorem own_d9_2 : decode jdk_43_method_2_code 2 = .ok (.arraylength, 1) := by decide +kernel
theorem own_d9_3 : decode jdk_43_method_2_code 3 = .ok (.invokestatic 9, 3) := by decide +kernel
theorem own_d9_6 : decode jdk_43_method_2_code 6 = .ok (.aload_n 0, 1) := by decide +kernel
theorem own_d9_7 : decode jdk_43_method_2_code 7 = .ok (.iload_n 1, 1) := by decide +kernel
theorem own_d9_8 : decode jdk_43_method_2_code 8 = .ok (.baload, 1) := by decide +kernel
theorem own_d9_9 : decode jdk_43_method_2_code 9 = .ok (.sipush 255, 3) := by decide +kernel
theorem own_d9_12 : decode jdk_43_method_2_code 12 = .ok (.iand, 1) := by decide +kernel
theorem own_d9_13 : decode jdk_43_method_2_code 13 = .ok (.i2c, 1) := by decide +kernel
theorem own_d9_14 : decode jdk_43_method_2_code 14 = .ok (.ireturn, 1) := by decide +kernel
theorem own_ef9 (m : MethodId) (x0 : Addr) (x1 : Int32) : entryFrame m #[(.ref x0), (.int x1)] 2 = mkF m 0 #[.val (.ref x0), .val (.int x1)] [] := by first | (simp [entryFrame, mkF, argsToLocals, Value.category]; done) | rfl
set_option maxRecDepth 65536 in
set_option maxHeartbeats 40000000 in
theorem rm9 (l : Launch) (Z : State) (a0 : Array Value) (hw : ∀ d ∈ tables_1, d.before a0 Z = true) (ws : List Jvm.Cond) (o0 : Addr) (p1 : Int32) (n : Int32) (fm : Value) (f : Int32 → Int32) (h0 : Heap) (n0 : Nat) (Z0 : n0 ≤ h0.size) (A_v : Ints Z h0 o0 .byte n f) (hk0 : ¬ p1 < (0 : Int32)) (hk1 : p1 < n) (S_f : Sta Z h0 "jdk/internal/util/Preconditions" "SIOOBE_FORMATTER" "Ljava/util/function/BiFunction;" fm) (hfm : fm.isRef = true) :
    MetFree l (⟨"java/lang/StringLatin1", "charAt", "([BI)C"⟩ : MethodName) (head1 (Jvm.Cond.code (⟨"java/lang/StringLatin1", "charAt", "([BI)C"⟩ : MethodName) jdk_43_method_2_code 2 (some .char) :: ws) ({ frames := 2, cells := 0, slots := 0, locals := 27 } : Room)) (fun a U => a = #[(.ref o0), (.int p1)] ∧ Z.Warmed39 U.vm ∧ U.heap = h0) (fun _ _ _ _ _ => True) (fun _ U o U' => ∃ v L, o = .returned v ∧ (QPure n0 h0 (.int (own_F9 o0 p1 f))) v U'.heap L ∧ FrameEnd U o U' L ({ frames := 2, cells := 0, slots := 0, locals := 27 } : Room).cells ({ frames := 2, cells := 0, slots := 0, locals := 27 } : Room).slots) := by
  refine MetFree.of_bodySF (plainFor_of_name own_pn4) hisR ?_
  intro p e s m args below meth c s₁ Bd hml0 hP hK
  obtain ⟨rfl, hZ, hh⟩ := hP
  have hx := Bd.exec
  have hby := Bd.bytes
  have hml : c.maxLocals = 2 := hml0
  have hown : s.vm.findClass "java/lang/StringLatin1" = some m.cls := findClass_of_methodNamed Bd.named
  have hnm := (name_of_methodNamed Bd.named Bd.method).1
  have X0 : Stand p l e ({ frames := 2, cells := 0, slots := 0, locals := 27 } : Room) s m #[(.ref o0), (.int p1)] below meth c s₁ [] 0 0 := Stand.of_body Bd
  have e0 : s₁.heap = h0 := by rw [← hh, Bd.state]; rfl
  have N0 := Fr.nil n0
  suffices H : Run p.tables e below (FinR s ({ frames := 2, cells := 0, slots := 0, locals := 27 } : Room).cells ({ frames := 2, cells := 0, slots := 0, locals := 27 } : Room).slots (QPure n0 h0 (.int (own_F9 o0 p1 f)))) s₁ (mkF m 0 #[.val (.ref o0), .val (.int p1)] []) by
    obtain ⟨s₂, o, k1, k2, k3, k4⟩ := H
    exact ⟨s₂, o, castTop (own_ef9 m o0 p1) k1, k2, k3, k4⟩
  obtain ⟨r, hr⟩ : ∃ r, r = own_F9 o0 p1 f := ⟨_, rfl⟩
  rw [← hr]
  rw [own_F9] at hr
  refine Run.iloadN (pc' := 1) X0 hx (hb hby own_d9_0) rfl rfl ?_
  refine Run.aloadN (pc' := 2) X0 hx (hb hby own_d9_1) rfl rfl ?_
  refine Run.arraylength (pc' := 3) X0 hx hZ e0 A_v (hb hby own_d9_2) rfl ?_
  obtain ⟨T1, L1, v1, X1, Q1, st1⟩ := callStatic X0 hx (y := (⟨"java/lang/String", "checkIndex", "(II)V"⟩ : MethodName)) (Ls := #[.val (.ref o0), .val (.int p1)]) (rest := []) (W := 0) (argsL := [(.int p1), (.int n)]) hZ hown (hw _ (List.mem_of_getElem? (i := 45) rfl)) (hw _ (List.mem_of_getElem? (i := 46) rfl)) (hw _ (List.mem_of_getElem? (i := 19) rfl)) (hw _ (List.mem_of_getElem? (i := 47) rfl)) (by decide) e0 (rm8 l Z a0 hw [] p1 n fm h0 n0 Z0 hk0 hk1 S_f hfm) (hb hby own_d9_3) (lenOf own_pd2 rfl) (by decide) (by decide) (by rw [hml]; rfl) (Nat.le_of_eq rfl) (by decide) (by decide)
  obtain ⟨rfl, M1, e1⟩ := Q1
  have N1 := Fr.app N0 M1
  refine Run.back (g' := (mkF m 6 #[.val (.ref o0), .val (.int p1)] [])) st1 ?_
  refine Run.aloadN (pc' := 7) X1 hx (hb hby own_d9_6) rfl rfl ?_
  refine Run.iloadN (pc' := 8) X1 hx (hb hby own_d9_7) rfl rfl ?_
  refine Run.baload (pc' := 9) X1 hx hZ e1 A_v hk0 hk1 (hb hby own_d9_8) rfl ?_
  refine Run.sipush (pc' := 12) (v := (255 : Int32)) X1 hx (hb hby own_d9_9) rfl rfl ?_
  refine Run.iand (pc' := 13) X1 hx (hb hby own_d9_12) rfl ?_
  refine Run.i2c (pc' := 14) X1 hx (hb hby own_d9_13) rfl ?_
  exact Run.retSmall X1 hx (t := .char) (z' := ((((f p1) &&& (255 : Int32)).toUInt32.toUInt16.toUInt32.toInt32).toUInt32.toUInt16.toUInt32.toInt32)) Bd.notSynchronized Bd.returns (by simp) rfl (hb hby own_d9_14) ⟨by rw [hr], N1, e1⟩ (by decide) (by decide)
def own_Fa (o0 : Addr) (p1 : Int32) (tv : Addr) (f : Int32 → Int32) : Int32 := ((own_F9 tv p1 f).toUInt32.toUInt16.toUInt32.toInt32)
theorem own_da_0 : decode jdk_42_method_56_code 0 = .ok (.aload_n 0, 1) := by decide +kernel
theorem own_da_1 : decode jdk_42_method_56_code 1 = .ok (.invokevirtual 492, 3) := by decide +kernel
theorem own_da_4 : decode jdk_42_method_56_code 4 = .ok (.ifCond .eq 12, 3) := by decide +kernel
theorem own_da_7 : decode jdk_42_method_56_code 7 = .ok (.aload_n 0, 1) := by decide +kernel
theorem own_da_8 : decode jdk_42_method_56_code 8 = .ok (.getfield 9, 3) := by decide +kernel
theorem own_da_11 : decode jdk_42_method_56_code 11 = .ok (.iload_n 1, 1) := by decide +kernel
theorem own_da_12 : decode jdk_42_method_56_code 12 = .ok (.invokestatic 495, 3) := by decide +kernel
theorem own_da_15 : decode jdk_42_method_56_code 15 = .ok (.ireturn, 1) := by decide +kernel
theorem own_efa (m : MethodId) (x0 : Addr) (x1 : Int32) : entryFrame m #[(.ref x0), (.int x1)] 2 = mkF m 0 #[.val (.ref x0), .val (.int x1)] [] := by first | (simp [entryFrame, mkF, argsToLocals, Value.category]; done) | rfl
set_option maxRecDepth 65536 in
set_option maxHeartbeats 40000000 in
theorem rma (l : Launch) (Z : State) (a0 : Array Value) (hw : ∀ d ∈ tables_1, d.before a0 Z = true) (ws : List Jvm.Cond) (o0 : Addr) (p1 : Int32) (cs : Int32) (n : Int32) (fm : Value) (tv : Addr) (f : Int32 → Int32) (h0 : Heap) (n0 : Nat) (Z0 : n0 ≤ h0.size) (E_o : Exa Z h0 o0 "java/lang/String") (F_v : Fld Z h0 o0 "java/lang/String" "value" "[B" (.ref tv)) (A_v : Ints Z h0 tv .byte n f) (F_c : Fld Z h0 o0 "java/lang/String" "coder" "B" (.int (0 : Int32))) (S_cs : Sta Z h0 "java/lang/String" "COMPACT_STRINGS" "Z" (.int cs)) (hcs : ¬ cs = (0 : Int32)) (hk0 : ¬ p1 < (0 : Int32)) (hk1 : p1 < n) (S_f : Sta Z h0 "jdk/internal/util/Preconditions" "SIOOBE_FORMATTER" "Ljava/util/function/BiFunction;" fm) (hfm : fm.isRef = true) :
    MetFree l (⟨"java/lang/String", "charAt", "(I)C"⟩ : MethodName) (head1 (Jvm.Cond.code (⟨"java/lang/String", "charAt", "(I)C"⟩ : MethodName) jdk_42_method_56_code 2 (some .char) :: ws) ({ frames := 3, cells := 0, slots := 0, locals := 40 } : Room)) (fun a U => a = #[(.ref o0), (.int p1)] ∧ Z.Warmed39 U.vm ∧ U.heap = h0) (fun _ _ _ _ _ => True) (fun _ U o U' => ∃ v L, o = .returned v ∧ (QPure n0 h0 (.int (own_Fa o0 p1 tv f))) v U'.heap L ∧ FrameEnd U o U' L ({ frames := 3, cells := 0, slots := 0, locals := 40 } : Room).cells ({ frames := 3, cells := 0, slots := 0, locals := 40 } : Room).slots) := by
  refine MetFree.of_bodySF (plainFor_of_name own_pn2) hisR ?_
  intro p e s m args below meth c s₁ Bd hml0 hP hK
  obtain ⟨rfl, hZ, hh⟩ := hP
  have hx := Bd.exec
  have hby := Bd.bytes
  have hml : c.maxLocals = 2 := hml0
  have hown : s.vm.findClass "java/lang/String" = some m.cls := findClass_of_methodNamed Bd.named
  have hnm := (name_of_methodNamed Bd.named Bd.method).1
  have X0 : Stand p l e ({ frames := 3, cells := 0, slots := 0, locals := 40 } : Room) s m #[(.ref o0), (.int p1)] below meth c s₁ [] 0 0 := Stand.of_body Bd
  have e0 : s₁.heap = h0 := by rw [← hh, Bd.state]; rfl
  have N0 := Fr.nil n0
  suffices H : Run p.tables e below (FinR s ({ frames := 3, cells := 0, slots := 0, locals := 40 } : Room).cells ({ frames := 3, cells := 0, slots := 0, locals := 40 } : Room).slots (QPure n0 h0 (.int (own_Fa o0 p1 tv f)))) s₁ (mkF m 0 #[.val (.ref o0), .val (.int p1)] []) by
    obtain ⟨s₂, o, k1, k2, k3, k4⟩ := H
    exact ⟨s₂, o, castTop (own_efa m o0 p1) k1, k2, k3, k4⟩
  obtain ⟨r, hr⟩ : ∃ r, r = own_Fa o0 p1 tv f := ⟨_, rfl⟩
  rw [← hr]
  rw [own_Fa] at hr
  refine Run.aloadN (pc' := 1) X0 hx (hb hby own_da_0) rfl rfl ?_
  obtain ⟨T1, L1, v1, X1, Q1, st1⟩ := callVirtual X0 hx (y := (⟨"java/lang/String", "isLatin1", "()Z"⟩ : MethodName)) (z := (⟨"java/lang/String", "isLatin1", "()Z"⟩ : MethodName)) (C := "java/lang/String") (a := o0) (Ls := #[.val (.ref o0), .val (.int p1)]) (rest := []) (W := 0) (argsL := []) hZ hown (hw _ (List.mem_of_getElem? (i := 36) rfl)) (hw _ (List.mem_of_getElem? (i := 37) rfl)) (notFace_of_selects (args := #[]) (mvT hZ (hw _ (List.mem_of_getElem? (i := 39) rfl)))) (hw _ (List.mem_of_getElem? (i := 39) rfl)) (hw _ (List.mem_of_getElem? (i := 38) rfl)) (hw _ (List.mem_of_getElem? (i := 19) rfl)) (hw _ (List.mem_of_getElem? (i := 40) rfl)) (by decide) e0 E_o (rm5 l Z a0 hw [] o0 cs h0 n0 Z0 F_c S_cs hcs) (hb hby own_da_1) (lenOf own_pd3 rfl) (by decide) (by decide) (by rw [hml]; rfl) (Nat.le_of_eq rfl) (by decide) (by decide)
  obtain ⟨hv1, M1, e1⟩ := Q1
  rw [show (own_F5 o0) = (1 : Int32) from rfl] at hv1
  subst hv1
  have N1 := Fr.app N0 M1
  refine Run.back (g' := (mkF m 4 #[.val (.ref o0), .val (.int p1)] [(.int (1 : Int32))])) st1 ?_
  refine Run.ifNo (pc' := 7) X1 hx (hb hby own_da_4) ((if0 _ _).trans (feq (by decide : ¬ (1 : Int32) = (0 : Int32))).1) rfl ?_
  refine Run.aloadN (pc' := 8) X1 hx (hb hby own_da_7) rfl rfl ?_
  obtain ⟨T2, X2, e2, st2⟩ := getF X1 hx hZ hown (host := "") (Or.inl (hw _ (List.mem_of_getElem? (i := 21) rfl))) Via.refl e1 F_v (g := (mkF m 8 #[.val (.ref o0), .val (.int p1)] [(.ref o0)])) rfl rfl (hb hby own_da_8)
  refine Run.back (g' := (mkF m 11 #[.val (.ref o0), .val (.int p1)] [(.ref tv)])) st2 ?_
  refine Run.iloadN (pc' := 12) X2 hx (hb hby own_da_11) rfl rfl ?_
  obtain ⟨T3, L3, v3, X3, Q3, st3⟩ := callStatic X2 hx (y := (⟨"java/lang/StringLatin1", "charAt", "([BI)C"⟩ : MethodName)) (Ls := #[.val (.ref o0), .val (.int p1)]) (rest := []) (W := 0) (argsL := [(.ref tv), (.int p1)]) hZ hown (hw _ (List.mem_of_getElem? (i := 41) rfl)) (hw _ (List.mem_of_getElem? (i := 42) rfl)) (hw _ (List.mem_of_getElem? (i := 43) rfl)) (hw _ (List.mem_of_getElem? (i := 44) rfl)) (by decide) e2 (rm9 l Z a0 hw [] tv p1 n fm f h0 n0 Z0 A_v hk0 hk1 S_f hfm) (hb hby own_da_12) (lenOf own_pd4 rfl) (by decide) (by decide) (by rw [hml]; rfl) (Nat.le_of_eq rfl) (by decide) (by decide)
  obtain ⟨rfl, M3, e3⟩ := Q3
  have N3 := Fr.app N1 M3
  refine Run.back (g' := (mkF m 15 #[.val (.ref o0), .val (.int p1)] [(.int (own_F9 tv p1 f))])) st3 ?_
  exact Run.retSmall X3 hx (t := .char) (z' := ((own_F9 tv p1 f).toUInt32.toUInt16.toUInt32.toInt32)) Bd.notSynchronized Bd.returns (by simp) rfl (hb hby own_da_15) ⟨by rw [hr], N3, e3⟩ (by decide) (by decide)
def own_fb_19 (o0 : Addr) (a_ALLOW_LOG : Addr) (a_DENY_LOG : Addr) (y19_0 : Int32) : Int32 := (y19_0 &&& 1)
def own_fb_14 (o0 : Addr) (a_ALLOW_LOG : Addr) (a_DENY_LOG : Addr) : Int32 := (own_fb_19 o0 a_ALLOW_LOG a_DENY_LOG (1 : Int32))
def own_Fb (o0 : Addr) (a_ALLOW_LOG : Addr) (a_DENY_LOG : Addr) : Int32 := (if o0 = a_ALLOW_LOG then (own_fb_14 o0 a_ALLOW_LOG a_DENY_LOG) else (if o0 = a_DENY_LOG then (own_fb_14 o0 a_ALLOW_LOG a_DENY_LOG) else (own_fb_19 o0 a_ALLOW_LOG a_DENY_LOG (0 : Int32))))
theorem own_db_0 : decode prog_9_method_8_code 0 = .ok (.aload_n 0, 1) := by decide +kernel
theorem own_db_1 : decode prog_9_method_8_code 1 = .ok (.getstatic 7, 3) := by decide +kernel
theorem own_db_4 : decode prog_9_method_8_code 4 = .ok (.if_acmp .eq 10, 3) := by decide +kernel
theorem own_db_7 : decode prog_9_method_8_code 7 = .ok (.aload_n 0, 1) := by decide +kernel
theorem own_db_8 : decode prog_9_method_8_code 8 = .ok (.getstatic 13, 3) := by decide +kernel
theorem own_db_11 : decode prog_9_method_8_code 11 = .ok (.if_acmp .ne 7, 3) := by decide +kernel
theorem own_db_14 : decode prog_9_method_8_code 14 = .ok (.iconst 1, 1) := by decide +kernel
theorem own_db_15 : decode prog_9_method_8_code 15 = .ok (.goto 4, 3) := by decide +kernel
theorem own_db_18 : decode prog_9_method_8_code 18 = .ok (.iconst 0, 1) := by decide +kernel
theorem own_db_19 : decode prog_9_method_8_code 19 = .ok (.ireturn, 1) := by decide +kernel
theorem own_efb (m : MethodId) (x0 : Addr) : entryFrame m #[(.ref x0)] 1 = mkF m 0 #[.val (.ref x0)] [] := by first | (simp [entryFrame, mkF, argsToLocals, Value.category]; done) | rfl
set_option maxRecDepth 65536 in
set_option maxHeartbeats 40000000 in
theorem rmb (l : Launch) (Z : State) (a0 : Array Value) (hw : ∀ d ∈ tables_1, d.before a0 Z = true) (ws : List Jvm.Cond) (o0 : Addr) (a_ALLOW_LOG : Addr) (a_DENY_LOG : Addr) (h0 : Heap) (n0 : Nat) (Z0 : n0 ≤ h0.size) (S_ALLOW_LOG : Sta Z h0 "com/example/portcullis/portcullis/Outcome" "ALLOW_LOG" "Lcom/example/portcullis/portcullis/Outcome;" (.ref a_ALLOW_LOG)) (S_DENY_LOG : Sta Z h0 "com/example/portcullis/portcullis/Outcome" "DENY_LOG" "Lcom/example/portcullis/portcullis/Outcome;" (.ref a_DENY_LOG)) :
    MetFree l (⟨"com/example/portcullis/portcullis/Outcome", "isLogged", "()Z"⟩ : MethodName) (head1 (Jvm.Cond.code (⟨"com/example/portcullis/portcullis/Outcome", "isLogged", "()Z"⟩ : MethodName) prog_9_method_8_code 1 (some .boolean) :: ws) ({ frames := 0, cells := 0, slots := 0, locals := 0 } : Room)) (fun a U => a = #[(.ref o0)] ∧ Z.Warmed39 U.vm ∧ U.heap = h0) (fun _ _ _ _ _ => True) (fun _ U o U' => ∃ v L, o = .returned v ∧ (QPure n0 h0 (.int (own_Fb o0 a_ALLOW_LOG a_DENY_LOG))) v U'.heap L ∧ FrameEnd U o U' L ({ frames := 0, cells := 0, slots := 0, locals := 0 } : Room).cells ({ frames := 0, cells := 0, slots := 0, locals := 0 } : Room).slots) := by
  refine MetFree.of_bodySF (plainFor_of_name own_pn1) hisR ?_
  intro p e s m args below meth c s₁ Bd hml0 hP hK
  obtain ⟨rfl, hZ, hh⟩ := hP
  have hx := Bd.exec
  have hby := Bd.bytes
  have hml : c.maxLocals = 1 := hml0
  have hown : s.vm.findClass "com/example/portcullis/portcullis/Outcome" = some m.cls := findClass_of_methodNamed Bd.named
  have hnm := (name_of_methodNamed Bd.named Bd.method).1
  have X0 : Stand p l e ({ frames := 0, cells := 0, slots := 0, locals := 0 } : Room) s m #[(.ref o0)] below meth c s₁ [] 0 0 := Stand.of_body Bd
  have e0 : s₁.heap = h0 := by rw [← hh, Bd.state]; rfl
  have N0 := Fr.nil n0
  suffices H : Run p.tables e below (FinR s ({ frames := 0, cells := 0, slots := 0, locals := 0 } : Room).cells ({ frames := 0, cells := 0, slots := 0, locals := 0 } : Room).slots (QPure n0 h0 (.int (own_Fb o0 a_ALLOW_LOG a_DENY_LOG)))) s₁ (mkF m 0 #[.val (.ref o0)] []) by
    obtain ⟨s₂, o, k1, k2, k3, k4⟩ := H
    exact ⟨s₂, o, castTop (own_efb m o0) k1, k2, k3, k4⟩
  obtain ⟨r, hr⟩ : ∃ r, r = own_Fb o0 a_ALLOW_LOG a_DENY_LOG := ⟨_, rfl⟩
  rw [← hr]
  have J19 : ∀ (y19_0 : Int32) (r : Int32), r = (own_fb_19 o0 a_ALLOW_LOG a_DENY_LOG y19_0) → ∀ (T : State) (locs : List Loc), Stand p l e ({ frames := 0, cells := 0, slots := 0, locals := 0 } : Room) s m #[(.ref o0)] below meth c T locs 0 0 → T.heap = h0 → Fr n0 locs → Run p.tables e below (FinR s ({ frames := 0, cells := 0, slots := 0, locals := 0 } : Room).cells ({ frames := 0, cells := 0, slots := 0, locals := 0 } : Room).slots (QPure n0 h0 (.int r))) T (mkF m 19 #[.val (.ref o0)] [(.int y19_0)]) := by
    clear hr
    intro y19_0 r hr T locs X eT N
    rw [own_fb_19] at hr
    exact Run.retSmall X hx (t := .boolean) (z' := (y19_0 &&& 1)) Bd.notSynchronized Bd.returns (by simp) rfl (hb hby own_db_19) ⟨by rw [hr], N, eT⟩ (by decide) (by decide)
  have J14 : ∀  (r : Int32), r = (own_fb_14 o0 a_ALLOW_LOG a_DENY_LOG) → ∀ (T : State) (locs : List Loc), Stand p l e ({ frames := 0, cells := 0, slots := 0, locals := 0 } : Room) s m #[(.ref o0)] below meth c T locs 0 0 → T.heap = h0 → Fr n0 locs → Run p.tables e below (FinR s ({ frames := 0, cells := 0, slots := 0, locals := 0 } : Room).cells ({ frames := 0, cells := 0, slots := 0, locals := 0 } : Room).slots (QPure n0 h0 (.int r))) T (mkF m 14 #[.val (.ref o0)] []) := by
    clear hr
    intro  r hr T locs X eT N
    rw [own_fb_14] at hr
    refine Run.iconst (pc' := 15) (v := (1 : Int32)) X hx (hb hby own_db_14) rfl rfl ?_
    refine Run.goto (pc' := 19) X hx (hb hby own_db_15) (by decide) (by decide) ?_
    exact J19 (1 : Int32) _ hr _ _ X eT N
  rw [own_Fb] at hr
  refine Run.aloadN (pc' := 1) X0 hx (hb hby own_db_0) rfl rfl ?_
  obtain ⟨T1, X1, e1, st1⟩ := getS2 X0 hx hZ hown (host := "") (Or.inl (hw _ (List.mem_of_getElem? (i := 58) rfl))) Via.refl e0 S_ALLOW_LOG (g := (mkF m 1 #[.val (.ref o0)] [(.ref o0)])) rfl (hb hby own_db_1)
  refine Run.back (g' := (mkF m 4 #[.val (.ref o0)] [(.ref a_ALLOW_LOG), (.ref o0)])) st1 ?_
  by_cases hc4 : o0 = a_ALLOW_LOG
  · rw [if_pos hc4] at hr
    refine Run.acmpYes (pc' := 14) X1 hx (hb hby own_db_4) (own_acmpEqT hc4) (by decide) (by decide) ?_
    exact J14  _ hr _ _ X1 e1 N0
  · rw [if_neg hc4] at hr
    refine Run.acmpNo (pc' := 7) X1 hx (hb hby own_db_4) (own_acmpEqF hc4) rfl ?_
    refine Run.aloadN (pc' := 8) X1 hx (hb hby own_db_7) rfl rfl ?_
    obtain ⟨T2, X2, e2, st2⟩ := getS2 X1 hx hZ hown (host := "") (Or.inl (hw _ (List.mem_of_getElem? (i := 60) rfl))) Via.refl e1 S_DENY_LOG (g := (mkF m 8 #[.val (.ref o0)] [(.ref o0)])) rfl (hb hby own_db_8)
    refine Run.back (g' := (mkF m 11 #[.val (.ref o0)] [(.ref a_DENY_LOG), (.ref o0)])) st2 ?_
    by_cases hc11 : o0 = a_DENY_LOG
    · rw [if_pos hc11] at hr
      refine Run.acmpNo (pc' := 14) X2 hx (hb hby own_db_11) (own_acmpNeT hc11) rfl ?_
      exact J14  _ hr _ _ X2 e2 N0
    · rw [if_neg hc11] at hr
      refine Run.acmpYes (pc' := 18) X2 hx (hb hby own_db_11) (own_acmpNeF hc11) (by decide) (by decide) ?_
      refine Run.iconst (pc' := 19) (v := (0 : Int32)) X2 hx (hb hby own_db_18) rfl rfl ?_
      exact J19 (0 : Int32) _ hr _ _ X2 e2 N0
theorem own_k5 (p0 : Int32) : ((p0 &&& (2147483647 : Int32)) % (5 : Int32)) = 0 ∨ ((p0 &&& (2147483647 : Int32)) % (5 : Int32)) = 1 ∨ ((p0 &&& (2147483647 : Int32)) % (5 : Int32)) = 2 ∨ ((p0 &&& (2147483647 : Int32)) % (5 : Int32)) = 3 ∨ ((p0 &&& (2147483647 : Int32)) % (5 : Int32)) = 4 := by
  have h1 := c_and p0 2147483647 (by decide)
  have h2 := (c_irem (p0 &&& 2147483647) 5 5 (by decide)).1 h1.1
  simp only [← Int32.toInt_inj]
  have e0 : (0 : Int32).toInt = 0 := rfl
  have e1 : (1 : Int32).toInt = 1 := rfl
  have e2 : (2 : Int32).toInt = 2 := rfl
  have e3 : (3 : Int32).toInt = 3 := rfl
  have e4 : (4 : Int32).toInt = 4 := rfl
  omega

theorem own_ef0 (m : MethodId) (x0 : Int32) : entryFrame m #[(.int x0)] maxLocals = mkF m 0 #[.val (.int x0), .unset, .unset, .unset, .unset, .unset] [] := by first | (simp [entryFrame, mkF, argsToLocals, Value.category, maxLocals]; done) | rfl
set_option maxRecDepth 65536 in
set_option maxHeartbeats 40000000 in
theorem rm0 (l : Launch) (Z : State) (a0 : Array Value) (hw : ∀ d ∈ tables_1, d.before a0 Z = true) (ws : List Jvm.Cond) (p0 : Int32) (a_ALLOW : Addr) (a_ALLOW_LOG : Addr) (a_DENY : Addr) (a_DENY_LOG : Addr) (a_DEFER : Addr) (s_ALLOW : Addr) (s_ALLOW_LOG : Addr) (s_DENY : Addr) (s_DENY_LOG : Addr) (s_DEFER : Addr) (v_ALLOW : Addr) (v_ALLOW_LOG : Addr) (v_DENY : Addr) (v_DENY_LOG : Addr) (v_DEFER : Addr) (cs : Int32) (fm : Value) (h0 : Heap) (n0 : Nat) (Z0 : n0 ≤ h0.size) (S_ALLOW : Sta Z h0 "com/example/portcullis/portcullis/Outcome" "ALLOW" "Lcom/example/portcullis/portcullis/Outcome;" (.ref a_ALLOW)) (S_ALLOW_LOG : Sta Z h0 "com/example/portcullis/portcullis/Outcome" "ALLOW_LOG" "Lcom/example/portcullis/portcullis/Outcome;" (.ref a_ALLOW_LOG)) (S_DENY : Sta Z h0 "com/example/portcullis/portcullis/Outcome" "DENY" "Lcom/example/portcullis/portcullis/Outcome;" (.ref a_DENY)) (S_DENY_LOG : Sta Z h0 "com/example/portcullis/portcullis/Outcome" "DENY_LOG" "Lcom/example/portcullis/portcullis/Outcome;" (.ref a_DENY_LOG)) (S_DEFER : Sta Z h0 "com/example/portcullis/portcullis/Outcome" "DEFER" "Lcom/example/portcullis/portcullis/Outcome;" (.ref a_DEFER)) (E_ALLOW : Exa Z h0 a_ALLOW "com/example/portcullis/portcullis/Outcome") (E_ALLOW_LOG : Exa Z h0 a_ALLOW_LOG "com/example/portcullis/portcullis/Outcome") (E_DENY : Exa Z h0 a_DENY "com/example/portcullis/portcullis/Outcome") (E_DENY_LOG : Exa Z h0 a_DENY_LOG "com/example/portcullis/portcullis/Outcome") (E_DEFER : Exa Z h0 a_DEFER "com/example/portcullis/portcullis/Outcome") (F_ALLOW_word : Fld Z h0 a_ALLOW "com/example/portcullis/portcullis/Outcome" "word" "Ljava/lang/String;" (.ref s_ALLOW)) (ES_ALLOW : Exa Z h0 s_ALLOW "java/lang/String") (F_ALLOW_value : Fld Z h0 s_ALLOW "java/lang/String" "value" "[B" (.ref v_ALLOW)) (F_ALLOW_coder : Fld Z h0 s_ALLOW "java/lang/String" "coder" "B" (.int (0 : Int32))) (A_ALLOW : Ints Z h0 v_ALLOW .byte (5 : Int32) own_w_ALLOW) (F_ALLOW_LOG_word : Fld Z h0 a_ALLOW_LOG "com/example/portcullis/portcullis/Outcome" "word" "Ljava/lang/String;" (.ref s_ALLOW_LOG)) (ES_ALLOW_LOG : Exa Z h0 s_ALLOW_LOG "java/lang/String") (F_ALLOW_LOG_value : Fld Z h0 s_ALLOW_LOG "java/lang/String" "value" "[B" (.ref v_ALLOW_LOG)) (F_ALLOW_LOG_coder : Fld Z h0 s_ALLOW_LOG "java/lang/String" "coder" "B" (.int (0 : Int32))) (A_ALLOW_LOG : Ints Z h0 v_ALLOW_LOG .byte (9 : Int32) own_w_ALLOW_LOG) (F_DENY_word : Fld Z h0 a_DENY "com/example/portcullis/portcullis/Outcome" "word" "Ljava/lang/String;" (.ref s_DENY)) (ES_DENY : Exa Z h0 s_DENY "java/lang/String") (F_DENY_value : Fld Z h0 s_DENY "java/lang/String" "value" "[B" (.ref v_DENY)) (F_DENY_coder : Fld Z h0 s_DENY "java/lang/String" "coder" "B" (.int (0 : Int32))) (A_DENY : Ints Z h0 v_DENY .byte (4 : Int32) own_w_DENY) (F_DENY_LOG_word : Fld Z h0 a_DENY_LOG "com/example/portcullis/portcullis/Outcome" "word" "Ljava/lang/String;" (.ref s_DENY_LOG)) (ES_DENY_LOG : Exa Z h0 s_DENY_LOG "java/lang/String") (F_DENY_LOG_value : Fld Z h0 s_DENY_LOG "java/lang/String" "value" "[B" (.ref v_DENY_LOG)) (F_DENY_LOG_coder : Fld Z h0 s_DENY_LOG "java/lang/String" "coder" "B" (.int (0 : Int32))) (A_DENY_LOG : Ints Z h0 v_DENY_LOG .byte (8 : Int32) own_w_DENY_LOG) (F_DEFER_word : Fld Z h0 a_DEFER "com/example/portcullis/portcullis/Outcome" "word" "Ljava/lang/String;" (.ref s_DEFER)) (ES_DEFER : Exa Z h0 s_DEFER "java/lang/String") (F_DEFER_value : Fld Z h0 s_DEFER "java/lang/String" "value" "[B" (.ref v_DEFER)) (F_DEFER_coder : Fld Z h0 s_DEFER "java/lang/String" "coder" "B" (.int (0 : Int32))) (A_DEFER : Ints Z h0 v_DEFER .byte (5 : Int32) own_w_DEFER) (S_cs : Sta Z h0 "java/lang/String" "COMPACT_STRINGS" "Z" (.int cs)) (hcs : ¬ cs = (0 : Int32)) (S_f : Sta Z h0 "jdk/internal/util/Preconditions" "SIOOBE_FORMATTER" "Ljava/util/function/BiFunction;" fm) (hfm : fm.isRef = true) (ne_ALLOW_ALLOW_LOG : ¬ a_ALLOW = a_ALLOW_LOG) (ne_ALLOW_DENY : ¬ a_ALLOW = a_DENY) (ne_ALLOW_DENY_LOG : ¬ a_ALLOW = a_DENY_LOG) (ne_ALLOW_DEFER : ¬ a_ALLOW = a_DEFER) (ne_ALLOW_LOG_ALLOW : ¬ a_ALLOW_LOG = a_ALLOW) (ne_ALLOW_LOG_DENY : ¬ a_ALLOW_LOG = a_DENY) (ne_ALLOW_LOG_DENY_LOG : ¬ a_ALLOW_LOG = a_DENY_LOG) (ne_ALLOW_LOG_DEFER : ¬ a_ALLOW_LOG = a_DEFER) (ne_DENY_ALLOW : ¬ a_DENY = a_ALLOW) (ne_DENY_ALLOW_LOG : ¬ a_DENY = a_ALLOW_LOG) (ne_DENY_DENY_LOG : ¬ a_DENY = a_DENY_LOG) (ne_DENY_DEFER : ¬ a_DENY = a_DEFER) (ne_DENY_LOG_ALLOW : ¬ a_DENY_LOG = a_ALLOW) (ne_DENY_LOG_ALLOW_LOG : ¬ a_DENY_LOG = a_ALLOW_LOG) (ne_DENY_LOG_DENY : ¬ a_DENY_LOG = a_DENY) (ne_DENY_LOG_DEFER : ¬ a_DENY_LOG = a_DEFER) (ne_DEFER_ALLOW : ¬ a_DEFER = a_ALLOW) (ne_DEFER_ALLOW_LOG : ¬ a_DEFER = a_ALLOW_LOG) (ne_DEFER_DENY : ¬ a_DEFER = a_DENY) (ne_DEFER_DENY_LOG : ¬ a_DEFER = a_DENY_LOG) :
    MetFree l x (head1 (Jvm.Cond.code x code maxLocals ret :: ws) room_1) (fun a U => a = #[(.int p0)] ∧ Z.Warmed39 U.vm ∧ U.heap = h0) (fun _ _ _ _ _ => True) (fun _ U o U' => ∃ v L, o = .returned v ∧ (Say (fun v h L => v = some (.int 1) ∧ Fr n0 L)) v U'.heap L ∧ FrameEnd U o U' L room_1.cells room_1.slots) := by
  refine MetFree.of_bodySF (plainFor_of_name own_pn0) hisR ?_
  intro p e s m args below meth c s₁ Bd hml0 hP hK
  obtain ⟨rfl, hZ, hh⟩ := hP
  have hx := Bd.exec
  have hby := Bd.bytes
  have hml : c.maxLocals = 6 := hml0
  have hown : s.vm.findClass "com/example/portcullis/portcullis/OutcomeIsLoggedPinLaw" = some m.cls := findClass_of_methodNamed Bd.named
  have hnm := (name_of_methodNamed Bd.named Bd.method).1
  have X0 : Stand p l e room_1 s m #[(.int p0)] below meth c s₁ [] 0 0 := Stand.of_body Bd
  have e0 : s₁.heap = h0 := by rw [← hh, Bd.state]; rfl
  have N0 := Fr.nil n0
  suffices H : Run p.tables e below (FinR s room_1.cells room_1.slots (Say (fun v h L => v = some (.int 1) ∧ Fr n0 L))) s₁ (mkF m 0 #[.val (.int p0), .unset, .unset, .unset, .unset, .unset] []) by
    obtain ⟨s₂, o, k1, k2, k3, k4⟩ := H
    exact ⟨s₂, o, castTop (own_ef0 m p0) k1, k2, k3, k4⟩
  refine Run.iloadN (pc' := 1) X0 hx (hb hby at_0) rfl rfl ?_
  refine Run.ldcInt (pc' := 3) (v := (2147483647 : Int32)) X0 hx hown (mvT hZ (hw _ (List.mem_of_getElem? (i := 0) rfl))) (hb hby at_1) rfl ?_
  refine Run.iand (pc' := 4) X0 hx (hb hby at_3) rfl ?_
  refine Run.iconst (pc' := 5) (v := (5 : Int32)) X0 hx (hb hby at_4) rfl rfl ?_
  refine Run.irem (pc' := 6) X0 hx (hb hby at_5) (by decide) rfl ?_
  refine Run.istoreN (pc' := 7) X0 hx (l' := #[.val (.int p0), .val (.int ((p0 &&& (2147483647 : Int32)) % (5 : Int32))), .unset, .unset, .unset, .unset]) (hb hby at_6) rfl rfl ?_
  rcases own_k5 p0 with hk | hk | hk | hk | hk
  · rw [hk]
    refine Run.iloadN (pc' := 8) X0 hx (hb hby at_7) rfl rfl ?_
    obtain ⟨T1, L1, v1, X1, Q1, st1⟩ := callStatic X0 hx (y := (⟨"com/example/portcullis/portcullis/OutcomeIsLoggedPinLaw", "pick", "(I)Lcom/example/portcullis/portcullis/Outcome;"⟩ : MethodName)) (Ls := #[.val (.int p0), .val (.int (0 : Int32)), .unset, .unset, .unset, .unset]) (rest := []) (W := 0) (argsL := [(.int (0 : Int32))]) hZ hown (hw _ (List.mem_of_getElem? (i := 1) rfl)) (hw _ (List.mem_of_getElem? (i := 2) rfl)) (hw _ (List.mem_of_getElem? (i := 3) rfl)) (hw _ (List.mem_of_getElem? (i := 4) rfl)) (by decide) e0 (rm1 l Z a0 hw [] (0 : Int32) a_ALLOW a_ALLOW_LOG a_DENY a_DENY_LOG a_DEFER h0 n0 Z0 S_ALLOW S_ALLOW_LOG S_DENY S_DENY_LOG S_DEFER) (hb hby at_8) (lenOf own_pd5 rfl) (by decide) (by decide) (by rw [hml]; rfl) (Nat.le_of_eq rfl) (by decide) (by decide)
    obtain ⟨hv1, M1, e1⟩ := Q1
    rw [show (own_F1 (0 : Int32) a_ALLOW a_ALLOW_LOG a_DENY a_DENY_LOG a_DEFER) = a_ALLOW from rfl] at hv1
    subst hv1
    have N1 := Fr.app N0 M1
    refine Run.back (g' := (mkF m 11 #[.val (.int p0), .val (.int (0 : Int32)), .unset, .unset, .unset, .unset] [(.ref a_ALLOW)])) st1 ?_
    refine Run.astoreN (pc' := 12) X1 hx (l' := #[.val (.int p0), .val (.int (0 : Int32)), .val (.ref a_ALLOW), .unset, .unset, .unset]) (hb hby at_11) rfl rfl ?_
    refine Run.aloadN (pc' := 13) X1 hx (hb hby at_12) rfl rfl ?_
    obtain ⟨T2, L2, v2, X2, Q2, st2⟩ := callVirtual X1 hx (y := (⟨"com/example/portcullis/portcullis/Outcome", "word", "()Ljava/lang/String;"⟩ : MethodName)) (z := (⟨"com/example/portcullis/portcullis/Outcome", "word", "()Ljava/lang/String;"⟩ : MethodName)) (C := "com/example/portcullis/portcullis/Outcome") (a := a_ALLOW) (Ls := #[.val (.int p0), .val (.int (0 : Int32)), .val (.ref a_ALLOW), .unset, .unset, .unset]) (rest := []) (W := 0) (argsL := []) hZ hown (hw _ (List.mem_of_getElem? (i := 8) rfl)) (hw _ (List.mem_of_getElem? (i := 9) rfl)) (notFace_of_selects (args := #[]) (mvT hZ (hw _ (List.mem_of_getElem? (i := 11) rfl)))) (hw _ (List.mem_of_getElem? (i := 11) rfl)) (hw _ (List.mem_of_getElem? (i := 10) rfl)) (hw _ (List.mem_of_getElem? (i := 6) rfl)) (hw _ (List.mem_of_getElem? (i := 12) rfl)) (by decide) e1 E_ALLOW (rm2 l Z a0 hw [] a_ALLOW s_ALLOW h0 n0 Z0 F_ALLOW_word) (hb hby at_13) (lenOf own_pd6 rfl) (by decide) (by decide) (by rw [hml]; rfl) (Nat.le_of_eq rfl) (by decide) (by decide)
    obtain ⟨hv2, M2, e2⟩ := Q2
    rw [show (own_F2 a_ALLOW s_ALLOW) = s_ALLOW from rfl] at hv2
    subst hv2
    have N2 := Fr.app N1 M2
    refine Run.back (g' := (mkF m 16 #[.val (.int p0), .val (.int (0 : Int32)), .val (.ref a_ALLOW), .unset, .unset, .unset] [(.ref s_ALLOW)])) st2 ?_
    refine Run.astoreN (pc' := 17) X2 hx (l' := #[.val (.int p0), .val (.int (0 : Int32)), .val (.ref a_ALLOW), .val (.ref s_ALLOW), .unset, .unset]) (hb hby at_16) rfl rfl ?_
    refine Run.aloadN (pc' := 18) X2 hx (hb hby at_17) rfl rfl ?_
    obtain ⟨T3, L3, v3, X3, Q3, st3⟩ := callVirtual X2 hx (y := (⟨"java/lang/String", "length", "()I"⟩ : MethodName)) (z := (⟨"java/lang/String", "length", "()I"⟩ : MethodName)) (C := "java/lang/String") (a := s_ALLOW) (Ls := #[.val (.int p0), .val (.int (0 : Int32)), .val (.ref a_ALLOW), .val (.ref s_ALLOW), .unset, .unset]) (rest := []) (W := 0) (argsL := []) hZ hown (hw _ (List.mem_of_getElem? (i := 15) rfl)) (hw _ (List.mem_of_getElem? (i := 16) rfl)) (notFace_of_selects (args := #[]) (mvT hZ (hw _ (List.mem_of_getElem? (i := 18) rfl)))) (hw _ (List.mem_of_getElem? (i := 18) rfl)) (hw _ (List.mem_of_getElem? (i := 17) rfl)) (hw _ (List.mem_of_getElem? (i := 19) rfl)) (hw _ (List.mem_of_getElem? (i := 20) rfl)) (by decide) e2 ES_ALLOW (rm4 l Z a0 hw [] s_ALLOW cs v_ALLOW own_w_ALLOW (5 : Int32) h0 n0 Z0 ES_ALLOW F_ALLOW_value A_ALLOW F_ALLOW_coder S_cs hcs) (hb hby at_18) (lenOf own_pd7 rfl) (by decide) (by decide) (by rw [hml]; rfl) (Nat.le_of_eq rfl) (by decide) (by decide)
    obtain ⟨hv3, M3, e3⟩ := Q3
    rw [show (own_F4 s_ALLOW (5 : Int32)) = (5 : Int32) from rfl] at hv3
    subst hv3
    have N3 := Fr.app N2 M3
    refine Run.back (g' := (mkF m 21 #[.val (.int p0), .val (.int (0 : Int32)), .val (.ref a_ALLOW), .val (.ref s_ALLOW), .unset, .unset] [(.int (5 : Int32))])) st3 ?_
    refine Run.istore (pc' := 23) X3 hx (l' := #[.val (.int p0), .val (.int (0 : Int32)), .val (.ref a_ALLOW), .val (.ref s_ALLOW), .val (.int (5 : Int32)), .unset]) (hb hby at_21) rfl rfl ?_
    refine Run.iload (pc' := 25) X3 hx (hb hby at_23) rfl rfl ?_
    refine Run.iconst (pc' := 26) (v := (4 : Int32)) X3 hx (hb hby at_25) rfl rfl ?_
    refine Run.icmpNo (pc' := 29) X3 hx (hb hby at_26) (flt (by decide : ¬ ((5 : Int32) < (4 : Int32)))).1 rfl ?_
    refine Run.aloadN (pc' := 30) X3 hx (hb hby at_29) rfl rfl ?_
    refine Run.iload (pc' := 32) X3 hx (hb hby at_30) rfl rfl ?_
    refine Run.iconst (pc' := 33) (v := (4 : Int32)) X3 hx (hb hby at_32) rfl rfl ?_
    refine Run.isub (pc' := 34) X3 hx (hb hby at_33) rfl ?_
    obtain ⟨T4, L4, v4, X4, Q4, st4⟩ := callVirtual X3 hx (y := (⟨"java/lang/String", "charAt", "(I)C"⟩ : MethodName)) (z := (⟨"java/lang/String", "charAt", "(I)C"⟩ : MethodName)) (C := "java/lang/String") (a := s_ALLOW) (Ls := #[.val (.int p0), .val (.int (0 : Int32)), .val (.ref a_ALLOW), .val (.ref s_ALLOW), .val (.int (5 : Int32)), .unset]) (rest := []) (W := 0) (argsL := [(.int ((5 : Int32) - (4 : Int32)))]) hZ hown (hw _ (List.mem_of_getElem? (i := 31) rfl)) (hw _ (List.mem_of_getElem? (i := 32) rfl)) (notFace_of_selects (args := #[]) (mvT hZ (hw _ (List.mem_of_getElem? (i := 34) rfl)))) (hw _ (List.mem_of_getElem? (i := 34) rfl)) (hw _ (List.mem_of_getElem? (i := 33) rfl)) (hw _ (List.mem_of_getElem? (i := 19) rfl)) (hw _ (List.mem_of_getElem? (i := 35) rfl)) (by decide) e3 ES_ALLOW (rma l Z a0 hw [] s_ALLOW ((5 : Int32) - (4 : Int32)) cs (5 : Int32) fm v_ALLOW own_w_ALLOW h0 n0 Z0 ES_ALLOW F_ALLOW_value A_ALLOW F_ALLOW_coder S_cs hcs (by decide) (by decide) S_f hfm) (hb hby at_34) (lenOf own_pd8 rfl) (by decide) (by decide) (by rw [hml]; rfl) (Nat.le_of_eq rfl) (by decide) (by decide)
    obtain ⟨hv4, M4, e4⟩ := Q4
    rw [show (own_Fa s_ALLOW ((5 : Int32) - (4 : Int32)) v_ALLOW own_w_ALLOW) = (108 : Int32) from rfl] at hv4
    subst hv4
    have N4 := Fr.app N3 M4
    refine Run.back (g' := (mkF m 37 #[.val (.int p0), .val (.int (0 : Int32)), .val (.ref a_ALLOW), .val (.ref s_ALLOW), .val (.int (5 : Int32)), .unset] [(.int (108 : Int32))])) st4 ?_
    refine Run.bipush (pc' := 39) (v := (45 : Int32)) X4 hx (hb hby at_37) rfl rfl ?_
    refine Run.icmpYes (pc' := 85) X4 hx (hb hby at_39) (feq (by decide : ¬ ((108 : Int32) = (45 : Int32)))).2 (by decide) (by decide) ?_
    refine Run.iconst (pc' := 86) (v := (0 : Int32)) X4 hx (hb hby at_85) rfl rfl ?_
    refine Run.istore (pc' := 88) X4 hx (l' := #[.val (.int p0), .val (.int (0 : Int32)), .val (.ref a_ALLOW), .val (.ref s_ALLOW), .val (.int (5 : Int32)), .val (.int (0 : Int32))]) (hb hby at_86) rfl rfl ?_
    refine Run.aloadN (pc' := 89) X4 hx (hb hby at_88) rfl rfl ?_
    obtain ⟨T5, L5, v5, X5, Q5, st5⟩ := callVirtual X4 hx (y := (⟨"com/example/portcullis/portcullis/Outcome", "isLogged", "()Z"⟩ : MethodName)) (z := (⟨"com/example/portcullis/portcullis/Outcome", "isLogged", "()Z"⟩ : MethodName)) (C := "com/example/portcullis/portcullis/Outcome") (a := a_ALLOW) (Ls := #[.val (.int p0), .val (.int (0 : Int32)), .val (.ref a_ALLOW), .val (.ref s_ALLOW), .val (.int (5 : Int32)), .val (.int (0 : Int32))]) (rest := []) (W := 0) (argsL := []) hZ hown (hw _ (List.mem_of_getElem? (i := 53) rfl)) (hw _ (List.mem_of_getElem? (i := 54) rfl)) (notFace_of_selects (args := #[]) (mvT hZ (hw _ (List.mem_of_getElem? (i := 56) rfl)))) (hw _ (List.mem_of_getElem? (i := 56) rfl)) (hw _ (List.mem_of_getElem? (i := 55) rfl)) (hw _ (List.mem_of_getElem? (i := 6) rfl)) (hw _ (List.mem_of_getElem? (i := 57) rfl)) (by decide) e4 E_ALLOW (rmb l Z a0 hw [] a_ALLOW a_ALLOW_LOG a_DENY_LOG h0 n0 Z0 S_ALLOW_LOG S_DENY_LOG) (hb hby at_89) (lenOf own_pd3 rfl) (by decide) (by decide) (by rw [hml]; rfl) (Nat.le_of_eq rfl) (by decide) (by decide)
    obtain ⟨hv5, M5, e5⟩ := Q5
    rw [show (own_Fb a_ALLOW a_ALLOW_LOG a_DENY_LOG) = (0 : Int32) from (by simp [own_fb_19, own_fb_14, own_Fb, ne_ALLOW_ALLOW_LOG, ne_ALLOW_DENY, ne_ALLOW_DENY_LOG, ne_ALLOW_DEFER, ne_ALLOW_LOG_ALLOW, ne_ALLOW_LOG_DENY, ne_ALLOW_LOG_DENY_LOG, ne_ALLOW_LOG_DEFER, ne_DENY_ALLOW, ne_DENY_ALLOW_LOG, ne_DENY_DENY_LOG, ne_DENY_DEFER, ne_DENY_LOG_ALLOW, ne_DENY_LOG_ALLOW_LOG, ne_DENY_LOG_DENY, ne_DENY_LOG_DEFER, ne_DEFER_ALLOW, ne_DEFER_ALLOW_LOG, ne_DEFER_DENY, ne_DEFER_DENY_LOG])] at hv5
    subst hv5
    have N5 := Fr.app N4 M5
    refine Run.back (g' := (mkF m 92 #[.val (.int p0), .val (.int (0 : Int32)), .val (.ref a_ALLOW), .val (.ref s_ALLOW), .val (.int (5 : Int32)), .val (.int (0 : Int32))] [(.int (0 : Int32))])) st5 ?_
    refine Run.iload (pc' := 94) X5 hx (hb hby at_92) rfl rfl ?_
    refine Run.icmpNo (pc' := 97) X5 hx (hb hby at_94) (teq (by decide : (0 : Int32) = (0 : Int32))).2 rfl ?_
    refine Run.iconst (pc' := 98) (v := (1 : Int32)) X5 hx (hb hby at_97) rfl rfl ?_
    refine Run.goto (pc' := 102) X5 hx (hb hby at_98) (by decide) (by decide) ?_
    exact Run.retSmall X5 hx (t := .boolean) (z' := (1 : Int32)) Bd.notSynchronized Bd.returns (by simp) rfl (hb hby at_102) ⟨rfl, N5⟩ (by decide) (by decide)
  · rw [hk]
    refine Run.iloadN (pc' := 8) X0 hx (hb hby at_7) rfl rfl ?_
    obtain ⟨T6, L6, v6, X6, Q6, st6⟩ := callStatic X0 hx (y := (⟨"com/example/portcullis/portcullis/OutcomeIsLoggedPinLaw", "pick", "(I)Lcom/example/portcullis/portcullis/Outcome;"⟩ : MethodName)) (Ls := #[.val (.int p0), .val (.int (1 : Int32)), .unset, .unset, .unset, .unset]) (rest := []) (W := 0) (argsL := [(.int (1 : Int32))]) hZ hown (hw _ (List.mem_of_getElem? (i := 1) rfl)) (hw _ (List.mem_of_getElem? (i := 2) rfl)) (hw _ (List.mem_of_getElem? (i := 3) rfl)) (hw _ (List.mem_of_getElem? (i := 4) rfl)) (by decide) e0 (rm1 l Z a0 hw [] (1 : Int32) a_ALLOW a_ALLOW_LOG a_DENY a_DENY_LOG a_DEFER h0 n0 Z0 S_ALLOW S_ALLOW_LOG S_DENY S_DENY_LOG S_DEFER) (hb hby at_8) (lenOf own_pd5 rfl) (by decide) (by decide) (by rw [hml]; rfl) (Nat.le_of_eq rfl) (by decide) (by decide)
    obtain ⟨hv6, M6, e6⟩ := Q6
    rw [show (own_F1 (1 : Int32) a_ALLOW a_ALLOW_LOG a_DENY a_DENY_LOG a_DEFER) = a_ALLOW_LOG from rfl] at hv6
    subst hv6
    have N6 := Fr.app N0 M6
    refine Run.back (g' := (mkF m 11 #[.val (.int p0), .val (.int (1 : Int32)), .unset, .unset, .unset, .unset] [(.ref a_ALLOW_LOG)])) st6 ?_
    refine Run.astoreN (pc' := 12) X6 hx (l' := #[.val (.int p0), .val (.int (1 : Int32)), .val (.ref a_ALLOW_LOG), .unset, .unset, .unset]) (hb hby at_11) rfl rfl ?_
    refine Run.aloadN (pc' := 13) X6 hx (hb hby at_12) rfl rfl ?_
    obtain ⟨T7, L7, v7, X7, Q7, st7⟩ := callVirtual X6 hx (y := (⟨"com/example/portcullis/portcullis/Outcome", "word", "()Ljava/lang/String;"⟩ : MethodName)) (z := (⟨"com/example/portcullis/portcullis/Outcome", "word", "()Ljava/lang/String;"⟩ : MethodName)) (C := "com/example/portcullis/portcullis/Outcome") (a := a_ALLOW_LOG) (Ls := #[.val (.int p0), .val (.int (1 : Int32)), .val (.ref a_ALLOW_LOG), .unset, .unset, .unset]) (rest := []) (W := 0) (argsL := []) hZ hown (hw _ (List.mem_of_getElem? (i := 8) rfl)) (hw _ (List.mem_of_getElem? (i := 9) rfl)) (notFace_of_selects (args := #[]) (mvT hZ (hw _ (List.mem_of_getElem? (i := 11) rfl)))) (hw _ (List.mem_of_getElem? (i := 11) rfl)) (hw _ (List.mem_of_getElem? (i := 10) rfl)) (hw _ (List.mem_of_getElem? (i := 6) rfl)) (hw _ (List.mem_of_getElem? (i := 12) rfl)) (by decide) e6 E_ALLOW_LOG (rm2 l Z a0 hw [] a_ALLOW_LOG s_ALLOW_LOG h0 n0 Z0 F_ALLOW_LOG_word) (hb hby at_13) (lenOf own_pd6 rfl) (by decide) (by decide) (by rw [hml]; rfl) (Nat.le_of_eq rfl) (by decide) (by decide)
    obtain ⟨hv7, M7, e7⟩ := Q7
    rw [show (own_F2 a_ALLOW_LOG s_ALLOW_LOG) = s_ALLOW_LOG from rfl] at hv7
    subst hv7
    have N7 := Fr.app N6 M7
    refine Run.back (g' := (mkF m 16 #[.val (.int p0), .val (.int (1 : Int32)), .val (.ref a_ALLOW_LOG), .unset, .unset, .unset] [(.ref s_ALLOW_LOG)])) st7 ?_
    refine Run.astoreN (pc' := 17) X7 hx (l' := #[.val (.int p0), .val (.int (1 : Int32)), .val (.ref a_ALLOW_LOG), .val (.ref s_ALLOW_LOG), .unset, .unset]) (hb hby at_16) rfl rfl ?_
    refine Run.aloadN (pc' := 18) X7 hx (hb hby at_17) rfl rfl ?_
    obtain ⟨T8, L8, v8, X8, Q8, st8⟩ := callVirtual X7 hx (y := (⟨"java/lang/String", "length", "()I"⟩ : MethodName)) (z := (⟨"java/lang/String", "length", "()I"⟩ : MethodName)) (C := "java/lang/String") (a := s_ALLOW_LOG) (Ls := #[.val (.int p0), .val (.int (1 : Int32)), .val (.ref a_ALLOW_LOG), .val (.ref s_ALLOW_LOG), .unset, .unset]) (rest := []) (W := 0) (argsL := []) hZ hown (hw _ (List.mem_of_getElem? (i := 15) rfl)) (hw _ (List.mem_of_getElem? (i := 16) rfl)) (notFace_of_selects (args := #[]) (mvT hZ (hw _ (List.mem_of_getElem? (i := 18) rfl)))) (hw _ (List.mem_of_getElem? (i := 18) rfl)) (hw _ (List.mem_of_getElem? (i := 17) rfl)) (hw _ (List.mem_of_getElem? (i := 19) rfl)) (hw _ (List.mem_of_getElem? (i := 20) rfl)) (by decide) e7 ES_ALLOW_LOG (rm4 l Z a0 hw [] s_ALLOW_LOG cs v_ALLOW_LOG own_w_ALLOW_LOG (9 : Int32) h0 n0 Z0 ES_ALLOW_LOG F_ALLOW_LOG_value A_ALLOW_LOG F_ALLOW_LOG_coder S_cs hcs) (hb hby at_18) (lenOf own_pd7 rfl) (by decide) (by decide) (by rw [hml]; rfl) (Nat.le_of_eq rfl) (by decide) (by decide)
    obtain ⟨hv8, M8, e8⟩ := Q8
    rw [show (own_F4 s_ALLOW_LOG (9 : Int32)) = (9 : Int32) from rfl] at hv8
    subst hv8
    have N8 := Fr.app N7 M8
    refine Run.back (g' := (mkF m 21 #[.val (.int p0), .val (.int (1 : Int32)), .val (.ref a_ALLOW_LOG), .val (.ref s_ALLOW_LOG), .unset, .unset] [(.int (9 : Int32))])) st8 ?_
    refine Run.istore (pc' := 23) X8 hx (l' := #[.val (.int p0), .val (.int (1 : Int32)), .val (.ref a_ALLOW_LOG), .val (.ref s_ALLOW_LOG), .val (.int (9 : Int32)), .unset]) (hb hby at_21) rfl rfl ?_
    refine Run.iload (pc' := 25) X8 hx (hb hby at_23) rfl rfl ?_
    refine Run.iconst (pc' := 26) (v := (4 : Int32)) X8 hx (hb hby at_25) rfl rfl ?_
    refine Run.icmpNo (pc' := 29) X8 hx (hb hby at_26) (flt (by decide : ¬ ((9 : Int32) < (4 : Int32)))).1 rfl ?_
    refine Run.aloadN (pc' := 30) X8 hx (hb hby at_29) rfl rfl ?_
    refine Run.iload (pc' := 32) X8 hx (hb hby at_30) rfl rfl ?_
    refine Run.iconst (pc' := 33) (v := (4 : Int32)) X8 hx (hb hby at_32) rfl rfl ?_
    refine Run.isub (pc' := 34) X8 hx (hb hby at_33) rfl ?_
    obtain ⟨T9, L9, v9, X9, Q9, st9⟩ := callVirtual X8 hx (y := (⟨"java/lang/String", "charAt", "(I)C"⟩ : MethodName)) (z := (⟨"java/lang/String", "charAt", "(I)C"⟩ : MethodName)) (C := "java/lang/String") (a := s_ALLOW_LOG) (Ls := #[.val (.int p0), .val (.int (1 : Int32)), .val (.ref a_ALLOW_LOG), .val (.ref s_ALLOW_LOG), .val (.int (9 : Int32)), .unset]) (rest := []) (W := 0) (argsL := [(.int ((9 : Int32) - (4 : Int32)))]) hZ hown (hw _ (List.mem_of_getElem? (i := 31) rfl)) (hw _ (List.mem_of_getElem? (i := 32) rfl)) (notFace_of_selects (args := #[]) (mvT hZ (hw _ (List.mem_of_getElem? (i := 34) rfl)))) (hw _ (List.mem_of_getElem? (i := 34) rfl)) (hw _ (List.mem_of_getElem? (i := 33) rfl)) (hw _ (List.mem_of_getElem? (i := 19) rfl)) (hw _ (List.mem_of_getElem? (i := 35) rfl)) (by decide) e8 ES_ALLOW_LOG (rma l Z a0 hw [] s_ALLOW_LOG ((9 : Int32) - (4 : Int32)) cs (9 : Int32) fm v_ALLOW_LOG own_w_ALLOW_LOG h0 n0 Z0 ES_ALLOW_LOG F_ALLOW_LOG_value A_ALLOW_LOG F_ALLOW_LOG_coder S_cs hcs (by decide) (by decide) S_f hfm) (hb hby at_34) (lenOf own_pd8 rfl) (by decide) (by decide) (by rw [hml]; rfl) (Nat.le_of_eq rfl) (by decide) (by decide)
    obtain ⟨hv9, M9, e9⟩ := Q9
    rw [show (own_Fa s_ALLOW_LOG ((9 : Int32) - (4 : Int32)) v_ALLOW_LOG own_w_ALLOW_LOG) = (45 : Int32) from rfl] at hv9
    subst hv9
    have N9 := Fr.app N8 M9
    refine Run.back (g' := (mkF m 37 #[.val (.int p0), .val (.int (1 : Int32)), .val (.ref a_ALLOW_LOG), .val (.ref s_ALLOW_LOG), .val (.int (9 : Int32)), .unset] [(.int (45 : Int32))])) st9 ?_
    refine Run.bipush (pc' := 39) (v := (45 : Int32)) X9 hx (hb hby at_37) rfl rfl ?_
    refine Run.icmpNo (pc' := 42) X9 hx (hb hby at_39) (teq (by decide : (45 : Int32) = (45 : Int32))).2 rfl ?_
    refine Run.aloadN (pc' := 43) X9 hx (hb hby at_42) rfl rfl ?_
    refine Run.iload (pc' := 45) X9 hx (hb hby at_43) rfl rfl ?_
    refine Run.iconst (pc' := 46) (v := (3 : Int32)) X9 hx (hb hby at_45) rfl rfl ?_
    refine Run.isub (pc' := 47) X9 hx (hb hby at_46) rfl ?_
    obtain ⟨T10, L10, v10, X10, Q10, st10⟩ := callVirtual X9 hx (y := (⟨"java/lang/String", "charAt", "(I)C"⟩ : MethodName)) (z := (⟨"java/lang/String", "charAt", "(I)C"⟩ : MethodName)) (C := "java/lang/String") (a := s_ALLOW_LOG) (Ls := #[.val (.int p0), .val (.int (1 : Int32)), .val (.ref a_ALLOW_LOG), .val (.ref s_ALLOW_LOG), .val (.int (9 : Int32)), .unset]) (rest := []) (W := 0) (argsL := [(.int ((9 : Int32) - (3 : Int32)))]) hZ hown (hw _ (List.mem_of_getElem? (i := 31) rfl)) (hw _ (List.mem_of_getElem? (i := 32) rfl)) (notFace_of_selects (args := #[]) (mvT hZ (hw _ (List.mem_of_getElem? (i := 34) rfl)))) (hw _ (List.mem_of_getElem? (i := 34) rfl)) (hw _ (List.mem_of_getElem? (i := 33) rfl)) (hw _ (List.mem_of_getElem? (i := 19) rfl)) (hw _ (List.mem_of_getElem? (i := 35) rfl)) (by decide) e9 ES_ALLOW_LOG (rma l Z a0 hw [] s_ALLOW_LOG ((9 : Int32) - (3 : Int32)) cs (9 : Int32) fm v_ALLOW_LOG own_w_ALLOW_LOG h0 n0 Z0 ES_ALLOW_LOG F_ALLOW_LOG_value A_ALLOW_LOG F_ALLOW_LOG_coder S_cs hcs (by decide) (by decide) S_f hfm) (hb hby at_47) (lenOf own_pd8 rfl) (by decide) (by decide) (by rw [hml]; rfl) (Nat.le_of_eq rfl) (by decide) (by decide)
    obtain ⟨hv10, M10, e10⟩ := Q10
    rw [show (own_Fa s_ALLOW_LOG ((9 : Int32) - (3 : Int32)) v_ALLOW_LOG own_w_ALLOW_LOG) = (108 : Int32) from rfl] at hv10
    subst hv10
    have N10 := Fr.app N9 M10
    refine Run.back (g' := (mkF m 50 #[.val (.int p0), .val (.int (1 : Int32)), .val (.ref a_ALLOW_LOG), .val (.ref s_ALLOW_LOG), .val (.int (9 : Int32)), .unset] [(.int (108 : Int32))])) st10 ?_
    refine Run.bipush (pc' := 52) (v := (108 : Int32)) X10 hx (hb hby at_50) rfl rfl ?_
    refine Run.icmpNo (pc' := 55) X10 hx (hb hby at_52) (teq (by decide : (108 : Int32) = (108 : Int32))).2 rfl ?_
    refine Run.aloadN (pc' := 56) X10 hx (hb hby at_55) rfl rfl ?_
    refine Run.iload (pc' := 58) X10 hx (hb hby at_56) rfl rfl ?_
    refine Run.iconst (pc' := 59) (v := (2 : Int32)) X10 hx (hb hby at_58) rfl rfl ?_
    refine Run.isub (pc' := 60) X10 hx (hb hby at_59) rfl ?_
    obtain ⟨T11, L11, v11, X11, Q11, st11⟩ := callVirtual X10 hx (y := (⟨"java/lang/String", "charAt", "(I)C"⟩ : MethodName)) (z := (⟨"java/lang/String", "charAt", "(I)C"⟩ : MethodName)) (C := "java/lang/String") (a := s_ALLOW_LOG) (Ls := #[.val (.int p0), .val (.int (1 : Int32)), .val (.ref a_ALLOW_LOG), .val (.ref s_ALLOW_LOG), .val (.int (9 : Int32)), .unset]) (rest := []) (W := 0) (argsL := [(.int ((9 : Int32) - (2 : Int32)))]) hZ hown (hw _ (List.mem_of_getElem? (i := 31) rfl)) (hw _ (List.mem_of_getElem? (i := 32) rfl)) (notFace_of_selects (args := #[]) (mvT hZ (hw _ (List.mem_of_getElem? (i := 34) rfl)))) (hw _ (List.mem_of_getElem? (i := 34) rfl)) (hw _ (List.mem_of_getElem? (i := 33) rfl)) (hw _ (List.mem_of_getElem? (i := 19) rfl)) (hw _ (List.mem_of_getElem? (i := 35) rfl)) (by decide) e10 ES_ALLOW_LOG (rma l Z a0 hw [] s_ALLOW_LOG ((9 : Int32) - (2 : Int32)) cs (9 : Int32) fm v_ALLOW_LOG own_w_ALLOW_LOG h0 n0 Z0 ES_ALLOW_LOG F_ALLOW_LOG_value A_ALLOW_LOG F_ALLOW_LOG_coder S_cs hcs (by decide) (by decide) S_f hfm) (hb hby at_60) (lenOf own_pd8 rfl) (by decide) (by decide) (by rw [hml]; rfl) (Nat.le_of_eq rfl) (by decide) (by decide)
    obtain ⟨hv11, M11, e11⟩ := Q11
    rw [show (own_Fa s_ALLOW_LOG ((9 : Int32) - (2 : Int32)) v_ALLOW_LOG own_w_ALLOW_LOG) = (111 : Int32) from rfl] at hv11
    subst hv11
    have N11 := Fr.app N10 M11
    refine Run.back (g' := (mkF m 63 #[.val (.int p0), .val (.int (1 : Int32)), .val (.ref a_ALLOW_LOG), .val (.ref s_ALLOW_LOG), .val (.int (9 : Int32)), .unset] [(.int (111 : Int32))])) st11 ?_
    refine Run.bipush (pc' := 65) (v := (111 : Int32)) X11 hx (hb hby at_63) rfl rfl ?_
    refine Run.icmpNo (pc' := 68) X11 hx (hb hby at_65) (teq (by decide : (111 : Int32) = (111 : Int32))).2 rfl ?_
    refine Run.aloadN (pc' := 69) X11 hx (hb hby at_68) rfl rfl ?_
    refine Run.iload (pc' := 71) X11 hx (hb hby at_69) rfl rfl ?_
    refine Run.iconst (pc' := 72) (v := (1 : Int32)) X11 hx (hb hby at_71) rfl rfl ?_
    refine Run.isub (pc' := 73) X11 hx (hb hby at_72) rfl ?_
    obtain ⟨T12, L12, v12, X12, Q12, st12⟩ := callVirtual X11 hx (y := (⟨"java/lang/String", "charAt", "(I)C"⟩ : MethodName)) (z := (⟨"java/lang/String", "charAt", "(I)C"⟩ : MethodName)) (C := "java/lang/String") (a := s_ALLOW_LOG) (Ls := #[.val (.int p0), .val (.int (1 : Int32)), .val (.ref a_ALLOW_LOG), .val (.ref s_ALLOW_LOG), .val (.int (9 : Int32)), .unset]) (rest := []) (W := 0) (argsL := [(.int ((9 : Int32) - (1 : Int32)))]) hZ hown (hw _ (List.mem_of_getElem? (i := 31) rfl)) (hw _ (List.mem_of_getElem? (i := 32) rfl)) (notFace_of_selects (args := #[]) (mvT hZ (hw _ (List.mem_of_getElem? (i := 34) rfl)))) (hw _ (List.mem_of_getElem? (i := 34) rfl)) (hw _ (List.mem_of_getElem? (i := 33) rfl)) (hw _ (List.mem_of_getElem? (i := 19) rfl)) (hw _ (List.mem_of_getElem? (i := 35) rfl)) (by decide) e11 ES_ALLOW_LOG (rma l Z a0 hw [] s_ALLOW_LOG ((9 : Int32) - (1 : Int32)) cs (9 : Int32) fm v_ALLOW_LOG own_w_ALLOW_LOG h0 n0 Z0 ES_ALLOW_LOG F_ALLOW_LOG_value A_ALLOW_LOG F_ALLOW_LOG_coder S_cs hcs (by decide) (by decide) S_f hfm) (hb hby at_73) (lenOf own_pd8 rfl) (by decide) (by decide) (by rw [hml]; rfl) (Nat.le_of_eq rfl) (by decide) (by decide)
    obtain ⟨hv12, M12, e12⟩ := Q12
    rw [show (own_Fa s_ALLOW_LOG ((9 : Int32) - (1 : Int32)) v_ALLOW_LOG own_w_ALLOW_LOG) = (103 : Int32) from rfl] at hv12
    subst hv12
    have N12 := Fr.app N11 M12
    refine Run.back (g' := (mkF m 76 #[.val (.int p0), .val (.int (1 : Int32)), .val (.ref a_ALLOW_LOG), .val (.ref s_ALLOW_LOG), .val (.int (9 : Int32)), .unset] [(.int (103 : Int32))])) st12 ?_
    refine Run.bipush (pc' := 78) (v := (103 : Int32)) X12 hx (hb hby at_76) rfl rfl ?_
    refine Run.icmpNo (pc' := 81) X12 hx (hb hby at_78) (teq (by decide : (103 : Int32) = (103 : Int32))).2 rfl ?_
    refine Run.iconst (pc' := 82) (v := (1 : Int32)) X12 hx (hb hby at_81) rfl rfl ?_
    refine Run.goto (pc' := 86) X12 hx (hb hby at_82) (by decide) (by decide) ?_
    refine Run.istore (pc' := 88) X12 hx (l' := #[.val (.int p0), .val (.int (1 : Int32)), .val (.ref a_ALLOW_LOG), .val (.ref s_ALLOW_LOG), .val (.int (9 : Int32)), .val (.int (1 : Int32))]) (hb hby at_86) rfl rfl ?_
    refine Run.aloadN (pc' := 89) X12 hx (hb hby at_88) rfl rfl ?_
    obtain ⟨T13, L13, v13, X13, Q13, st13⟩ := callVirtual X12 hx (y := (⟨"com/example/portcullis/portcullis/Outcome", "isLogged", "()Z"⟩ : MethodName)) (z := (⟨"com/example/portcullis/portcullis/Outcome", "isLogged", "()Z"⟩ : MethodName)) (C := "com/example/portcullis/portcullis/Outcome") (a := a_ALLOW_LOG) (Ls := #[.val (.int p0), .val (.int (1 : Int32)), .val (.ref a_ALLOW_LOG), .val (.ref s_ALLOW_LOG), .val (.int (9 : Int32)), .val (.int (1 : Int32))]) (rest := []) (W := 0) (argsL := []) hZ hown (hw _ (List.mem_of_getElem? (i := 53) rfl)) (hw _ (List.mem_of_getElem? (i := 54) rfl)) (notFace_of_selects (args := #[]) (mvT hZ (hw _ (List.mem_of_getElem? (i := 56) rfl)))) (hw _ (List.mem_of_getElem? (i := 56) rfl)) (hw _ (List.mem_of_getElem? (i := 55) rfl)) (hw _ (List.mem_of_getElem? (i := 6) rfl)) (hw _ (List.mem_of_getElem? (i := 57) rfl)) (by decide) e12 E_ALLOW_LOG (rmb l Z a0 hw [] a_ALLOW_LOG a_ALLOW_LOG a_DENY_LOG h0 n0 Z0 S_ALLOW_LOG S_DENY_LOG) (hb hby at_89) (lenOf own_pd3 rfl) (by decide) (by decide) (by rw [hml]; rfl) (Nat.le_of_eq rfl) (by decide) (by decide)
    obtain ⟨hv13, M13, e13⟩ := Q13
    rw [show (own_Fb a_ALLOW_LOG a_ALLOW_LOG a_DENY_LOG) = (1 : Int32) from (by simp [own_fb_19, own_fb_14, own_Fb, ne_ALLOW_ALLOW_LOG, ne_ALLOW_DENY, ne_ALLOW_DENY_LOG, ne_ALLOW_DEFER, ne_ALLOW_LOG_ALLOW, ne_ALLOW_LOG_DENY, ne_ALLOW_LOG_DENY_LOG, ne_ALLOW_LOG_DEFER, ne_DENY_ALLOW, ne_DENY_ALLOW_LOG, ne_DENY_DENY_LOG, ne_DENY_DEFER, ne_DENY_LOG_ALLOW, ne_DENY_LOG_ALLOW_LOG, ne_DENY_LOG_DENY, ne_DENY_LOG_DEFER, ne_DEFER_ALLOW, ne_DEFER_ALLOW_LOG, ne_DEFER_DENY, ne_DEFER_DENY_LOG])] at hv13
    subst hv13
    have N13 := Fr.app N12 M13
    refine Run.back (g' := (mkF m 92 #[.val (.int p0), .val (.int (1 : Int32)), .val (.ref a_ALLOW_LOG), .val (.ref s_ALLOW_LOG), .val (.int (9 : Int32)), .val (.int (1 : Int32))] [(.int (1 : Int32))])) st13 ?_
    refine Run.iload (pc' := 94) X13 hx (hb hby at_92) rfl rfl ?_
    refine Run.icmpNo (pc' := 97) X13 hx (hb hby at_94) (teq (by decide : (1 : Int32) = (1 : Int32))).2 rfl ?_
    refine Run.iconst (pc' := 98) (v := (1 : Int32)) X13 hx (hb hby at_97) rfl rfl ?_
    refine Run.goto (pc' := 102) X13 hx (hb hby at_98) (by decide) (by decide) ?_
    exact Run.retSmall X13 hx (t := .boolean) (z' := (1 : Int32)) Bd.notSynchronized Bd.returns (by simp) rfl (hb hby at_102) ⟨rfl, N13⟩ (by decide) (by decide)
  · rw [hk]
    refine Run.iloadN (pc' := 8) X0 hx (hb hby at_7) rfl rfl ?_
    obtain ⟨T14, L14, v14, X14, Q14, st14⟩ := callStatic X0 hx (y := (⟨"com/example/portcullis/portcullis/OutcomeIsLoggedPinLaw", "pick", "(I)Lcom/example/portcullis/portcullis/Outcome;"⟩ : MethodName)) (Ls := #[.val (.int p0), .val (.int (2 : Int32)), .unset, .unset, .unset, .unset]) (rest := []) (W := 0) (argsL := [(.int (2 : Int32))]) hZ hown (hw _ (List.mem_of_getElem? (i := 1) rfl)) (hw _ (List.mem_of_getElem? (i := 2) rfl)) (hw _ (List.mem_of_getElem? (i := 3) rfl)) (hw _ (List.mem_of_getElem? (i := 4) rfl)) (by decide) e0 (rm1 l Z a0 hw [] (2 : Int32) a_ALLOW a_ALLOW_LOG a_DENY a_DENY_LOG a_DEFER h0 n0 Z0 S_ALLOW S_ALLOW_LOG S_DENY S_DENY_LOG S_DEFER) (hb hby at_8) (lenOf own_pd5 rfl) (by decide) (by decide) (by rw [hml]; rfl) (Nat.le_of_eq rfl) (by decide) (by decide)
    obtain ⟨hv14, M14, e14⟩ := Q14
    rw [show (own_F1 (2 : Int32) a_ALLOW a_ALLOW_LOG a_DENY a_DENY_LOG a_DEFER) = a_DENY from rfl] at hv14
    subst hv14
    have N14 := Fr.app N0 M14
    refine Run.back (g' := (mkF m 11 #[.val (.int p0), .val (.int (2 : Int32)), .unset, .unset, .unset, .unset] [(.ref a_DENY)])) st14 ?_
    refine Run.astoreN (pc' := 12) X14 hx (l' := #[.val (.int p0), .val (.int (2 : Int32)), .val (.ref a_DENY), .unset, .unset, .unset]) (hb hby at_11) rfl rfl ?_
    refine Run.aloadN (pc' := 13) X14 hx (hb hby at_12) rfl rfl ?_
    obtain ⟨T15, L15, v15, X15, Q15, st15⟩ := callVirtual X14 hx (y := (⟨"com/example/portcullis/portcullis/Outcome", "word", "()Ljava/lang/String;"⟩ : MethodName)) (z := (⟨"com/example/portcullis/portcullis/Outcome", "word", "()Ljava/lang/String;"⟩ : MethodName)) (C := "com/example/portcullis/portcullis/Outcome") (a := a_DENY) (Ls := #[.val (.int p0), .val (.int (2 : Int32)), .val (.ref a_DENY), .unset, .unset, .unset]) (rest := []) (W := 0) (argsL := []) hZ hown (hw _ (List.mem_of_getElem? (i := 8) rfl)) (hw _ (List.mem_of_getElem? (i := 9) rfl)) (notFace_of_selects (args := #[]) (mvT hZ (hw _ (List.mem_of_getElem? (i := 11) rfl)))) (hw _ (List.mem_of_getElem? (i := 11) rfl)) (hw _ (List.mem_of_getElem? (i := 10) rfl)) (hw _ (List.mem_of_getElem? (i := 6) rfl)) (hw _ (List.mem_of_getElem? (i := 12) rfl)) (by decide) e14 E_DENY (rm2 l Z a0 hw [] a_DENY s_DENY h0 n0 Z0 F_DENY_word) (hb hby at_13) (lenOf own_pd6 rfl) (by decide) (by decide) (by rw [hml]; rfl) (Nat.le_of_eq rfl) (by decide) (by decide)
    obtain ⟨hv15, M15, e15⟩ := Q15
    rw [show (own_F2 a_DENY s_DENY) = s_DENY from rfl] at hv15
    subst hv15
    have N15 := Fr.app N14 M15
    refine Run.back (g' := (mkF m 16 #[.val (.int p0), .val (.int (2 : Int32)), .val (.ref a_DENY), .unset, .unset, .unset] [(.ref s_DENY)])) st15 ?_
    refine Run.astoreN (pc' := 17) X15 hx (l' := #[.val (.int p0), .val (.int (2 : Int32)), .val (.ref a_DENY), .val (.ref s_DENY), .unset, .unset]) (hb hby at_16) rfl rfl ?_
    refine Run.aloadN (pc' := 18) X15 hx (hb hby at_17) rfl rfl ?_
    obtain ⟨T16, L16, v16, X16, Q16, st16⟩ := callVirtual X15 hx (y := (⟨"java/lang/String", "length", "()I"⟩ : MethodName)) (z := (⟨"java/lang/String", "length", "()I"⟩ : MethodName)) (C := "java/lang/String") (a := s_DENY) (Ls := #[.val (.int p0), .val (.int (2 : Int32)), .val (.ref a_DENY), .val (.ref s_DENY), .unset, .unset]) (rest := []) (W := 0) (argsL := []) hZ hown (hw _ (List.mem_of_getElem? (i := 15) rfl)) (hw _ (List.mem_of_getElem? (i := 16) rfl)) (notFace_of_selects (args := #[]) (mvT hZ (hw _ (List.mem_of_getElem? (i := 18) rfl)))) (hw _ (List.mem_of_getElem? (i := 18) rfl)) (hw _ (List.mem_of_getElem? (i := 17) rfl)) (hw _ (List.mem_of_getElem? (i := 19) rfl)) (hw _ (List.mem_of_getElem? (i := 20) rfl)) (by decide) e15 ES_DENY (rm4 l Z a0 hw [] s_DENY cs v_DENY own_w_DENY (4 : Int32) h0 n0 Z0 ES_DENY F_DENY_value A_DENY F_DENY_coder S_cs hcs) (hb hby at_18) (lenOf own_pd7 rfl) (by decide) (by decide) (by rw [hml]; rfl) (Nat.le_of_eq rfl) (by decide) (by decide)
    obtain ⟨hv16, M16, e16⟩ := Q16
    rw [show (own_F4 s_DENY (4 : Int32)) = (4 : Int32) from rfl] at hv16
    subst hv16
    have N16 := Fr.app N15 M16
    refine Run.back (g' := (mkF m 21 #[.val (.int p0), .val (.int (2 : Int32)), .val (.ref a_DENY), .val (.ref s_DENY), .unset, .unset] [(.int (4 : Int32))])) st16 ?_
    refine Run.istore (pc' := 23) X16 hx (l' := #[.val (.int p0), .val (.int (2 : Int32)), .val (.ref a_DENY), .val (.ref s_DENY), .val (.int (4 : Int32)), .unset]) (hb hby at_21) rfl rfl ?_
    refine Run.iload (pc' := 25) X16 hx (hb hby at_23) rfl rfl ?_
    refine Run.iconst (pc' := 26) (v := (4 : Int32)) X16 hx (hb hby at_25) rfl rfl ?_
    refine Run.icmpNo (pc' := 29) X16 hx (hb hby at_26) (flt (by decide : ¬ ((4 : Int32) < (4 : Int32)))).1 rfl ?_
    refine Run.aloadN (pc' := 30) X16 hx (hb hby at_29) rfl rfl ?_
    refine Run.iload (pc' := 32) X16 hx (hb hby at_30) rfl rfl ?_
    refine Run.iconst (pc' := 33) (v := (4 : Int32)) X16 hx (hb hby at_32) rfl rfl ?_
    refine Run.isub (pc' := 34) X16 hx (hb hby at_33) rfl ?_
    obtain ⟨T17, L17, v17, X17, Q17, st17⟩ := callVirtual X16 hx (y := (⟨"java/lang/String", "charAt", "(I)C"⟩ : MethodName)) (z := (⟨"java/lang/String", "charAt", "(I)C"⟩ : MethodName)) (C := "java/lang/String") (a := s_DENY) (Ls := #[.val (.int p0), .val (.int (2 : Int32)), .val (.ref a_DENY), .val (.ref s_DENY), .val (.int (4 : Int32)), .unset]) (rest := []) (W := 0) (argsL := [(.int ((4 : Int32) - (4 : Int32)))]) hZ hown (hw _ (List.mem_of_getElem? (i := 31) rfl)) (hw _ (List.mem_of_getElem? (i := 32) rfl)) (notFace_of_selects (args := #[]) (mvT hZ (hw _ (List.mem_of_getElem? (i := 34) rfl)))) (hw _ (List.mem_of_getElem? (i := 34) rfl)) (hw _ (List.mem_of_getElem? (i := 33) rfl)) (hw _ (List.mem_of_getElem? (i := 19) rfl)) (hw _ (List.mem_of_getElem? (i := 35) rfl)) (by decide) e16 ES_DENY (rma l Z a0 hw [] s_DENY ((4 : Int32) - (4 : Int32)) cs (4 : Int32) fm v_DENY own_w_DENY h0 n0 Z0 ES_DENY F_DENY_value A_DENY F_DENY_coder S_cs hcs (by decide) (by decide) S_f hfm) (hb hby at_34) (lenOf own_pd8 rfl) (by decide) (by decide) (by rw [hml]; rfl) (Nat.le_of_eq rfl) (by decide) (by decide)
    obtain ⟨hv17, M17, e17⟩ := Q17
    rw [show (own_Fa s_DENY ((4 : Int32) - (4 : Int32)) v_DENY own_w_DENY) = (100 : Int32) from rfl] at hv17
    subst hv17
    have N17 := Fr.app N16 M17
    refine Run.back (g' := (mkF m 37 #[.val (.int p0), .val (.int (2 : Int32)), .val (.ref a_DENY), .val (.ref s_DENY), .val (.int (4 : Int32)), .unset] [(.int (100 : Int32))])) st17 ?_
    refine Run.bipush (pc' := 39) (v := (45 : Int32)) X17 hx (hb hby at_37) rfl rfl ?_
    refine Run.icmpYes (pc' := 85) X17 hx (hb hby at_39) (feq (by decide : ¬ ((100 : Int32) = (45 : Int32)))).2 (by decide) (by decide) ?_
    refine Run.iconst (pc' := 86) (v := (0 : Int32)) X17 hx (hb hby at_85) rfl rfl ?_
    refine Run.istore (pc' := 88) X17 hx (l' := #[.val (.int p0), .val (.int (2 : Int32)), .val (.ref a_DENY), .val (.ref s_DENY), .val (.int (4 : Int32)), .val (.int (0 : Int32))]) (hb hby at_86) rfl rfl ?_
    refine Run.aloadN (pc' := 89) X17 hx (hb hby at_88) rfl rfl ?_
    obtain ⟨T18, L18, v18, X18, Q18, st18⟩ := callVirtual X17 hx (y := (⟨"com/example/portcullis/portcullis/Outcome", "isLogged", "()Z"⟩ : MethodName)) (z := (⟨"com/example/portcullis/portcullis/Outcome", "isLogged", "()Z"⟩ : MethodName)) (C := "com/example/portcullis/portcullis/Outcome") (a := a_DENY) (Ls := #[.val (.int p0), .val (.int (2 : Int32)), .val (.ref a_DENY), .val (.ref s_DENY), .val (.int (4 : Int32)), .val (.int (0 : Int32))]) (rest := []) (W := 0) (argsL := []) hZ hown (hw _ (List.mem_of_getElem? (i := 53) rfl)) (hw _ (List.mem_of_getElem? (i := 54) rfl)) (notFace_of_selects (args := #[]) (mvT hZ (hw _ (List.mem_of_getElem? (i := 56) rfl)))) (hw _ (List.mem_of_getElem? (i := 56) rfl)) (hw _ (List.mem_of_getElem? (i := 55) rfl)) (hw _ (List.mem_of_getElem? (i := 6) rfl)) (hw _ (List.mem_of_getElem? (i := 57) rfl)) (by decide) e17 E_DENY (rmb l Z a0 hw [] a_DENY a_ALLOW_LOG a_DENY_LOG h0 n0 Z0 S_ALLOW_LOG S_DENY_LOG) (hb hby at_89) (lenOf own_pd3 rfl) (by decide) (by decide) (by rw [hml]; rfl) (Nat.le_of_eq rfl) (by decide) (by decide)
    obtain ⟨hv18, M18, e18⟩ := Q18
    rw [show (own_Fb a_DENY a_ALLOW_LOG a_DENY_LOG) = (0 : Int32) from (by simp [own_fb_19, own_fb_14, own_Fb, ne_ALLOW_ALLOW_LOG, ne_ALLOW_DENY, ne_ALLOW_DENY_LOG, ne_ALLOW_DEFER, ne_ALLOW_LOG_ALLOW, ne_ALLOW_LOG_DENY, ne_ALLOW_LOG_DENY_LOG, ne_ALLOW_LOG_DEFER, ne_DENY_ALLOW, ne_DENY_ALLOW_LOG, ne_DENY_DENY_LOG, ne_DENY_DEFER, ne_DENY_LOG_ALLOW, ne_DENY_LOG_ALLOW_LOG, ne_DENY_LOG_DENY, ne_DENY_LOG_DEFER, ne_DEFER_ALLOW, ne_DEFER_ALLOW_LOG, ne_DEFER_DENY, ne_DEFER_DENY_LOG])] at hv18
    subst hv18
    have N18 := Fr.app N17 M18
    refine Run.back (g' := (mkF m 92 #[.val (.int p0), .val (.int (2 : Int32)), .val (.ref a_DENY), .val (.ref s_DENY), .val (.int (4 : Int32)), .val (.int (0 : Int32))] [(.int (0 : Int32))])) st18 ?_
    refine Run.iload (pc' := 94) X18 hx (hb hby at_92) rfl rfl ?_
    refine Run.icmpNo (pc' := 97) X18 hx (hb hby at_94) (teq (by decide : (0 : Int32) = (0 : Int32))).2 rfl ?_
    refine Run.iconst (pc' := 98) (v := (1 : Int32)) X18 hx (hb hby at_97) rfl rfl ?_
    refine Run.goto (pc' := 102) X18 hx (hb hby at_98) (by decide) (by decide) ?_
    exact Run.retSmall X18 hx (t := .boolean) (z' := (1 : Int32)) Bd.notSynchronized Bd.returns (by simp) rfl (hb hby at_102) ⟨rfl, N18⟩ (by decide) (by decide)
  · rw [hk]
    refine Run.iloadN (pc' := 8) X0 hx (hb hby at_7) rfl rfl ?_
    obtain ⟨T19, L19, v19, X19, Q19, st19⟩ := callStatic X0 hx (y := (⟨"com/example/portcullis/portcullis/OutcomeIsLoggedPinLaw", "pick", "(I)Lcom/example/portcullis/portcullis/Outcome;"⟩ : MethodName)) (Ls := #[.val (.int p0), .val (.int (3 : Int32)), .unset, .unset, .unset, .unset]) (rest := []) (W := 0) (argsL := [(.int (3 : Int32))]) hZ hown (hw _ (List.mem_of_getElem? (i := 1) rfl)) (hw _ (List.mem_of_getElem? (i := 2) rfl)) (hw _ (List.mem_of_getElem? (i := 3) rfl)) (hw _ (List.mem_of_getElem? (i := 4) rfl)) (by decide) e0 (rm1 l Z a0 hw [] (3 : Int32) a_ALLOW a_ALLOW_LOG a_DENY a_DENY_LOG a_DEFER h0 n0 Z0 S_ALLOW S_ALLOW_LOG S_DENY S_DENY_LOG S_DEFER) (hb hby at_8) (lenOf own_pd5 rfl) (by decide) (by decide) (by rw [hml]; rfl) (Nat.le_of_eq rfl) (by decide) (by decide)
    obtain ⟨hv19, M19, e19⟩ := Q19
    rw [show (own_F1 (3 : Int32) a_ALLOW a_ALLOW_LOG a_DENY a_DENY_LOG a_DEFER) = a_DENY_LOG from rfl] at hv19
    subst hv19
    have N19 := Fr.app N0 M19
    refine Run.back (g' := (mkF m 11 #[.val (.int p0), .val (.int (3 : Int32)), .unset, .unset, .unset, .unset] [(.ref a_DENY_LOG)])) st19 ?_
    refine Run.astoreN (pc' := 12) X19 hx (l' := #[.val (.int p0), .val (.int (3 : Int32)), .val (.ref a_DENY_LOG), .unset, .unset, .unset]) (hb hby at_11) rfl rfl ?_
    refine Run.aloadN (pc' := 13) X19 hx (hb hby at_12) rfl rfl ?_
    obtain ⟨T20, L20, v20, X20, Q20, st20⟩ := callVirtual X19 hx (y := (⟨"com/example/portcullis/portcullis/Outcome", "word", "()Ljava/lang/String;"⟩ : MethodName)) (z := (⟨"com/example/portcullis/portcullis/Outcome", "word", "()Ljava/lang/String;"⟩ : MethodName)) (C := "com/example/portcullis/portcullis/Outcome") (a := a_DENY_LOG) (Ls := #[.val (.int p0), .val (.int (3 : Int32)), .val (.ref a_DENY_LOG), .unset, .unset, .unset]) (rest := []) (W := 0) (argsL := []) hZ hown (hw _ (List.mem_of_getElem? (i := 8) rfl)) (hw _ (List.mem_of_getElem? (i := 9) rfl)) (notFace_of_selects (args := #[]) (mvT hZ (hw _ (List.mem_of_getElem? (i := 11) rfl)))) (hw _ (List.mem_of_getElem? (i := 11) rfl)) (hw _ (List.mem_of_getElem? (i := 10) rfl)) (hw _ (List.mem_of_getElem? (i := 6) rfl)) (hw _ (List.mem_of_getElem? (i := 12) rfl)) (by decide) e19 E_DENY_LOG (rm2 l Z a0 hw [] a_DENY_LOG s_DENY_LOG h0 n0 Z0 F_DENY_LOG_word) (hb hby at_13) (lenOf own_pd6 rfl) (by decide) (by decide) (by rw [hml]; rfl) (Nat.le_of_eq rfl) (by decide) (by decide)
    obtain ⟨hv20, M20, e20⟩ := Q20
    rw [show (own_F2 a_DENY_LOG s_DENY_LOG) = s_DENY_LOG from rfl] at hv20
    subst hv20
    have N20 := Fr.app N19 M20
    refine Run.back (g' := (mkF m 16 #[.val (.int p0), .val (.int (3 : Int32)), .val (.ref a_DENY_LOG), .unset, .unset, .unset] [(.ref s_DENY_LOG)])) st20 ?_
    refine Run.astoreN (pc' := 17) X20 hx (l' := #[.val (.int p0), .val (.int (3 : Int32)), .val (.ref a_DENY_LOG), .val (.ref s_DENY_LOG), .unset, .unset]) (hb hby at_16) rfl rfl ?_
    refine Run.aloadN (pc' := 18) X20 hx (hb hby at_17) rfl rfl ?_
    obtain ⟨T21, L21, v21, X21, Q21, st21⟩ := callVirtual X20 hx (y := (⟨"java/lang/String", "length", "()I"⟩ : MethodName)) (z := (⟨"java/lang/String", "length", "()I"⟩ : MethodName)) (C := "java/lang/String") (a := s_DENY_LOG) (Ls := #[.val (.int p0), .val (.int (3 : Int32)), .val (.ref a_DENY_LOG), .val (.ref s_DENY_LOG), .unset, .unset]) (rest := []) (W := 0) (argsL := []) hZ hown (hw _ (List.mem_of_getElem? (i := 15) rfl)) (hw _ (List.mem_of_getElem? (i := 16) rfl)) (notFace_of_selects (args := #[]) (mvT hZ (hw _ (List.mem_of_getElem? (i := 18) rfl)))) (hw _ (List.mem_of_getElem? (i := 18) rfl)) (hw _ (List.mem_of_getElem? (i := 17) rfl)) (hw _ (List.mem_of_getElem? (i := 19) rfl)) (hw _ (List.mem_of_getElem? (i := 20) rfl)) (by decide) e20 ES_DENY_LOG (rm4 l Z a0 hw [] s_DENY_LOG cs v_DENY_LOG own_w_DENY_LOG (8 : Int32) h0 n0 Z0 ES_DENY_LOG F_DENY_LOG_value A_DENY_LOG F_DENY_LOG_coder S_cs hcs) (hb hby at_18) (lenOf own_pd7 rfl) (by decide) (by decide) (by rw [hml]; rfl) (Nat.le_of_eq rfl) (by decide) (by decide)
    obtain ⟨hv21, M21, e21⟩ := Q21
    rw [show (own_F4 s_DENY_LOG (8 : Int32)) = (8 : Int32) from rfl] at hv21
    subst hv21
    have N21 := Fr.app N20 M21
    refine Run.back (g' := (mkF m 21 #[.val (.int p0), .val (.int (3 : Int32)), .val (.ref a_DENY_LOG), .val (.ref s_DENY_LOG), .unset, .unset] [(.int (8 : Int32))])) st21 ?_
    refine Run.istore (pc' := 23) X21 hx (l' := #[.val (.int p0), .val (.int (3 : Int32)), .val (.ref a_DENY_LOG), .val (.ref s_DENY_LOG), .val (.int (8 : Int32)), .unset]) (hb hby at_21) rfl rfl ?_
    refine Run.iload (pc' := 25) X21 hx (hb hby at_23) rfl rfl ?_
    refine Run.iconst (pc' := 26) (v := (4 : Int32)) X21 hx (hb hby at_25) rfl rfl ?_
    refine Run.icmpNo (pc' := 29) X21 hx (hb hby at_26) (flt (by decide : ¬ ((8 : Int32) < (4 : Int32)))).1 rfl ?_
    refine Run.aloadN (pc' := 30) X21 hx (hb hby at_29) rfl rfl ?_
    refine Run.iload (pc' := 32) X21 hx (hb hby at_30) rfl rfl ?_
    refine Run.iconst (pc' := 33) (v := (4 : Int32)) X21 hx (hb hby at_32) rfl rfl ?_
    refine Run.isub (pc' := 34) X21 hx (hb hby at_33) rfl ?_
    obtain ⟨T22, L22, v22, X22, Q22, st22⟩ := callVirtual X21 hx (y := (⟨"java/lang/String", "charAt", "(I)C"⟩ : MethodName)) (z := (⟨"java/lang/String", "charAt", "(I)C"⟩ : MethodName)) (C := "java/lang/String") (a := s_DENY_LOG) (Ls := #[.val (.int p0), .val (.int (3 : Int32)), .val (.ref a_DENY_LOG), .val (.ref s_DENY_LOG), .val (.int (8 : Int32)), .unset]) (rest := []) (W := 0) (argsL := [(.int ((8 : Int32) - (4 : Int32)))]) hZ hown (hw _ (List.mem_of_getElem? (i := 31) rfl)) (hw _ (List.mem_of_getElem? (i := 32) rfl)) (notFace_of_selects (args := #[]) (mvT hZ (hw _ (List.mem_of_getElem? (i := 34) rfl)))) (hw _ (List.mem_of_getElem? (i := 34) rfl)) (hw _ (List.mem_of_getElem? (i := 33) rfl)) (hw _ (List.mem_of_getElem? (i := 19) rfl)) (hw _ (List.mem_of_getElem? (i := 35) rfl)) (by decide) e21 ES_DENY_LOG (rma l Z a0 hw [] s_DENY_LOG ((8 : Int32) - (4 : Int32)) cs (8 : Int32) fm v_DENY_LOG own_w_DENY_LOG h0 n0 Z0 ES_DENY_LOG F_DENY_LOG_value A_DENY_LOG F_DENY_LOG_coder S_cs hcs (by decide) (by decide) S_f hfm) (hb hby at_34) (lenOf own_pd8 rfl) (by decide) (by decide) (by rw [hml]; rfl) (Nat.le_of_eq rfl) (by decide) (by decide)
    obtain ⟨hv22, M22, e22⟩ := Q22
    rw [show (own_Fa s_DENY_LOG ((8 : Int32) - (4 : Int32)) v_DENY_LOG own_w_DENY_LOG) = (45 : Int32) from rfl] at hv22
    subst hv22
    have N22 := Fr.app N21 M22
    refine Run.back (g' := (mkF m 37 #[.val (.int p0), .val (.int (3 : Int32)), .val (.ref a_DENY_LOG), .val (.ref s_DENY_LOG), .val (.int (8 : Int32)), .unset] [(.int (45 : Int32))])) st22 ?_
    refine Run.bipush (pc' := 39) (v := (45 : Int32)) X22 hx (hb hby at_37) rfl rfl ?_
    refine Run.icmpNo (pc' := 42) X22 hx (hb hby at_39) (teq (by decide : (45 : Int32) = (45 : Int32))).2 rfl ?_
    refine Run.aloadN (pc' := 43) X22 hx (hb hby at_42) rfl rfl ?_
    refine Run.iload (pc' := 45) X22 hx (hb hby at_43) rfl rfl ?_
    refine Run.iconst (pc' := 46) (v := (3 : Int32)) X22 hx (hb hby at_45) rfl rfl ?_
    refine Run.isub (pc' := 47) X22 hx (hb hby at_46) rfl ?_
    obtain ⟨T23, L23, v23, X23, Q23, st23⟩ := callVirtual X22 hx (y := (⟨"java/lang/String", "charAt", "(I)C"⟩ : MethodName)) (z := (⟨"java/lang/String", "charAt", "(I)C"⟩ : MethodName)) (C := "java/lang/String") (a := s_DENY_LOG) (Ls := #[.val (.int p0), .val (.int (3 : Int32)), .val (.ref a_DENY_LOG), .val (.ref s_DENY_LOG), .val (.int (8 : Int32)), .unset]) (rest := []) (W := 0) (argsL := [(.int ((8 : Int32) - (3 : Int32)))]) hZ hown (hw _ (List.mem_of_getElem? (i := 31) rfl)) (hw _ (List.mem_of_getElem? (i := 32) rfl)) (notFace_of_selects (args := #[]) (mvT hZ (hw _ (List.mem_of_getElem? (i := 34) rfl)))) (hw _ (List.mem_of_getElem? (i := 34) rfl)) (hw _ (List.mem_of_getElem? (i := 33) rfl)) (hw _ (List.mem_of_getElem? (i := 19) rfl)) (hw _ (List.mem_of_getElem? (i := 35) rfl)) (by decide) e22 ES_DENY_LOG (rma l Z a0 hw [] s_DENY_LOG ((8 : Int32) - (3 : Int32)) cs (8 : Int32) fm v_DENY_LOG own_w_DENY_LOG h0 n0 Z0 ES_DENY_LOG F_DENY_LOG_value A_DENY_LOG F_DENY_LOG_coder S_cs hcs (by decide) (by decide) S_f hfm) (hb hby at_47) (lenOf own_pd8 rfl) (by decide) (by decide) (by rw [hml]; rfl) (Nat.le_of_eq rfl) (by decide) (by decide)
    obtain ⟨hv23, M23, e23⟩ := Q23
    rw [show (own_Fa s_DENY_LOG ((8 : Int32) - (3 : Int32)) v_DENY_LOG own_w_DENY_LOG) = (108 : Int32) from rfl] at hv23
    subst hv23
    have N23 := Fr.app N22 M23
    refine Run.back (g' := (mkF m 50 #[.val (.int p0), .val (.int (3 : Int32)), .val (.ref a_DENY_LOG), .val (.ref s_DENY_LOG), .val (.int (8 : Int32)), .unset] [(.int (108 : Int32))])) st23 ?_
    refine Run.bipush (pc' := 52) (v := (108 : Int32)) X23 hx (hb hby at_50) rfl rfl ?_
    refine Run.icmpNo (pc' := 55) X23 hx (hb hby at_52) (teq (by decide : (108 : Int32) = (108 : Int32))).2 rfl ?_
    refine Run.aloadN (pc' := 56) X23 hx (hb hby at_55) rfl rfl ?_
    refine Run.iload (pc' := 58) X23 hx (hb hby at_56) rfl rfl ?_
    refine Run.iconst (pc' := 59) (v := (2 : Int32)) X23 hx (hb hby at_58) rfl rfl ?_
    refine Run.isub (pc' := 60) X23 hx (hb hby at_59) rfl ?_
    obtain ⟨T24, L24, v24, X24, Q24, st24⟩ := callVirtual X23 hx (y := (⟨"java/lang/String", "charAt", "(I)C"⟩ : MethodName)) (z := (⟨"java/lang/String", "charAt", "(I)C"⟩ : MethodName)) (C := "java/lang/String") (a := s_DENY_LOG) (Ls := #[.val (.int p0), .val (.int (3 : Int32)), .val (.ref a_DENY_LOG), .val (.ref s_DENY_LOG), .val (.int (8 : Int32)), .unset]) (rest := []) (W := 0) (argsL := [(.int ((8 : Int32) - (2 : Int32)))]) hZ hown (hw _ (List.mem_of_getElem? (i := 31) rfl)) (hw _ (List.mem_of_getElem? (i := 32) rfl)) (notFace_of_selects (args := #[]) (mvT hZ (hw _ (List.mem_of_getElem? (i := 34) rfl)))) (hw _ (List.mem_of_getElem? (i := 34) rfl)) (hw _ (List.mem_of_getElem? (i := 33) rfl)) (hw _ (List.mem_of_getElem? (i := 19) rfl)) (hw _ (List.mem_of_getElem? (i := 35) rfl)) (by decide) e23 ES_DENY_LOG (rma l Z a0 hw [] s_DENY_LOG ((8 : Int32) - (2 : Int32)) cs (8 : Int32) fm v_DENY_LOG own_w_DENY_LOG h0 n0 Z0 ES_DENY_LOG F_DENY_LOG_value A_DENY_LOG F_DENY_LOG_coder S_cs hcs (by decide) (by decide) S_f hfm) (hb hby at_60) (lenOf own_pd8 rfl) (by decide) (by decide) (by rw [hml]; rfl) (Nat.le_of_eq rfl) (by decide) (by decide)
    obtain ⟨hv24, M24, e24⟩ := Q24
    rw [show (own_Fa s_DENY_LOG ((8 : Int32) - (2 : Int32)) v_DENY_LOG own_w_DENY_LOG) = (111 : Int32) from rfl] at hv24
    subst hv24
    have N24 := Fr.app N23 M24
    refine Run.back (g' := (mkF m 63 #[.val (.int p0), .val (.int (3 : Int32)), .val (.ref a_DENY_LOG), .val (.ref s_DENY_LOG), .val (.int (8 : Int32)), .unset] [(.int (111 : Int32))])) st24 ?_
    refine Run.bipush (pc' := 65) (v := (111 : Int32)) X24 hx (hb hby at_63) rfl rfl ?_
    refine Run.icmpNo (pc' := 68) X24 hx (hb hby at_65) (teq (by decide : (111 : Int32) = (111 : Int32))).2 rfl ?_
    refine Run.aloadN (pc' := 69) X24 hx (hb hby at_68) rfl rfl ?_
    refine Run.iload (pc' := 71) X24 hx (hb hby at_69) rfl rfl ?_
    refine Run.iconst (pc' := 72) (v := (1 : Int32)) X24 hx (hb hby at_71) rfl rfl ?_
    refine Run.isub (pc' := 73) X24 hx (hb hby at_72) rfl ?_
    obtain ⟨T25, L25, v25, X25, Q25, st25⟩ := callVirtual X24 hx (y := (⟨"java/lang/String", "charAt", "(I)C"⟩ : MethodName)) (z := (⟨"java/lang/String", "charAt", "(I)C"⟩ : MethodName)) (C := "java/lang/String") (a := s_DENY_LOG) (Ls := #[.val (.int p0), .val (.int (3 : Int32)), .val (.ref a_DENY_LOG), .val (.ref s_DENY_LOG), .val (.int (8 : Int32)), .unset]) (rest := []) (W := 0) (argsL := [(.int ((8 : Int32) - (1 : Int32)))]) hZ hown (hw _ (List.mem_of_getElem? (i := 31) rfl)) (hw _ (List.mem_of_getElem? (i := 32) rfl)) (notFace_of_selects (args := #[]) (mvT hZ (hw _ (List.mem_of_getElem? (i := 34) rfl)))) (hw _ (List.mem_of_getElem? (i := 34) rfl)) (hw _ (List.mem_of_getElem? (i := 33) rfl)) (hw _ (List.mem_of_getElem? (i := 19) rfl)) (hw _ (List.mem_of_getElem? (i := 35) rfl)) (by decide) e24 ES_DENY_LOG (rma l Z a0 hw [] s_DENY_LOG ((8 : Int32) - (1 : Int32)) cs (8 : Int32) fm v_DENY_LOG own_w_DENY_LOG h0 n0 Z0 ES_DENY_LOG F_DENY_LOG_value A_DENY_LOG F_DENY_LOG_coder S_cs hcs (by decide) (by decide) S_f hfm) (hb hby at_73) (lenOf own_pd8 rfl) (by decide) (by decide) (by rw [hml]; rfl) (Nat.le_of_eq rfl) (by decide) (by decide)
    obtain ⟨hv25, M25, e25⟩ := Q25
    rw [show (own_Fa s_DENY_LOG ((8 : Int32) - (1 : Int32)) v_DENY_LOG own_w_DENY_LOG) = (103 : Int32) from rfl] at hv25
    subst hv25
    have N25 := Fr.app N24 M25
    refine Run.back (g' := (mkF m 76 #[.val (.int p0), .val (.int (3 : Int32)), .val (.ref a_DENY_LOG), .val (.ref s_DENY_LOG), .val (.int (8 : Int32)), .unset] [(.int (103 : Int32))])) st25 ?_
    refine Run.bipush (pc' := 78) (v := (103 : Int32)) X25 hx (hb hby at_76) rfl rfl ?_
    refine Run.icmpNo (pc' := 81) X25 hx (hb hby at_78) (teq (by decide : (103 : Int32) = (103 : Int32))).2 rfl ?_
    refine Run.iconst (pc' := 82) (v := (1 : Int32)) X25 hx (hb hby at_81) rfl rfl ?_
    refine Run.goto (pc' := 86) X25 hx (hb hby at_82) (by decide) (by decide) ?_
    refine Run.istore (pc' := 88) X25 hx (l' := #[.val (.int p0), .val (.int (3 : Int32)), .val (.ref a_DENY_LOG), .val (.ref s_DENY_LOG), .val (.int (8 : Int32)), .val (.int (1 : Int32))]) (hb hby at_86) rfl rfl ?_
    refine Run.aloadN (pc' := 89) X25 hx (hb hby at_88) rfl rfl ?_
    obtain ⟨T26, L26, v26, X26, Q26, st26⟩ := callVirtual X25 hx (y := (⟨"com/example/portcullis/portcullis/Outcome", "isLogged", "()Z"⟩ : MethodName)) (z := (⟨"com/example/portcullis/portcullis/Outcome", "isLogged", "()Z"⟩ : MethodName)) (C := "com/example/portcullis/portcullis/Outcome") (a := a_DENY_LOG) (Ls := #[.val (.int p0), .val (.int (3 : Int32)), .val (.ref a_DENY_LOG), .val (.ref s_DENY_LOG), .val (.int (8 : Int32)), .val (.int (1 : Int32))]) (rest := []) (W := 0) (argsL := []) hZ hown (hw _ (List.mem_of_getElem? (i := 53) rfl)) (hw _ (List.mem_of_getElem? (i := 54) rfl)) (notFace_of_selects (args := #[]) (mvT hZ (hw _ (List.mem_of_getElem? (i := 56) rfl)))) (hw _ (List.mem_of_getElem? (i := 56) rfl)) (hw _ (List.mem_of_getElem? (i := 55) rfl)) (hw _ (List.mem_of_getElem? (i := 6) rfl)) (hw _ (List.mem_of_getElem? (i := 57) rfl)) (by decide) e25 E_DENY_LOG (rmb l Z a0 hw [] a_DENY_LOG a_ALLOW_LOG a_DENY_LOG h0 n0 Z0 S_ALLOW_LOG S_DENY_LOG) (hb hby at_89) (lenOf own_pd3 rfl) (by decide) (by decide) (by rw [hml]; rfl) (Nat.le_of_eq rfl) (by decide) (by decide)
    obtain ⟨hv26, M26, e26⟩ := Q26
    rw [show (own_Fb a_DENY_LOG a_ALLOW_LOG a_DENY_LOG) = (1 : Int32) from (by simp [own_fb_19, own_fb_14, own_Fb, ne_ALLOW_ALLOW_LOG, ne_ALLOW_DENY, ne_ALLOW_DENY_LOG, ne_ALLOW_DEFER, ne_ALLOW_LOG_ALLOW, ne_ALLOW_LOG_DENY, ne_ALLOW_LOG_DENY_LOG, ne_ALLOW_LOG_DEFER, ne_DENY_ALLOW, ne_DENY_ALLOW_LOG, ne_DENY_DENY_LOG, ne_DENY_DEFER, ne_DENY_LOG_ALLOW, ne_DENY_LOG_ALLOW_LOG, ne_DENY_LOG_DENY, ne_DENY_LOG_DEFER, ne_DEFER_ALLOW, ne_DEFER_ALLOW_LOG, ne_DEFER_DENY, ne_DEFER_DENY_LOG])] at hv26
    subst hv26
    have N26 := Fr.app N25 M26
    refine Run.back (g' := (mkF m 92 #[.val (.int p0), .val (.int (3 : Int32)), .val (.ref a_DENY_LOG), .val (.ref s_DENY_LOG), .val (.int (8 : Int32)), .val (.int (1 : Int32))] [(.int (1 : Int32))])) st26 ?_
    refine Run.iload (pc' := 94) X26 hx (hb hby at_92) rfl rfl ?_
    refine Run.icmpNo (pc' := 97) X26 hx (hb hby at_94) (teq (by decide : (1 : Int32) = (1 : Int32))).2 rfl ?_
    refine Run.iconst (pc' := 98) (v := (1 : Int32)) X26 hx (hb hby at_97) rfl rfl ?_
    refine Run.goto (pc' := 102) X26 hx (hb hby at_98) (by decide) (by decide) ?_
    exact Run.retSmall X26 hx (t := .boolean) (z' := (1 : Int32)) Bd.notSynchronized Bd.returns (by simp) rfl (hb hby at_102) ⟨rfl, N26⟩ (by decide) (by decide)
  · rw [hk]
    refine Run.iloadN (pc' := 8) X0 hx (hb hby at_7) rfl rfl ?_
    obtain ⟨T27, L27, v27, X27, Q27, st27⟩ := callStatic X0 hx (y := (⟨"com/example/portcullis/portcullis/OutcomeIsLoggedPinLaw", "pick", "(I)Lcom/example/portcullis/portcullis/Outcome;"⟩ : MethodName)) (Ls := #[.val (.int p0), .val (.int (4 : Int32)), .unset, .unset, .unset, .unset]) (rest := []) (W := 0) (argsL := [(.int (4 : Int32))]) hZ hown (hw _ (List.mem_of_getElem? (i := 1) rfl)) (hw _ (List.mem_of_getElem? (i := 2) rfl)) (hw _ (List.mem_of_getElem? (i := 3) rfl)) (hw _ (List.mem_of_getElem? (i := 4) rfl)) (by decide) e0 (rm1 l Z a0 hw [] (4 : Int32) a_ALLOW a_ALLOW_LOG a_DENY a_DENY_LOG a_DEFER h0 n0 Z0 S_ALLOW S_ALLOW_LOG S_DENY S_DENY_LOG S_DEFER) (hb hby at_8) (lenOf own_pd5 rfl) (by decide) (by decide) (by rw [hml]; rfl) (Nat.le_of_eq rfl) (by decide) (by decide)
    obtain ⟨hv27, M27, e27⟩ := Q27
    rw [show (own_F1 (4 : Int32) a_ALLOW a_ALLOW_LOG a_DENY a_DENY_LOG a_DEFER) = a_DEFER from rfl] at hv27
    subst hv27
    have N27 := Fr.app N0 M27
    refine Run.back (g' := (mkF m 11 #[.val (.int p0), .val (.int (4 : Int32)), .unset, .unset, .unset, .unset] [(.ref a_DEFER)])) st27 ?_
    refine Run.astoreN (pc' := 12) X27 hx (l' := #[.val (.int p0), .val (.int (4 : Int32)), .val (.ref a_DEFER), .unset, .unset, .unset]) (hb hby at_11) rfl rfl ?_
    refine Run.aloadN (pc' := 13) X27 hx (hb hby at_12) rfl rfl ?_
    obtain ⟨T28, L28, v28, X28, Q28, st28⟩ := callVirtual X27 hx (y := (⟨"com/example/portcullis/portcullis/Outcome", "word", "()Ljava/lang/String;"⟩ : MethodName)) (z := (⟨"com/example/portcullis/portcullis/Outcome", "word", "()Ljava/lang/String;"⟩ : MethodName)) (C := "com/example/portcullis/portcullis/Outcome") (a := a_DEFER) (Ls := #[.val (.int p0), .val (.int (4 : Int32)), .val (.ref a_DEFER), .unset, .unset, .unset]) (rest := []) (W := 0) (argsL := []) hZ hown (hw _ (List.mem_of_getElem? (i := 8) rfl)) (hw _ (List.mem_of_getElem? (i := 9) rfl)) (notFace_of_selects (args := #[]) (mvT hZ (hw _ (List.mem_of_getElem? (i := 11) rfl)))) (hw _ (List.mem_of_getElem? (i := 11) rfl)) (hw _ (List.mem_of_getElem? (i := 10) rfl)) (hw _ (List.mem_of_getElem? (i := 6) rfl)) (hw _ (List.mem_of_getElem? (i := 12) rfl)) (by decide) e27 E_DEFER (rm2 l Z a0 hw [] a_DEFER s_DEFER h0 n0 Z0 F_DEFER_word) (hb hby at_13) (lenOf own_pd6 rfl) (by decide) (by decide) (by rw [hml]; rfl) (Nat.le_of_eq rfl) (by decide) (by decide)
    obtain ⟨hv28, M28, e28⟩ := Q28
    rw [show (own_F2 a_DEFER s_DEFER) = s_DEFER from rfl] at hv28
    subst hv28
    have N28 := Fr.app N27 M28
    refine Run.back (g' := (mkF m 16 #[.val (.int p0), .val (.int (4 : Int32)), .val (.ref a_DEFER), .unset, .unset, .unset] [(.ref s_DEFER)])) st28 ?_
    refine Run.astoreN (pc' := 17) X28 hx (l' := #[.val (.int p0), .val (.int (4 : Int32)), .val (.ref a_DEFER), .val (.ref s_DEFER), .unset, .unset]) (hb hby at_16) rfl rfl ?_
    refine Run.aloadN (pc' := 18) X28 hx (hb hby at_17) rfl rfl ?_
    obtain ⟨T29, L29, v29, X29, Q29, st29⟩ := callVirtual X28 hx (y := (⟨"java/lang/String", "length", "()I"⟩ : MethodName)) (z := (⟨"java/lang/String", "length", "()I"⟩ : MethodName)) (C := "java/lang/String") (a := s_DEFER) (Ls := #[.val (.int p0), .val (.int (4 : Int32)), .val (.ref a_DEFER), .val (.ref s_DEFER), .unset, .unset]) (rest := []) (W := 0) (argsL := []) hZ hown (hw _ (List.mem_of_getElem? (i := 15) rfl)) (hw _ (List.mem_of_getElem? (i := 16) rfl)) (notFace_of_selects (args := #[]) (mvT hZ (hw _ (List.mem_of_getElem? (i := 18) rfl)))) (hw _ (List.mem_of_getElem? (i := 18) rfl)) (hw _ (List.mem_of_getElem? (i := 17) rfl)) (hw _ (List.mem_of_getElem? (i := 19) rfl)) (hw _ (List.mem_of_getElem? (i := 20) rfl)) (by decide) e28 ES_DEFER (rm4 l Z a0 hw [] s_DEFER cs v_DEFER own_w_DEFER (5 : Int32) h0 n0 Z0 ES_DEFER F_DEFER_value A_DEFER F_DEFER_coder S_cs hcs) (hb hby at_18) (lenOf own_pd7 rfl) (by decide) (by decide) (by rw [hml]; rfl) (Nat.le_of_eq rfl) (by decide) (by decide)
    obtain ⟨hv29, M29, e29⟩ := Q29
    rw [show (own_F4 s_DEFER (5 : Int32)) = (5 : Int32) from rfl] at hv29
    subst hv29
    have N29 := Fr.app N28 M29
    refine Run.back (g' := (mkF m 21 #[.val (.int p0), .val (.int (4 : Int32)), .val (.ref a_DEFER), .val (.ref s_DEFER), .unset, .unset] [(.int (5 : Int32))])) st29 ?_
    refine Run.istore (pc' := 23) X29 hx (l' := #[.val (.int p0), .val (.int (4 : Int32)), .val (.ref a_DEFER), .val (.ref s_DEFER), .val (.int (5 : Int32)), .unset]) (hb hby at_21) rfl rfl ?_
    refine Run.iload (pc' := 25) X29 hx (hb hby at_23) rfl rfl ?_
    refine Run.iconst (pc' := 26) (v := (4 : Int32)) X29 hx (hb hby at_25) rfl rfl ?_
    refine Run.icmpNo (pc' := 29) X29 hx (hb hby at_26) (flt (by decide : ¬ ((5 : Int32) < (4 : Int32)))).1 rfl ?_
    refine Run.aloadN (pc' := 30) X29 hx (hb hby at_29) rfl rfl ?_
    refine Run.iload (pc' := 32) X29 hx (hb hby at_30) rfl rfl ?_
    refine Run.iconst (pc' := 33) (v := (4 : Int32)) X29 hx (hb hby at_32) rfl rfl ?_
    refine Run.isub (pc' := 34) X29 hx (hb hby at_33) rfl ?_
    obtain ⟨T30, L30, v30, X30, Q30, st30⟩ := callVirtual X29 hx (y := (⟨"java/lang/String", "charAt", "(I)C"⟩ : MethodName)) (z := (⟨"java/lang/String", "charAt", "(I)C"⟩ : MethodName)) (C := "java/lang/String") (a := s_DEFER) (Ls := #[.val (.int p0), .val (.int (4 : Int32)), .val (.ref a_DEFER), .val (.ref s_DEFER), .val (.int (5 : Int32)), .unset]) (rest := []) (W := 0) (argsL := [(.int ((5 : Int32) - (4 : Int32)))]) hZ hown (hw _ (List.mem_of_getElem? (i := 31) rfl)) (hw _ (List.mem_of_getElem? (i := 32) rfl)) (notFace_of_selects (args := #[]) (mvT hZ (hw _ (List.mem_of_getElem? (i := 34) rfl)))) (hw _ (List.mem_of_getElem? (i := 34) rfl)) (hw _ (List.mem_of_getElem? (i := 33) rfl)) (hw _ (List.mem_of_getElem? (i := 19) rfl)) (hw _ (List.mem_of_getElem? (i := 35) rfl)) (by decide) e29 ES_DEFER (rma l Z a0 hw [] s_DEFER ((5 : Int32) - (4 : Int32)) cs (5 : Int32) fm v_DEFER own_w_DEFER h0 n0 Z0 ES_DEFER F_DEFER_value A_DEFER F_DEFER_coder S_cs hcs (by decide) (by decide) S_f hfm) (hb hby at_34) (lenOf own_pd8 rfl) (by decide) (by decide) (by rw [hml]; rfl) (Nat.le_of_eq rfl) (by decide) (by decide)
    obtain ⟨hv30, M30, e30⟩ := Q30
    rw [show (own_Fa s_DEFER ((5 : Int32) - (4 : Int32)) v_DEFER own_w_DEFER) = (101 : Int32) from rfl] at hv30
    subst hv30
    have N30 := Fr.app N29 M30
    refine Run.back (g' := (mkF m 37 #[.val (.int p0), .val (.int (4 : Int32)), .val (.ref a_DEFER), .val (.ref s_DEFER), .val (.int (5 : Int32)), .unset] [(.int (101 : Int32))])) st30 ?_
    refine Run.bipush (pc' := 39) (v := (45 : Int32)) X30 hx (hb hby at_37) rfl rfl ?_
    refine Run.icmpYes (pc' := 85) X30 hx (hb hby at_39) (feq (by decide : ¬ ((101 : Int32) = (45 : Int32)))).2 (by decide) (by decide) ?_
    refine Run.iconst (pc' := 86) (v := (0 : Int32)) X30 hx (hb hby at_85) rfl rfl ?_
    refine Run.istore (pc' := 88) X30 hx (l' := #[.val (.int p0), .val (.int (4 : Int32)), .val (.ref a_DEFER), .val (.ref s_DEFER), .val (.int (5 : Int32)), .val (.int (0 : Int32))]) (hb hby at_86) rfl rfl ?_
    refine Run.aloadN (pc' := 89) X30 hx (hb hby at_88) rfl rfl ?_
    obtain ⟨T31, L31, v31, X31, Q31, st31⟩ := callVirtual X30 hx (y := (⟨"com/example/portcullis/portcullis/Outcome", "isLogged", "()Z"⟩ : MethodName)) (z := (⟨"com/example/portcullis/portcullis/Outcome", "isLogged", "()Z"⟩ : MethodName)) (C := "com/example/portcullis/portcullis/Outcome") (a := a_DEFER) (Ls := #[.val (.int p0), .val (.int (4 : Int32)), .val (.ref a_DEFER), .val (.ref s_DEFER), .val (.int (5 : Int32)), .val (.int (0 : Int32))]) (rest := []) (W := 0) (argsL := []) hZ hown (hw _ (List.mem_of_getElem? (i := 53) rfl)) (hw _ (List.mem_of_getElem? (i := 54) rfl)) (notFace_of_selects (args := #[]) (mvT hZ (hw _ (List.mem_of_getElem? (i := 56) rfl)))) (hw _ (List.mem_of_getElem? (i := 56) rfl)) (hw _ (List.mem_of_getElem? (i := 55) rfl)) (hw _ (List.mem_of_getElem? (i := 6) rfl)) (hw _ (List.mem_of_getElem? (i := 57) rfl)) (by decide) e30 E_DEFER (rmb l Z a0 hw [] a_DEFER a_ALLOW_LOG a_DENY_LOG h0 n0 Z0 S_ALLOW_LOG S_DENY_LOG) (hb hby at_89) (lenOf own_pd3 rfl) (by decide) (by decide) (by rw [hml]; rfl) (Nat.le_of_eq rfl) (by decide) (by decide)
    obtain ⟨hv31, M31, e31⟩ := Q31
    rw [show (own_Fb a_DEFER a_ALLOW_LOG a_DENY_LOG) = (0 : Int32) from (by simp [own_fb_19, own_fb_14, own_Fb, ne_ALLOW_ALLOW_LOG, ne_ALLOW_DENY, ne_ALLOW_DENY_LOG, ne_ALLOW_DEFER, ne_ALLOW_LOG_ALLOW, ne_ALLOW_LOG_DENY, ne_ALLOW_LOG_DENY_LOG, ne_ALLOW_LOG_DEFER, ne_DENY_ALLOW, ne_DENY_ALLOW_LOG, ne_DENY_DENY_LOG, ne_DENY_DEFER, ne_DENY_LOG_ALLOW, ne_DENY_LOG_ALLOW_LOG, ne_DENY_LOG_DENY, ne_DENY_LOG_DEFER, ne_DEFER_ALLOW, ne_DEFER_ALLOW_LOG, ne_DEFER_DENY, ne_DEFER_DENY_LOG])] at hv31
    subst hv31
    have N31 := Fr.app N30 M31
    refine Run.back (g' := (mkF m 92 #[.val (.int p0), .val (.int (4 : Int32)), .val (.ref a_DEFER), .val (.ref s_DEFER), .val (.int (5 : Int32)), .val (.int (0 : Int32))] [(.int (0 : Int32))])) st31 ?_
    refine Run.iload (pc' := 94) X31 hx (hb hby at_92) rfl rfl ?_
    refine Run.icmpNo (pc' := 97) X31 hx (hb hby at_94) (teq (by decide : (0 : Int32) = (0 : Int32))).2 rfl ?_
    refine Run.iconst (pc' := 98) (v := (1 : Int32)) X31 hx (hb hby at_97) rfl rfl ?_
    refine Run.goto (pc' := 102) X31 hx (hb hby at_98) (by decide) (by decide) ?_
    exact Run.retSmall X31 hx (t := .boolean) (z' := (1 : Int32)) Bd.notSynchronized Bd.returns (by simp) rfl (hb hby at_102) ⟨rfl, N31⟩ (by decide) (by decide)
set_option maxRecDepth 65536 in
set_option maxHeartbeats 40000000 in
theorem comes_1 {Post : Tables → Env → Array Value → State → Outcome → State → Prop} (hpost : ∀ tb e args s v u, (limb_1_1.after args s (.returned v) u = true ∧ limb_1_2.after args s (.returned v) u = true ∧ True) → FrameEnd s (.returned v) u (Jvm.fieldLocs frame_1_writes args s ++ Jvm.arrayLocs frame_1_arrays args s ++ Jvm.staticLocs frame_1_statics s) 0 0 → Post tb e args s (.returned v) u) :
    ArmFor flags0 classFile x code maxLocals ret World_1 tables_1 room_1 Calls_1 rest_1 Pre_1 Post := by
  intro l hfl _ _ p e ha hc hk s m args below hf hA hF happ hP
  obtain ⟨hcalls, hrest, hpre⟩ := hP
  obtain ⟨-, -, -, hnamed, -, -, -, hat⟩ := (Spec.applies_iff hf).mp happ
  obtain ⟨hg, hn⟩ := and_e (Cond.before_iff.mp (show (Jvm.Cond.and given_1 narrow_1).before args s = true from hpre))
  obtain ⟨hcount, hg0⟩ := and_e hg
  obtain ⟨w0, rfl⟩ : ∃ w0 : Value, args = #[w0] := by
    have hs : args.size = 1 := by simpa [Cond.value, given_1] using hcount
    obtain ⟨L⟩ := args
    match L, hs with
    | [w0], _ => exact ⟨w0, rfl⟩
  have hw := fun d (hd : d ∈ tables_1) => atoms_spec (ws := Jvm.Cond.code x code maxLocals ret :: tables_1) hat d (List.mem_cons_of_mem _ hd)
  have hfit : Fit s := fun {y c} hc i hi => by
    obtain ⟨ha, rfl⟩ := Array.getElem?_eq_some_iff.mp hc
    have q := List.all_eq_true.mp ((Array.all_eq_true_iff_forall_mem.mp hF) _ (Array.getElem_mem ha)) i (List.mem_range.mpr hi)
    simpa [Array.getElem?_eq_getElem hi] using q
  obtain ⟨i0, ei0⟩ := is_v hg0
  obtain rfl : w0 = (.int i0) := Option.some.inj ei0
  obtain ⟨hsets, hown0⟩ := atoms_of _ (rest_1_c_eq ▸ (show rest_1_c.before _ s = true from hrest))
  obtain ⟨n0, nr0⟩ := and_e hn
  obtain ⟨n1, nr1⟩ := and_e nr0
  obtain ⟨n2, nr2⟩ := and_e nr1
  obtain ⟨n3, nr3⟩ := and_e nr2
  obtain ⟨n4, nr4⟩ := and_e nr3
  obtain ⟨n5, nr5⟩ := and_e nr4
  obtain ⟨n6, nr6⟩ := and_e nr5
  obtain ⟨n7, nr7⟩ := and_e nr6
  obtain ⟨n8, nr8⟩ := and_e nr7
  obtain ⟨n9, nr9⟩ := and_e nr8
  obtain ⟨n10, nr10⟩ := and_e nr9
  obtain ⟨n11, nr11⟩ := and_e nr10
  obtain ⟨n12, nr12⟩ := and_e nr11
  obtain ⟨n13, nr13⟩ := and_e nr12
  obtain ⟨n14, nr14⟩ := and_e nr13
  obtain ⟨n15, nr15⟩ := and_e nr14
  obtain ⟨n16, nr16⟩ := and_e nr15
  obtain ⟨n17, nr17⟩ := and_e nr16
  obtain ⟨n18, nr18⟩ := and_e nr17
  obtain ⟨n19, nr19⟩ := and_e nr18
  obtain ⟨n20, nr20⟩ := and_e nr19
  obtain ⟨n21, nr21⟩ := and_e nr20
  obtain ⟨n22, nr22⟩ := and_e nr21
  obtain ⟨n23, nr23⟩ := and_e nr22
  obtain ⟨n24, nr24⟩ := and_e nr23
  obtain ⟨n25, nr25⟩ := and_e nr24
  obtain ⟨n26, nr26⟩ := and_e nr25
  obtain ⟨n27, nr27⟩ := and_e nr26
  obtain ⟨n28, nr28⟩ := and_e nr27
  obtain ⟨n29, nr29⟩ := and_e nr28
  obtain ⟨n30, nr30⟩ := and_e nr29
  obtain ⟨n31, nr31⟩ := and_e nr30
  obtain ⟨n32, nr32⟩ := and_e nr31
  obtain ⟨n33, nr33⟩ := and_e nr32
  obtain ⟨n34, nr34⟩ := and_e nr33
  obtain ⟨n35, nr35⟩ := and_e nr34
  obtain ⟨n36, nr36⟩ := and_e nr35
  obtain ⟨n37, nr37⟩ := and_e nr36
  obtain ⟨n38, nr38⟩ := and_e nr37
  obtain ⟨n39, nr39⟩ := and_e nr38
  obtain ⟨n40, nr40⟩ := and_e nr39
  obtain ⟨n41, nr41⟩ := and_e nr40
  obtain ⟨n42, nr42⟩ := and_e nr41
  obtain ⟨n43, nr43⟩ := and_e nr42
  obtain ⟨n44, nr44⟩ := and_e nr43
  obtain ⟨n45, nr45⟩ := and_e nr44
  obtain ⟨n46, nr46⟩ := and_e nr45
  obtain ⟨n47, nr47⟩ := and_e nr46
  obtain ⟨n48, nr48⟩ := and_e nr47
  obtain ⟨n49, nr49⟩ := and_e nr48
  obtain ⟨n50, nr50⟩ := and_e nr49
  obtain ⟨n51, nr51⟩ := and_e nr50
  obtain ⟨n52, nr52⟩ := and_e nr51
  obtain ⟨n53, nr53⟩ := and_e nr52
  obtain ⟨n54, nr54⟩ := and_e nr53
  obtain ⟨n55, nr55⟩ := and_e nr54
  obtain ⟨n56, nr56⟩ := and_e nr55
  obtain ⟨n57, nr57⟩ := and_e nr56
  obtain ⟨n58, nr58⟩ := and_e nr57
  obtain ⟨n59, nr59⟩ := and_e nr58
  have n60 := nr59
  obtain ⟨a_ALLOW, e_ALLOW⟩ := exa_v n0
  have E_ALLOW : Exa s s.heap a_ALLOW "com/example/portcullis/portcullis/Outcome" := Exa.start e_ALLOW n0
  have S_ALLOW : Sta s s.heap "com/example/portcullis/portcullis/Outcome" "ALLOW" "Lcom/example/portcullis/portcullis/Outcome;" (.ref a_ALLOW) := Sta.start e_ALLOW (Or.inr ⟨(hw _ (List.mem_of_getElem? (i := 6) rfl)), (hw _ (List.mem_of_getElem? (i := 7) rfl))⟩)
  obtain ⟨a_ALLOW_LOG, e_ALLOW_LOG⟩ := exa_v n5
  have E_ALLOW_LOG : Exa s s.heap a_ALLOW_LOG "com/example/portcullis/portcullis/Outcome" := Exa.start e_ALLOW_LOG n5
  have S_ALLOW_LOG : Sta s s.heap "com/example/portcullis/portcullis/Outcome" "ALLOW_LOG" "Lcom/example/portcullis/portcullis/Outcome;" (.ref a_ALLOW_LOG) := Sta.start e_ALLOW_LOG (Or.inr ⟨(hw _ (List.mem_of_getElem? (i := 6) rfl)), (hw _ (List.mem_of_getElem? (i := 59) rfl))⟩)
  obtain ⟨a_DENY_LOG, e_DENY_LOG⟩ := exa_v n8
  have E_DENY_LOG : Exa s s.heap a_DENY_LOG "com/example/portcullis/portcullis/Outcome" := Exa.start e_DENY_LOG n8
  have S_DENY_LOG : Sta s s.heap "com/example/portcullis/portcullis/Outcome" "DENY_LOG" "Lcom/example/portcullis/portcullis/Outcome;" (.ref a_DENY_LOG) := Sta.start e_DENY_LOG (Or.inr ⟨(hw _ (List.mem_of_getElem? (i := 6) rfl)), (hw _ (List.mem_of_getElem? (i := 61) rfl))⟩)
  obtain ⟨a_DEFER, e_DEFER⟩ := exa_v n18
  have E_DEFER : Exa s s.heap a_DEFER "com/example/portcullis/portcullis/Outcome" := Exa.start e_DEFER n18
  have S_DEFER : Sta s s.heap "com/example/portcullis/portcullis/Outcome" "DEFER" "Lcom/example/portcullis/portcullis/Outcome;" (.ref a_DEFER) := Sta.start e_DEFER (Or.inr ⟨(hw _ (List.mem_of_getElem? (i := 6) rfl)), (hw _ (List.mem_of_getElem? (i := 65) rfl))⟩)
  obtain ⟨a_DENY, e_DENY⟩ := exa_v n24
  have E_DENY : Exa s s.heap a_DENY "com/example/portcullis/portcullis/Outcome" := Exa.start e_DENY n24
  have S_DENY : Sta s s.heap "com/example/portcullis/portcullis/Outcome" "DENY" "Lcom/example/portcullis/portcullis/Outcome;" (.ref a_DENY) := Sta.start e_DENY (Or.inr ⟨(hw _ (List.mem_of_getElem? (i := 6) rfl)), (hw _ (List.mem_of_getElem? (i := 67) rfl))⟩)
  have F_ALLOW_ordinal : Fld s s.heap a_ALLOW "java/lang/Enum" "ordinal" "I" (.int 0) := Fld.start ((fld_at e_ALLOW).symm.trans (eqv_i (Term.int_eval 0) n6))
  have F_ALLOW_LOG_ordinal : Fld s s.heap a_ALLOW_LOG "java/lang/Enum" "ordinal" "I" (.int 1) := Fld.start ((fld_at e_ALLOW_LOG).symm.trans (eqv_i (Term.int_eval 1) n7))
  have F_DENY_LOG_ordinal : Fld s s.heap a_DENY_LOG "java/lang/Enum" "ordinal" "I" (.int 3) := Fld.start ((fld_at e_DENY_LOG).symm.trans (eqv_i (Term.int_eval 3) n9))
  have F_DEFER_ordinal : Fld s s.heap a_DEFER "java/lang/Enum" "ordinal" "I" (.int 4) := Fld.start ((fld_at e_DEFER).symm.trans (eqv_i (Term.int_eval 4) n23))
  have F_DENY_ordinal : Fld s s.heap a_DENY "java/lang/Enum" "ordinal" "I" (.int 2) := Fld.start ((fld_at e_DENY).symm.trans (eqv_i (Term.int_eval 2) n30))
  obtain ⟨s_ALLOW, es_ALLOW⟩ := exa_v n1
  have F_ALLOW_word : Fld s s.heap a_ALLOW "com/example/portcullis/portcullis/Outcome" "word" "Ljava/lang/String;" (.ref s_ALLOW) := Fld.start ((fld_at e_ALLOW).symm.trans es_ALLOW)
  have ES_ALLOW : Exa s s.heap s_ALLOW "java/lang/String" := Exa.start es_ALLOW n1
  obtain ⟨v_ALLOW, ev_ALLOW⟩ := arr_v n2
  have F_ALLOW_value : Fld s s.heap s_ALLOW "java/lang/String" "value" "[B" (.ref v_ALLOW) := Fld.start ((fld_at es_ALLOW).symm.trans ev_ALLOW)
  obtain ⟨cl_ALLOW, Ar_ALLOW⟩ := Arr.start ev_ALLOW n2
  have et_ALLOW : ∀ idx, (Jvm.Term.field (Jvm.Term.field (Jvm.Term.static "com/example/portcullis/portcullis/Outcome" "ALLOW" "Lcom/example/portcullis/portcullis/Outcome;") "com/example/portcullis/portcullis/Outcome" "word" "Ljava/lang/String;") "java/lang/String" "value" "[B").eval #[(.int i0)] s none idx s = some (.ref v_ALLOW) := fun idx => by rw [← ev_ALLOW]; rfl
  have Tb_ALLOW := tab_start hfit ev_ALLOW Ar_ALLOW n3 (by simp) (by decide)
  have F_ALLOW_coder : Fld s s.heap s_ALLOW "java/lang/String" "coder" "B" (.int 0) := Fld.start ((fld_at es_ALLOW).symm.trans (eqv_i (Term.int_eval 0) n4))
  have A_ALLOW : Ints s s.heap v_ALLOW .byte 5 own_w_ALLOW := Ints.congr (tab_ints Tb_ALLOW) (own_w_ALLOW_of (atv cl_ALLOW) (tab_one et_ALLOW Tb_ALLOW (by decide) (by decide) n34) (tab_one et_ALLOW Tb_ALLOW (by decide) (by decide) n35) (tab_one et_ALLOW Tb_ALLOW (by decide) (by decide) n36) (tab_one et_ALLOW Tb_ALLOW (by decide) (by decide) n37) (tab_one et_ALLOW Tb_ALLOW (by decide) (by decide) n38))
  obtain ⟨s_ALLOW_LOG, es_ALLOW_LOG⟩ := exa_v n14
  have F_ALLOW_LOG_word : Fld s s.heap a_ALLOW_LOG "com/example/portcullis/portcullis/Outcome" "word" "Ljava/lang/String;" (.ref s_ALLOW_LOG) := Fld.start ((fld_at e_ALLOW_LOG).symm.trans es_ALLOW_LOG)
  have ES_ALLOW_LOG : Exa s s.heap s_ALLOW_LOG "java/lang/String" := Exa.start es_ALLOW_LOG n14
  obtain ⟨v_ALLOW_LOG, ev_ALLOW_LOG⟩ := arr_v n15
  have F_ALLOW_LOG_value : Fld s s.heap s_ALLOW_LOG "java/lang/String" "value" "[B" (.ref v_ALLOW_LOG) := Fld.start ((fld_at es_ALLOW_LOG).symm.trans ev_ALLOW_LOG)
  obtain ⟨cl_ALLOW_LOG, Ar_ALLOW_LOG⟩ := Arr.start ev_ALLOW_LOG n15
  have et_ALLOW_LOG : ∀ idx, (Jvm.Term.field (Jvm.Term.field (Jvm.Term.static "com/example/portcullis/portcullis/Outcome" "ALLOW_LOG" "Lcom/example/portcullis/portcullis/Outcome;") "com/example/portcullis/portcullis/Outcome" "word" "Ljava/lang/String;") "java/lang/String" "value" "[B").eval #[(.int i0)] s none idx s = some (.ref v_ALLOW_LOG) := fun idx => by rw [← ev_ALLOW_LOG]; rfl
  have Tb_ALLOW_LOG := tab_start hfit ev_ALLOW_LOG Ar_ALLOW_LOG n16 (by simp) (by decide)
  have F_ALLOW_LOG_coder : Fld s s.heap s_ALLOW_LOG "java/lang/String" "coder" "B" (.int 0) := Fld.start ((fld_at es_ALLOW_LOG).symm.trans (eqv_i (Term.int_eval 0) n17))
  have A_ALLOW_LOG : Ints s s.heap v_ALLOW_LOG .byte 9 own_w_ALLOW_LOG := Ints.congr (tab_ints Tb_ALLOW_LOG) (own_w_ALLOW_LOG_of (atv cl_ALLOW_LOG) (tab_one et_ALLOW_LOG Tb_ALLOW_LOG (by decide) (by decide) n47) (tab_one et_ALLOW_LOG Tb_ALLOW_LOG (by decide) (by decide) n48) (tab_one et_ALLOW_LOG Tb_ALLOW_LOG (by decide) (by decide) n49) (tab_one et_ALLOW_LOG Tb_ALLOW_LOG (by decide) (by decide) n50) (tab_one et_ALLOW_LOG Tb_ALLOW_LOG (by decide) (by decide) n51) (tab_one et_ALLOW_LOG Tb_ALLOW_LOG (by decide) (by decide) n52) (tab_one et_ALLOW_LOG Tb_ALLOW_LOG (by decide) (by decide) n53) (tab_one et_ALLOW_LOG Tb_ALLOW_LOG (by decide) (by decide) n54) (tab_one et_ALLOW_LOG Tb_ALLOW_LOG (by decide) (by decide) n55))
  obtain ⟨s_DENY, es_DENY⟩ := exa_v n25
  have F_DENY_word : Fld s s.heap a_DENY "com/example/portcullis/portcullis/Outcome" "word" "Ljava/lang/String;" (.ref s_DENY) := Fld.start ((fld_at e_DENY).symm.trans es_DENY)
  have ES_DENY : Exa s s.heap s_DENY "java/lang/String" := Exa.start es_DENY n25
  obtain ⟨v_DENY, ev_DENY⟩ := arr_v n26
  have F_DENY_value : Fld s s.heap s_DENY "java/lang/String" "value" "[B" (.ref v_DENY) := Fld.start ((fld_at es_DENY).symm.trans ev_DENY)
  obtain ⟨cl_DENY, Ar_DENY⟩ := Arr.start ev_DENY n26
  have et_DENY : ∀ idx, (Jvm.Term.field (Jvm.Term.field (Jvm.Term.static "com/example/portcullis/portcullis/Outcome" "DENY" "Lcom/example/portcullis/portcullis/Outcome;") "com/example/portcullis/portcullis/Outcome" "word" "Ljava/lang/String;") "java/lang/String" "value" "[B").eval #[(.int i0)] s none idx s = some (.ref v_DENY) := fun idx => by rw [← ev_DENY]; rfl
  have Tb_DENY := tab_start hfit ev_DENY Ar_DENY n27 (by simp) (by decide)
  have F_DENY_coder : Fld s s.heap s_DENY "java/lang/String" "coder" "B" (.int 0) := Fld.start ((fld_at es_DENY).symm.trans (eqv_i (Term.int_eval 0) n28))
  have A_DENY : Ints s s.heap v_DENY .byte 4 own_w_DENY := Ints.congr (tab_ints Tb_DENY) (own_w_DENY_of (atv cl_DENY) (tab_one et_DENY Tb_DENY (by decide) (by decide) n29) (tab_one et_DENY Tb_DENY (by decide) (by decide) n31) (tab_one et_DENY Tb_DENY (by decide) (by decide) n32) (tab_one et_DENY Tb_DENY (by decide) (by decide) n33))
  obtain ⟨s_DENY_LOG, es_DENY_LOG⟩ := exa_v n10
  have F_DENY_LOG_word : Fld s s.heap a_DENY_LOG "com/example/portcullis/portcullis/Outcome" "word" "Ljava/lang/String;" (.ref s_DENY_LOG) := Fld.start ((fld_at e_DENY_LOG).symm.trans es_DENY_LOG)
  have ES_DENY_LOG : Exa s s.heap s_DENY_LOG "java/lang/String" := Exa.start es_DENY_LOG n10
  obtain ⟨v_DENY_LOG, ev_DENY_LOG⟩ := arr_v n11
  have F_DENY_LOG_value : Fld s s.heap s_DENY_LOG "java/lang/String" "value" "[B" (.ref v_DENY_LOG) := Fld.start ((fld_at es_DENY_LOG).symm.trans ev_DENY_LOG)
  obtain ⟨cl_DENY_LOG, Ar_DENY_LOG⟩ := Arr.start ev_DENY_LOG n11
  have et_DENY_LOG : ∀ idx, (Jvm.Term.field (Jvm.Term.field (Jvm.Term.static "com/example/portcullis/portcullis/Outcome" "DENY_LOG" "Lcom/example/portcullis/portcullis/Outcome;") "com/example/portcullis/portcullis/Outcome" "word" "Ljava/lang/String;") "java/lang/String" "value" "[B").eval #[(.int i0)] s none idx s = some (.ref v_DENY_LOG) := fun idx => by rw [← ev_DENY_LOG]; rfl
  have Tb_DENY_LOG := tab_start hfit ev_DENY_LOG Ar_DENY_LOG n12 (by simp) (by decide)
  have F_DENY_LOG_coder : Fld s s.heap s_DENY_LOG "java/lang/String" "coder" "B" (.int 0) := Fld.start ((fld_at es_DENY_LOG).symm.trans (eqv_i (Term.int_eval 0) n13))
  have A_DENY_LOG : Ints s s.heap v_DENY_LOG .byte 8 own_w_DENY_LOG := Ints.congr (tab_ints Tb_DENY_LOG) (own_w_DENY_LOG_of (atv cl_DENY_LOG) (tab_one et_DENY_LOG Tb_DENY_LOG (by decide) (by decide) n39) (tab_one et_DENY_LOG Tb_DENY_LOG (by decide) (by decide) n40) (tab_one et_DENY_LOG Tb_DENY_LOG (by decide) (by decide) n41) (tab_one et_DENY_LOG Tb_DENY_LOG (by decide) (by decide) n42) (tab_one et_DENY_LOG Tb_DENY_LOG (by decide) (by decide) n43) (tab_one et_DENY_LOG Tb_DENY_LOG (by decide) (by decide) n44) (tab_one et_DENY_LOG Tb_DENY_LOG (by decide) (by decide) n45) (tab_one et_DENY_LOG Tb_DENY_LOG (by decide) (by decide) n46))
  obtain ⟨s_DEFER, es_DEFER⟩ := exa_v n19
  have F_DEFER_word : Fld s s.heap a_DEFER "com/example/portcullis/portcullis/Outcome" "word" "Ljava/lang/String;" (.ref s_DEFER) := Fld.start ((fld_at e_DEFER).symm.trans es_DEFER)
  have ES_DEFER : Exa s s.heap s_DEFER "java/lang/String" := Exa.start es_DEFER n19
  obtain ⟨v_DEFER, ev_DEFER⟩ := arr_v n20
  have F_DEFER_value : Fld s s.heap s_DEFER "java/lang/String" "value" "[B" (.ref v_DEFER) := Fld.start ((fld_at es_DEFER).symm.trans ev_DEFER)
  obtain ⟨cl_DEFER, Ar_DEFER⟩ := Arr.start ev_DEFER n20
  have et_DEFER : ∀ idx, (Jvm.Term.field (Jvm.Term.field (Jvm.Term.static "com/example/portcullis/portcullis/Outcome" "DEFER" "Lcom/example/portcullis/portcullis/Outcome;") "com/example/portcullis/portcullis/Outcome" "word" "Ljava/lang/String;") "java/lang/String" "value" "[B").eval #[(.int i0)] s none idx s = some (.ref v_DEFER) := fun idx => by rw [← ev_DEFER]; rfl
  have Tb_DEFER := tab_start hfit ev_DEFER Ar_DEFER n21 (by simp) (by decide)
  have F_DEFER_coder : Fld s s.heap s_DEFER "java/lang/String" "coder" "B" (.int 0) := Fld.start ((fld_at es_DEFER).symm.trans (eqv_i (Term.int_eval 0) n22))
  have A_DEFER : Ints s s.heap v_DEFER .byte 5 own_w_DEFER := Ints.congr (tab_ints Tb_DEFER) (own_w_DEFER_of (atv cl_DEFER) (tab_one et_DEFER Tb_DEFER (by decide) (by decide) n56) (tab_one et_DEFER Tb_DEFER (by decide) (by decide) n57) (tab_one et_DEFER Tb_DEFER (by decide) (by decide) n58) (tab_one et_DEFER Tb_DEFER (by decide) (by decide) n59) (tab_one et_DEFER Tb_DEFER (by decide) (by decide) n60))
  obtain ⟨cs, ecs⟩ := is_v (Cond.before_iff.mp (hsets _ (List.mem_of_getElem? (i := 1) rfl)))
  have S_cs : Sta s s.heap "java/lang/String" "COMPACT_STRINGS" "Z" (.int cs) := Sta.start ecs (Or.inl (hsets _ (List.mem_of_getElem? (i := 0) rfl)))
  have hcs : ¬ cs = 0 := fun q => by have z := not_v (Cond.before_iff.mp (hsets _ (List.mem_of_getElem? (i := 2) rfl))); rw [Cond.eq_ints ecs (Term.int_eval 0)] at z; simp [q] at z
  obtain ⟨fm, efm, hfm⟩ := isR_v (Cond.before_iff.mp (hsets _ (List.mem_of_getElem? (i := 8) rfl)))
  have S_f : Sta s s.heap "jdk/internal/util/Preconditions" "SIOOBE_FORMATTER" "Ljava/util/function/BiFunction;" fm := Sta.start efm (Or.inl (hsets _ (List.mem_of_getElem? (i := 7) rfl)))
  have ne_ALLOW_ALLOW_LOG : ¬ a_ALLOW = a_ALLOW_LOG := Fld.ne F_ALLOW_ordinal F_ALLOW_LOG_ordinal (by decide)
  have ne_ALLOW_DENY : ¬ a_ALLOW = a_DENY := Fld.ne F_ALLOW_ordinal F_DENY_ordinal (by decide)
  have ne_ALLOW_DENY_LOG : ¬ a_ALLOW = a_DENY_LOG := Fld.ne F_ALLOW_ordinal F_DENY_LOG_ordinal (by decide)
  have ne_ALLOW_DEFER : ¬ a_ALLOW = a_DEFER := Fld.ne F_ALLOW_ordinal F_DEFER_ordinal (by decide)
  have ne_ALLOW_LOG_ALLOW : ¬ a_ALLOW_LOG = a_ALLOW := Fld.ne F_ALLOW_LOG_ordinal F_ALLOW_ordinal (by decide)
  have ne_ALLOW_LOG_DENY : ¬ a_ALLOW_LOG = a_DENY := Fld.ne F_ALLOW_LOG_ordinal F_DENY_ordinal (by decide)
  have ne_ALLOW_LOG_DENY_LOG : ¬ a_ALLOW_LOG = a_DENY_LOG := Fld.ne F_ALLOW_LOG_ordinal F_DENY_LOG_ordinal (by decide)
  have ne_ALLOW_LOG_DEFER : ¬ a_ALLOW_LOG = a_DEFER := Fld.ne F_ALLOW_LOG_ordinal F_DEFER_ordinal (by decide)
  have ne_DENY_ALLOW : ¬ a_DENY = a_ALLOW := Fld.ne F_DENY_ordinal F_ALLOW_ordinal (by decide)
  have ne_DENY_ALLOW_LOG : ¬ a_DENY = a_ALLOW_LOG := Fld.ne F_DENY_ordinal F_ALLOW_LOG_ordinal (by decide)
  have ne_DENY_DENY_LOG : ¬ a_DENY = a_DENY_LOG := Fld.ne F_DENY_ordinal F_DENY_LOG_ordinal (by decide)
  have ne_DENY_DEFER : ¬ a_DENY = a_DEFER := Fld.ne F_DENY_ordinal F_DEFER_ordinal (by decide)
  have ne_DENY_LOG_ALLOW : ¬ a_DENY_LOG = a_ALLOW := Fld.ne F_DENY_LOG_ordinal F_ALLOW_ordinal (by decide)
  have ne_DENY_LOG_ALLOW_LOG : ¬ a_DENY_LOG = a_ALLOW_LOG := Fld.ne F_DENY_LOG_ordinal F_ALLOW_LOG_ordinal (by decide)
  have ne_DENY_LOG_DENY : ¬ a_DENY_LOG = a_DENY := Fld.ne F_DENY_LOG_ordinal F_DENY_ordinal (by decide)
  have ne_DENY_LOG_DEFER : ¬ a_DENY_LOG = a_DEFER := Fld.ne F_DENY_LOG_ordinal F_DEFER_ordinal (by decide)
  have ne_DEFER_ALLOW : ¬ a_DEFER = a_ALLOW := Fld.ne F_DEFER_ordinal F_ALLOW_ordinal (by decide)
  have ne_DEFER_ALLOW_LOG : ¬ a_DEFER = a_ALLOW_LOG := Fld.ne F_DEFER_ordinal F_ALLOW_LOG_ordinal (by decide)
  have ne_DEFER_DENY : ¬ a_DEFER = a_DENY := Fld.ne F_DEFER_ordinal F_DENY_ordinal (by decide)
  have ne_DEFER_DENY_LOG : ¬ a_DEFER = a_DENY_LOG := Fld.ne F_DEFER_ordinal F_DENY_LOG_ordinal (by decide)
  obtain ⟨n, o, h1, h2, h3, _, L, rfl, ⟨rfl, N⟩, hq⟩ := rm0 l s _ hw tables_1 i0 a_ALLOW a_ALLOW_LOG a_DENY a_DENY_LOG a_DEFER s_ALLOW s_ALLOW_LOG s_DENY s_DENY_LOG s_DEFER v_ALLOW v_ALLOW_LOG v_DENY v_DENY_LOG v_DEFER cs fm s.heap s.heap.size (Nat.le_refl _) S_ALLOW S_ALLOW_LOG S_DENY S_DENY_LOG S_DEFER E_ALLOW E_ALLOW_LOG E_DENY E_DENY_LOG E_DEFER F_ALLOW_word ES_ALLOW F_ALLOW_value F_ALLOW_coder A_ALLOW F_ALLOW_LOG_word ES_ALLOW_LOG F_ALLOW_LOG_value F_ALLOW_LOG_coder A_ALLOW_LOG F_DENY_word ES_DENY F_DENY_value F_DENY_coder A_DENY F_DENY_LOG_word ES_DENY_LOG F_DENY_LOG_value F_DENY_LOG_coder A_DENY_LOG F_DEFER_word ES_DEFER F_DEFER_value F_DEFER_coder A_DEFER S_cs hcs S_f hfm ne_ALLOW_ALLOW_LOG ne_ALLOW_DENY ne_ALLOW_DENY_LOG ne_ALLOW_DEFER ne_ALLOW_LOG_ALLOW ne_ALLOW_LOG_DENY ne_ALLOW_LOG_DENY_LOG ne_ALLOW_LOG_DEFER ne_DENY_ALLOW ne_DENY_ALLOW_LOG ne_DENY_DENY_LOG ne_DENY_DEFER ne_DENY_LOG_ALLOW ne_DENY_LOG_ALLOW_LOG ne_DENY_LOG_DENY ne_DENY_LOG_DEFER ne_DEFER_ALLOW ne_DEFER_ALLOW_LOG ne_DEFER_DENY ne_DEFER_DENY_LOG p e ha hc hk s m _ below hf ((Spec.applies_iff_loose hf).mp happ).1 ⟨rfl, State.Warmed39.refl s, rfl⟩ trivial
  refine ⟨n, _, h1, h2, h3, hpost _ _ _ _ _ _ ⟨Cond.after_iff.mpr rfl, Cond.after_iff.mpr (eq_i res_at (Term.int_eval (1)) rfl), trivial⟩ ⟨hq.1, hq.2.1, (hq.2.2.sift fun y hy => Or.inr (N y hy)).mono (by decide) (by decide)⟩⟩
theorem main_1_1 : Claimed_1_1 := comes_1 fun _ _ _ _ _ _ h hF => ⟨h.1, hF⟩
theorem main_1_2 : Claimed_1_2 := comes_1 fun _ _ _ _ _ _ h hF => ⟨h.2.1, hF⟩
end Jvm.Pilot.@@N@@
namespace Jvm.Pilot.@@N@@
open Jvm Jvm.ClassFile Sem Op Lib Jvm.Free Jvm.Stand Jvm.Pilot.@@N@@.Jvm.D
/-! MADE BY PROGRAM (witnessworld.py) out of the Statement's table words and the real class files: 18 classes; the members and pool entries that the words name. The judged class is class 1, her method 2. -/
namespace start1
open Jvm.ClassFile
def u (s : String) : CpInfo := .utf8 (stringToUtf16 s)
/-- a pool by its gaps: so many unusable entries, then the entry; so many at the end -/
def gap : Nat → List CpInfo → List CpInfo
  | 0, r => r
  | n + 1, r => .unusable :: gap n r
def poolList (es : List (Nat × CpInfo)) (last : Nat) : List CpInfo := es.foldr (fun e r => gap e.1 (e.2 :: r)) (gap last [])
def pool (es : List (Nat × CpInfo)) (last : Nat) : Array CpInfo := ⟨poolList es last⟩
def fileOf (pool : Array CpInfo) (this : Nat) (attrs : Array Attribute := #[]) (ms : Array MethodInfo := #[]) (fl : Nat := 33) (sup : Nat := 0) (ifs : Array Nat := #[]) (fds : Array FieldInfo := #[]) : ClassFile where
  minorVersion := 0
  majorVersion := 65
  constantPool := pool
  accessFlags := fl
  thisClass := this
  superClass := sup
  interfaces := ifs
  fields := fds
  methods := ms
  attributes := attrs
def plain (name : String) (sup : Option ClassId) : Class where
  name := name
  kind := .ordinary
  loader := none
  accessFlags := 33
  super := sup
  interfaces := #[]
  cf := none
  fields := #[]
  methods := #[]
  instanceTypes := #[]
  staticTypes := #[]
  resolved := #[]
  callSites := []
  init := .initialized
  statics := none
  mirror := none

def pool0 : Array CpInfo := pool [(5, u "<init>"), (0, u "()V"), (1, .class_ 10), (1, u "java/lang/Object")] 113

def k0m0 : Method := { name := "<init>", desc := "()V", sig := { parameters := [], returnType := none }, accessFlags := 1, code := none }
/-- java/lang/Object -/
def k0 : Class := { plain "java/lang/Object" none with
  accessFlags := 33
  interfaces := #[]
  cf := some (fileOf pool0 8 #[] #[{ accessFlags := 1, nameIndex := 5, descriptorIndex := 6, attributes := #[] }] 33 0 #[] #[])
  fields := #[]
  methods := #[k0m0]
  instanceTypes := #[]
  staticTypes := #[]
  resolved := Array.replicate 124 none
  statics := none }

def pool1 : Array CpInfo := pool [(2, .class_ 4), (1, u "java/lang/Object"), (0, u "<init>"), (0, u "()V"), (0, .fieldref 8 9), (0, .class_ 10), (0, .nameAndType 11 12), (0, u "com/example/portcullis/portcullis/Outcome"), (0, u "ALLOW"), (0, u "Lcom/example/portcullis/portcullis/Outcome;"), (0, .fieldref 8 14), (0, .nameAndType 15 12), (0, u "ALLOW_LOG"), (0, .fieldref 8 17), (0, .nameAndType 18 12), (0, u "DENY"), (0, .fieldref 8 20), (0, .nameAndType 21 12), (0, u "DENY_LOG"), (0, .fieldref 8 23), (0, .nameAndType 24 12), (0, u "DEFER"), (0, .integer 2147483647), (0, .methodref 27 28), (0, .class_ 29), (0, .nameAndType 30 31), (0, u "com/example/portcullis/portcullis/OutcomeIsLoggedPinLaw"), (0, u "pick"), (0, u "(I)Lcom/example/portcullis/portcullis/Outcome;"), (0, .methodref 8 33), (0, .nameAndType 34 35), (0, u "word"), (0, u "()Ljava/lang/String;"), (0, .methodref 37 38), (0, .class_ 39), (0, .nameAndType 40 41), (0, u "java/lang/String"), (0, u "length"), (0, u "()I"), (0, .methodref 37 43), (0, .nameAndType 44 45), (0, u "charAt"), (0, u "(I)C"), (0, .methodref 8 47), (0, .nameAndType 48 49), (0, u "isLogged"), (0, u "()Z"), (3, u "law"), (0, u "(I)Z")] 2

def k1m0 : Method := { name := "<init>", desc := "()V", sig := { parameters := [], returnType := none }, accessFlags := 1, code := none }
def k1c1 : Code := { maxStack := 2, maxLocals := 1, code := method_2_code, exceptionTable := #[], attributes := #[] }
def k1m1 : Method := { name := "pick", desc := "(I)Lcom/example/portcullis/portcullis/Outcome;", sig := { parameters := [.int], returnType := some (.object "com/example/portcullis/portcullis/Outcome") }, accessFlags := 10, code := some k1c1 }
def k1c2 : Code := { maxStack := 3, maxLocals := 6, code := code, exceptionTable := #[], attributes := #[] }
def k1m2 : Method := { name := "law", desc := "(I)Z", sig := { parameters := [.int], returnType := some .boolean }, accessFlags := 9, code := some k1c2 }
/-- com/example/portcullis/portcullis/OutcomeIsLoggedPinLaw -/
def k1 : Class := { plain "com/example/portcullis/portcullis/OutcomeIsLoggedPinLaw" (some 0) with
  accessFlags := 49
  interfaces := #[]
  cf := some (fileOf pool1 27 #[] #[{ accessFlags := 1, nameIndex := 5, descriptorIndex := 6, attributes := #[] }, { accessFlags := 10, nameIndex := 30, descriptorIndex := 31, attributes := #[] }, { accessFlags := 9, nameIndex := 53, descriptorIndex := 54, attributes := #[] }] 49 2 #[] #[])
  fields := #[]
  methods := #[k1m0, k1m1, k1m2]
  instanceTypes := #[]
  staticTypes := #[]
  resolved := Array.replicate 57 none
  statics := none }

def pool2 : Array CpInfo := pool [(1, .class_ 2), (0, u "java/lang/constant/Constable"), (0, .class_ 4), (0, u "java/lang/Object")] 6

/-- java/lang/constant/Constable -/
def k2 : Class := { plain "java/lang/constant/Constable" (some 0) with
  accessFlags := 1537
  interfaces := #[]
  cf := some (fileOf pool2 1 #[] #[] 1537 3 #[] #[])
  fields := #[]
  methods := #[]
  instanceTypes := #[]
  staticTypes := #[]
  resolved := Array.replicate 11 none
  statics := none }

def pool3 : Array CpInfo := pool [(1, .class_ 2), (0, u "java/lang/Comparable"), (0, .class_ 4), (0, u "java/lang/Object")] 7

/-- java/lang/Comparable -/
def k3 : Class := { plain "java/lang/Comparable" (some 0) with
  accessFlags := 1537
  interfaces := #[]
  cf := some (fileOf pool3 1 #[] #[] 1537 3 #[] #[])
  fields := #[]
  methods := #[]
  instanceTypes := #[]
  staticTypes := #[]
  resolved := Array.replicate 12 none
  statics := none }

def pool4 : Array CpInfo := pool [(1, .class_ 2), (0, u "java/io/Serializable"), (0, .class_ 4), (0, u "java/lang/Object")] 2

/-- java/io/Serializable -/
def k4 : Class := { plain "java/io/Serializable" (some 0) with
  accessFlags := 1537
  interfaces := #[]
  cf := some (fileOf pool4 1 #[] #[] 1537 3 #[] #[])
  fields := #[]
  methods := #[]
  instanceTypes := #[]
  staticTypes := #[]
  resolved := Array.replicate 7 none
  statics := none }

def pool5 : Array CpInfo := pool [(2, .class_ 4), (1, u "java/lang/Enum"), (0, u "name"), (0, u "Ljava/lang/String;"), (2, u "ordinal"), (0, u "I"), (1, .class_ 14), (1, u "java/lang/Object"), (4, u "hash"), (86, .class_ 108), (1, u "java/lang/Enum$EnumDesc"), (2, .class_ 112), (0, u "java/lang/constant/Constable"), (0, .class_ 114), (0, u "java/lang/Comparable"), (0, .class_ 116), (0, u "java/io/Serializable")] 87

/-- java/lang/Enum -/
def k5 : Class := { plain "java/lang/Enum" (some 0) with
  accessFlags := 1057
  interfaces := #[2, 3, 4]
  cf := some (fileOf pool5 2 #[.nestMembers #[106]] #[] 1057 12 #[111, 113, 115] #[{ accessFlags := 18, nameIndex := 5, descriptorIndex := 6, attributes := #[] }, { accessFlags := 18, nameIndex := 9, descriptorIndex := 10, attributes := #[] }, { accessFlags := 2, nameIndex := 19, descriptorIndex := 10, attributes := #[] }])
  fields := #[{ name := "name", type := (.object "java/lang/String"), accessFlags := 18, slot := 0, constantValue := 0 }, { name := "ordinal", type := .int, accessFlags := 18, slot := 1, constantValue := 0 }, { name := "hash", type := .int, accessFlags := 2, slot := 2, constantValue := 0 }]
  methods := #[]
  instanceTypes := #[(.object "java/lang/String"), .int, .int]
  staticTypes := #[]
  resolved := Array.replicate 204 none
  statics := none }

def pool6 : Array CpInfo := pool [(1, .class_ 2), (0, u "com/example/portcullis/portcullis/Outcome"), (2, u "ALLOW"), (0, u "Lcom/example/portcullis/portcullis/Outcome;"), (0, .fieldref 1 8), (0, .nameAndType 9 6), (0, u "ALLOW_LOG"), (2, u "DENY"), (0, .fieldref 1 14), (0, .nameAndType 15 6), (0, u "DENY_LOG"), (2, u "DEFER"), (2, u "$VALUES"), (0, u "[Lcom/example/portcullis/portcullis/Outcome;"), (6, .class_ 31), (1, u "java/lang/Enum"), (6, .fieldref 1 39), (0, .nameAndType 40 41), (0, u "word"), (0, u "Ljava/lang/String;"), (2, u "exitStatus"), (0, u "I"), (59, u "()Ljava/lang/String;"), (1, u "()Z"), (2, u "isLogged")] 28

def k6c0 : Code := { maxStack := 1, maxLocals := 1, code := prog_9_method_5_code, exceptionTable := #[], attributes := #[] }
def k6m0 : Method := { name := "word", desc := "()Ljava/lang/String;", sig := { parameters := [], returnType := some (.object "java/lang/String") }, accessFlags := 1, code := some k6c0 }
def k6c1 : Code := { maxStack := 2, maxLocals := 1, code := prog_9_method_8_code, exceptionTable := #[], attributes := #[] }
def k6m1 : Method := { name := "isLogged", desc := "()Z", sig := { parameters := [], returnType := some .boolean }, accessFlags := 1, code := some k6c1 }
/-- com/example/portcullis/portcullis/Outcome -/
def k6 : Class := { plain "com/example/portcullis/portcullis/Outcome" (some 5) with
  accessFlags := 16433
  interfaces := #[]
  cf := some (fileOf pool6 1 #[] #[{ accessFlags := 1, nameIndex := 40, descriptorIndex := 105, attributes := #[] }, { accessFlags := 1, nameIndex := 110, descriptorIndex := 107, attributes := #[] }] 16433 29 #[] #[{ accessFlags := 16409, nameIndex := 5, descriptorIndex := 6, attributes := #[] }, { accessFlags := 16409, nameIndex := 9, descriptorIndex := 6, attributes := #[] }, { accessFlags := 16409, nameIndex := 12, descriptorIndex := 6, attributes := #[] }, { accessFlags := 16409, nameIndex := 15, descriptorIndex := 6, attributes := #[] }, { accessFlags := 16409, nameIndex := 18, descriptorIndex := 6, attributes := #[] }, { accessFlags := 18, nameIndex := 40, descriptorIndex := 41, attributes := #[] }, { accessFlags := 18, nameIndex := 44, descriptorIndex := 45, attributes := #[] }, { accessFlags := 4122, nameIndex := 21, descriptorIndex := 22, attributes := #[] }])
  fields := #[{ name := "ALLOW", type := (.object "com/example/portcullis/portcullis/Outcome"), accessFlags := 16409, slot := 0, constantValue := 0 }, { name := "ALLOW_LOG", type := (.object "com/example/portcullis/portcullis/Outcome"), accessFlags := 16409, slot := 1, constantValue := 0 }, { name := "DENY", type := (.object "com/example/portcullis/portcullis/Outcome"), accessFlags := 16409, slot := 2, constantValue := 0 }, { name := "DENY_LOG", type := (.object "com/example/portcullis/portcullis/Outcome"), accessFlags := 16409, slot := 3, constantValue := 0 }, { name := "DEFER", type := (.object "com/example/portcullis/portcullis/Outcome"), accessFlags := 16409, slot := 4, constantValue := 0 }, { name := "word", type := (.object "java/lang/String"), accessFlags := 18, slot := 3, constantValue := 0 }, { name := "exitStatus", type := .int, accessFlags := 18, slot := 4, constantValue := 0 }, { name := "$VALUES", type := (.array (.object "com/example/portcullis/portcullis/Outcome")), accessFlags := 4122, slot := 5, constantValue := 0 }]
  methods := #[k6m0, k6m1]
  instanceTypes := #[(.object "java/lang/String"), .int, .int, (.object "java/lang/String"), .int]
  staticTypes := #[(.object "com/example/portcullis/portcullis/Outcome"), (.object "com/example/portcullis/portcullis/Outcome"), (.object "com/example/portcullis/portcullis/Outcome"), (.object "com/example/portcullis/portcullis/Outcome"), (.object "com/example/portcullis/portcullis/Outcome"), (.array (.object "com/example/portcullis/portcullis/Outcome"))]
  resolved := Array.replicate 139 none
  statics := some 0 }

def pool7 : Array CpInfo := pool [(2, .class_ 4), (1, u "java/lang/CharSequence"), (42, .class_ 48), (0, u "java/lang/CharSequence$1CodePointIterator"), (10, .class_ 60), (0, u "java/lang/CharSequence$1CharIterator"), (5, .class_ 67), (0, u "java/lang/Object")] 63

/-- java/lang/CharSequence -/
def k7 : Class := { plain "java/lang/CharSequence" (some 0) with
  accessFlags := 1537
  interfaces := #[]
  cf := some (fileOf pool7 2 #[.nestMembers #[47, 59]] #[] 1537 66 #[] #[])
  fields := #[]
  methods := #[]
  instanceTypes := #[]
  staticTypes := #[]
  resolved := Array.replicate 131 none
  statics := none }

def pool8 : Array CpInfo := pool [(1, .class_ 2), (0, u "java/lang/constant/ConstantDesc"), (0, .class_ 4), (0, u "java/lang/Object")] 32

/-- java/lang/constant/ConstantDesc -/
def k8 : Class := { plain "java/lang/constant/ConstantDesc" (some 0) with
  accessFlags := 1537
  interfaces := #[]
  cf := some (fileOf pool8 1 #[] #[] 1537 3 #[] #[])
  fields := #[]
  methods := #[]
  instanceTypes := #[]
  staticTypes := #[]
  resolved := Array.replicate 37 none
  statics := none }

def pool9 : Array CpInfo := pool [(2, .class_ 4), (1, u "java/lang/Object"), (0, u "<init>"), (0, u "()V"), (2, .fieldref 10 11), (0, .class_ 12), (0, .nameAndType 13 14), (0, u "java/lang/String"), (0, u "value"), (0, u "[B"), (0, .fieldref 10 16), (0, .nameAndType 17 18), (0, u "coder"), (0, u "B"), (2, u "hash"), (0, u "I"), (2, u "hashIsZero"), (0, u "Z"), (11, .fieldref 10 39), (0, .nameAndType 40 26), (0, u "COMPACT_STRINGS"), (66, .class_ 109), (1, u "java/lang/StringLatin1"), (32, u "()Z"), (191, u "()I"), (0, .methodref 10 336), (0, .nameAndType 17 337), (0, u "()B"), (25, u "([BI)C"), (27, u "(II)V"), (35, u "(I)C"), (64, .methodref 10 493), (0, .nameAndType 494 142), (0, u "isLatin1"), (0, .methodref 107 496), (0, .nameAndType 497 363), (0, u "charAt"), (3, u "checkIndex"), (5, u "length"), (67, .class_ 576), (0, u "java/lang/CharSequence"), (22, u "CASE_INSENSITIVE_ORDER"), (0, u "Ljava/util/Comparator;"), (452, .fieldref 1054 1055), (0, .class_ 1056), (0, .nameAndType 1057 1058), (0, u "jdk/internal/util/Preconditions"), (0, u "SIOOBE_FORMATTER"), (0, u "Ljava/util/function/BiFunction;"), (0, .methodref 1054 1060), (0, .nameAndType 501 1061), (0, u "(IILjava/util/function/BiFunction;)I"), (39, u "serialPersistentFields"), (0, u "[Ljava/io/ObjectStreamField;"), (0, .class_ 1104), (0, u "java/lang/String$CaseInsensitiveComparator"), (1, .class_ 1107), (0, u "java/io/Serializable"), (0, .class_ 1109), (0, u "java/lang/Comparable"), (0, .class_ 1111), (0, u "java/lang/constant/Constable"), (0, .class_ 1113), (0, u "java/lang/constant/ConstantDesc"), (2, u "serialVersionUID"), (0, u "J"), (3, u "REPL"), (0, u "C"), (2, u "LATIN1"), (1, u "UTF16")] 323

def k9m0 : Method := { name := "<init>", desc := "()V", sig := { parameters := [], returnType := none }, accessFlags := 1, code := none }
def k9c1 : Code := { maxStack := 2, maxLocals := 1, code := jdk_42_method_54_code, exceptionTable := #[], attributes := #[] }
def k9m1 : Method := { name := "length", desc := "()I", sig := { parameters := [], returnType := some .int }, accessFlags := 1, code := some k9c1 }
def k9c2 : Code := { maxStack := 2, maxLocals := 2, code := jdk_42_method_56_code, exceptionTable := #[], attributes := #[] }
def k9m2 : Method := { name := "charAt", desc := "(I)C", sig := { parameters := [.int], returnType := some .char }, accessFlags := 1, code := some k9c2 }
def k9c3 : Code := { maxStack := 1, maxLocals := 1, code := jdk_42_method_152_code, exceptionTable := #[], attributes := #[] }
def k9m3 : Method := { name := "coder", desc := "()B", sig := { parameters := [], returnType := some .byte }, accessFlags := 0, code := some k9c3 }
def k9c4 : Code := { maxStack := 1, maxLocals := 1, code := jdk_42_method_154_code, exceptionTable := #[], attributes := #[] }
def k9m4 : Method := { name := "isLatin1", desc := "()Z", sig := { parameters := [], returnType := some .boolean }, accessFlags := 0, code := some k9c4 }
def k9c5 : Code := { maxStack := 3, maxLocals := 2, code := jdk_42_method_155_code, exceptionTable := #[], attributes := #[] }
def k9m5 : Method := { name := "checkIndex", desc := "(II)V", sig := { parameters := [.int, .int], returnType := none }, accessFlags := 8, code := some k9c5 }
/-- java/lang/String -/
def k9 : Class := { plain "java/lang/String" (some 0) with
  accessFlags := 49
  interfaces := #[4, 3, 7, 2, 8]
  cf := some (fileOf pool9 10 #[.nestMembers #[1103]] #[{ accessFlags := 1, nameIndex := 5, descriptorIndex := 6, attributes := #[] }, { accessFlags := 1, nameIndex := 507, descriptorIndex := 334, attributes := #[] }, { accessFlags := 1, nameIndex := 497, descriptorIndex := 427, attributes := #[] }, { accessFlags := 0, nameIndex := 17, descriptorIndex := 337, attributes := #[] }, { accessFlags := 0, nameIndex := 494, descriptorIndex := 142, attributes := #[] }, { accessFlags := 8, nameIndex := 501, descriptorIndex := 391, attributes := #[] }] 49 2 #[1106, 1108, 575, 1110, 1112] #[{ accessFlags := 18, nameIndex := 13, descriptorIndex := 14, attributes := #[] }, { accessFlags := 18, nameIndex := 17, descriptorIndex := 18, attributes := #[] }, { accessFlags := 2, nameIndex := 21, descriptorIndex := 22, attributes := #[] }, { accessFlags := 2, nameIndex := 25, descriptorIndex := 26, attributes := #[] }, { accessFlags := 26, nameIndex := 1116, descriptorIndex := 1117, attributes := #[] }, { accessFlags := 24, nameIndex := 40, descriptorIndex := 26, attributes := #[] }, { accessFlags := 26, nameIndex := 1101, descriptorIndex := 1102, attributes := #[] }, { accessFlags := 26, nameIndex := 1121, descriptorIndex := 1122, attributes := #[] }, { accessFlags := 25, nameIndex := 599, descriptorIndex := 600, attributes := #[] }, { accessFlags := 24, nameIndex := 1125, descriptorIndex := 18, attributes := #[] }, { accessFlags := 24, nameIndex := 1127, descriptorIndex := 18, attributes := #[] }])
  fields := #[{ name := "value", type := (.array .byte), accessFlags := 18, slot := 0, constantValue := 0 }, { name := "coder", type := .byte, accessFlags := 18, slot := 1, constantValue := 0 }, { name := "hash", type := .int, accessFlags := 2, slot := 2, constantValue := 0 }, { name := "hashIsZero", type := .boolean, accessFlags := 2, slot := 3, constantValue := 0 }, { name := "serialVersionUID", type := .long, accessFlags := 26, slot := 0, constantValue := 0 }, { name := "COMPACT_STRINGS", type := .boolean, accessFlags := 24, slot := 1, constantValue := 0 }, { name := "serialPersistentFields", type := (.array (.object "java/io/ObjectStreamField")), accessFlags := 26, slot := 2, constantValue := 0 }, { name := "REPL", type := .char, accessFlags := 26, slot := 3, constantValue := 0 }, { name := "CASE_INSENSITIVE_ORDER", type := (.object "java/util/Comparator"), accessFlags := 25, slot := 4, constantValue := 0 }, { name := "LATIN1", type := .byte, accessFlags := 24, slot := 5, constantValue := 0 }, { name := "UTF16", type := .byte, accessFlags := 24, slot := 6, constantValue := 0 }]
  methods := #[k9m0, k9m1, k9m2, k9m3, k9m4, k9m5]
  instanceTypes := #[(.array .byte), .byte, .int, .boolean]
  staticTypes := #[.long, .boolean, (.array (.object "java/io/ObjectStreamField")), .char, (.object "java/util/Comparator"), .byte, .byte]
  resolved := Array.replicate 1451 none
  statics := some 1 }

def pool10 : Array CpInfo := pool [(1, .class_ 2), (0, u "java/lang/String"), (1, .class_ 6), (1, u "java/lang/Object"), (0, u "<init>"), (0, u "()V"), (0, .methodref 1 10), (0, .nameAndType 11 12), (0, u "checkIndex"), (0, u "(II)V"), (1, .class_ 16), (1, u "java/lang/StringLatin1"), (36, u "([BI)C"), (67, u "$assertionsDisabled"), (0, u "Z"), (98, .class_ 223), (1, u "java/lang/StringLatin1$LinesSpliterator"), (28, u "charAt"), (137, .class_ 391), (0, u "java/lang/StringLatin1$CharsSpliterator")] 3

def k10m0 : Method := { name := "<init>", desc := "()V", sig := { parameters := [], returnType := none }, accessFlags := 0, code := none }
def k10c1 : Code := { maxStack := 2, maxLocals := 2, code := jdk_43_method_2_code, exceptionTable := #[], attributes := #[] }
def k10m1 : Method := { name := "charAt", desc := "([BI)C", sig := { parameters := [(.array .byte), .int], returnType := some .char }, accessFlags := 9, code := some k10c1 }
/-- java/lang/StringLatin1 -/
def k10 : Class := { plain "java/lang/StringLatin1" (some 0) with
  accessFlags := 48
  interfaces := #[]
  cf := some (fileOf pool10 14 #[.nestMembers #[390, 221]] #[{ accessFlags := 0, nameIndex := 7, descriptorIndex := 8, attributes := #[] }, { accessFlags := 9, nameIndex := 252, descriptorIndex := 53, attributes := #[] }] 48 4 #[] #[{ accessFlags := 4120, nameIndex := 121, descriptorIndex := 122, attributes := #[] }])
  fields := #[{ name := "$assertionsDisabled", type := .boolean, accessFlags := 4120, slot := 0, constantValue := 0 }]
  methods := #[k10m0, k10m1]
  instanceTypes := #[]
  staticTypes := #[.boolean]
  resolved := Array.replicate 395 none
  statics := none }

def pool11 : Array CpInfo := pool [(2, .class_ 4), (1, u "java/lang/Object"), (0, u "<init>"), (0, u "()V"), (17, .class_ 26), (1, u "jdk/internal/util/Preconditions"), (6, u "checkIndex"), (21, .class_ 56), (0, u "jdk/internal/util/Preconditions$4"), (57, .class_ 115), (0, u "jdk/internal/util/Preconditions$1"), (7, u "SIOOBE_FORMATTER"), (0, u "Ljava/util/function/BiFunction;"), (0, .class_ 126), (0, u "jdk/internal/util/Preconditions$2"), (3, u "AIOOBE_FORMATTER"), (0, .class_ 132), (0, u "jdk/internal/util/Preconditions$3"), (3, u "IOOBE_FORMATTER"), (41, u "(IILjava/util/function/BiFunction;)I")] 15

def k11m0 : Method := { name := "<init>", desc := "()V", sig := { parameters := [], returnType := none }, accessFlags := 1, code := none }
def k11c1 : Code := { maxStack := 3, maxLocals := 3, code := jdk_41_method_11_code, exceptionTable := #[], attributes := #[] }
def k11m1 : Method := { name := "checkIndex", desc := "(IILjava/util/function/BiFunction;)I", sig := { parameters := [.int, .int, (.object "java/util/function/BiFunction")], returnType := some .int }, accessFlags := 9, code := some k11c1 }
/-- jdk/internal/util/Preconditions -/
def k11 : Class := { plain "jdk/internal/util/Preconditions" (some 0) with
  accessFlags := 33
  interfaces := #[]
  cf := some (fileOf pool11 24 #[.nestMembers #[55, 131, 125, 114]] #[{ accessFlags := 1, nameIndex := 5, descriptorIndex := 6, attributes := #[] }, { accessFlags := 9, nameIndex := 33, descriptorIndex := 178, attributes := #[] }] 33 2 #[] #[{ accessFlags := 25, nameIndex := 123, descriptorIndex := 124, attributes := #[] }, { accessFlags := 25, nameIndex := 130, descriptorIndex := 124, attributes := #[] }, { accessFlags := 25, nameIndex := 136, descriptorIndex := 124, attributes := #[] }])
  fields := #[{ name := "SIOOBE_FORMATTER", type := (.object "java/util/function/BiFunction"), accessFlags := 25, slot := 0, constantValue := 0 }, { name := "AIOOBE_FORMATTER", type := (.object "java/util/function/BiFunction"), accessFlags := 25, slot := 1, constantValue := 0 }, { name := "IOOBE_FORMATTER", type := (.object "java/util/function/BiFunction"), accessFlags := 25, slot := 2, constantValue := 0 }]
  methods := #[k11m0, k11m1]
  instanceTypes := #[]
  staticTypes := #[(.object "java/util/function/BiFunction"), (.object "java/util/function/BiFunction"), (.object "java/util/function/BiFunction")]
  resolved := Array.replicate 194 none
  statics := some 2 }

def pool12 : Array CpInfo := pool [(9, u "<init>"), (6, .class_ 18), (1, u "java/lang/Object"), (0, u "()V"), (1, .class_ 23), (1, u "jdk/internal/util/ArraysSupport"), (0, u "LOG2_ARRAY_LONG_INDEX_SCALE"), (0, u "I"), (2, u "U"), (0, u "Ljdk/internal/misc/Unsafe;"), (8, u "BIG_ENDIAN"), (0, u "Z"), (8, u "LOG2_BYTE_BIT_SIZE"), (4, u "LOG2_ARRAY_INT_INDEX_SCALE"), (54, u "JLA"), (0, u "Ljdk/internal/access/JavaLangAccess;"), (11, u "LOG2_ARRAY_BOOLEAN_INDEX_SCALE"), (9, u "LOG2_ARRAY_BYTE_INDEX_SCALE"), (5, u "LOG2_ARRAY_CHAR_INDEX_SCALE"), (5, u "LOG2_ARRAY_SHORT_INDEX_SCALE"), (18, u "LOG2_ARRAY_FLOAT_INDEX_SCALE"), (24, u "LOG2_ARRAY_DOUBLE_INDEX_SCALE"), (89, u "T_BOOLEAN"), (2, u "T_CHAR"), (1, u "T_FLOAT"), (1, u "T_DOUBLE"), (1, u "T_BYTE"), (1, u "T_SHORT"), (1, u "T_INT"), (1, u "T_LONG"), (1, u "SOFT_MAX_ARRAY_LENGTH")] 83

def k12m0 : Method := { name := "<init>", desc := "()V", sig := { parameters := [], returnType := none }, accessFlags := 2, code := none }
/-- jdk/internal/util/ArraysSupport -/
def k12 : Class := { plain "jdk/internal/util/ArraysSupport" (some 0) with
  accessFlags := 33
  interfaces := #[]
  cf := some (fileOf pool12 21 #[] #[{ accessFlags := 2, nameIndex := 9, descriptorIndex := 19, attributes := #[] }] 33 16 #[] #[{ accessFlags := 24, nameIndex := 28, descriptorIndex := 29, attributes := #[] }, { accessFlags := 26, nameIndex := 38, descriptorIndex := 39, attributes := #[] }, { accessFlags := 25, nameIndex := 121, descriptorIndex := 25, attributes := #[] }, { accessFlags := 25, nameIndex := 131, descriptorIndex := 25, attributes := #[] }, { accessFlags := 25, nameIndex := 137, descriptorIndex := 25, attributes := #[] }, { accessFlags := 25, nameIndex := 143, descriptorIndex := 25, attributes := #[] }, { accessFlags := 25, nameIndex := 53, descriptorIndex := 25, attributes := #[] }, { accessFlags := 25, nameIndex := 24, descriptorIndex := 25, attributes := #[] }, { accessFlags := 25, nameIndex := 162, descriptorIndex := 25, attributes := #[] }, { accessFlags := 25, nameIndex := 187, descriptorIndex := 25, attributes := #[] }, { accessFlags := 26, nameIndex := 48, descriptorIndex := 25, attributes := #[] }, { accessFlags := 25, nameIndex := 277, descriptorIndex := 25, attributes := #[] }, { accessFlags := 25, nameIndex := 280, descriptorIndex := 25, attributes := #[] }, { accessFlags := 25, nameIndex := 282, descriptorIndex := 25, attributes := #[] }, { accessFlags := 25, nameIndex := 284, descriptorIndex := 25, attributes := #[] }, { accessFlags := 25, nameIndex := 286, descriptorIndex := 25, attributes := #[] }, { accessFlags := 25, nameIndex := 288, descriptorIndex := 25, attributes := #[] }, { accessFlags := 25, nameIndex := 290, descriptorIndex := 25, attributes := #[] }, { accessFlags := 25, nameIndex := 292, descriptorIndex := 25, attributes := #[] }, { accessFlags := 26, nameIndex := 108, descriptorIndex := 109, attributes := #[] }, { accessFlags := 25, nameIndex := 294, descriptorIndex := 25, attributes := #[] }])
  fields := #[{ name := "U", type := (.object "jdk/internal/misc/Unsafe"), accessFlags := 24, slot := 0, constantValue := 0 }, { name := "BIG_ENDIAN", type := .boolean, accessFlags := 26, slot := 1, constantValue := 0 }, { name := "LOG2_ARRAY_BOOLEAN_INDEX_SCALE", type := .int, accessFlags := 25, slot := 2, constantValue := 0 }, { name := "LOG2_ARRAY_BYTE_INDEX_SCALE", type := .int, accessFlags := 25, slot := 3, constantValue := 0 }, { name := "LOG2_ARRAY_CHAR_INDEX_SCALE", type := .int, accessFlags := 25, slot := 4, constantValue := 0 }, { name := "LOG2_ARRAY_SHORT_INDEX_SCALE", type := .int, accessFlags := 25, slot := 5, constantValue := 0 }, { name := "LOG2_ARRAY_INT_INDEX_SCALE", type := .int, accessFlags := 25, slot := 6, constantValue := 0 }, { name := "LOG2_ARRAY_LONG_INDEX_SCALE", type := .int, accessFlags := 25, slot := 7, constantValue := 0 }, { name := "LOG2_ARRAY_FLOAT_INDEX_SCALE", type := .int, accessFlags := 25, slot := 8, constantValue := 0 }, { name := "LOG2_ARRAY_DOUBLE_INDEX_SCALE", type := .int, accessFlags := 25, slot := 9, constantValue := 0 }, { name := "LOG2_BYTE_BIT_SIZE", type := .int, accessFlags := 26, slot := 10, constantValue := 0 }, { name := "T_BOOLEAN", type := .int, accessFlags := 25, slot := 11, constantValue := 0 }, { name := "T_CHAR", type := .int, accessFlags := 25, slot := 12, constantValue := 0 }, { name := "T_FLOAT", type := .int, accessFlags := 25, slot := 13, constantValue := 0 }, { name := "T_DOUBLE", type := .int, accessFlags := 25, slot := 14, constantValue := 0 }, { name := "T_BYTE", type := .int, accessFlags := 25, slot := 15, constantValue := 0 }, { name := "T_SHORT", type := .int, accessFlags := 25, slot := 16, constantValue := 0 }, { name := "T_INT", type := .int, accessFlags := 25, slot := 17, constantValue := 0 }, { name := "T_LONG", type := .int, accessFlags := 25, slot := 18, constantValue := 0 }, { name := "JLA", type := (.object "jdk/internal/access/JavaLangAccess"), accessFlags := 26, slot := 19, constantValue := 0 }, { name := "SOFT_MAX_ARRAY_LENGTH", type := .int, accessFlags := 25, slot := 20, constantValue := 0 }]
  methods := #[k12m0]
  instanceTypes := #[]
  staticTypes := #[(.object "jdk/internal/misc/Unsafe"), .boolean, .int, .int, .int, .int, .int, .int, .int, .int, .int, .int, .int, .int, .int, .int, .int, .int, .int, (.object "jdk/internal/access/JavaLangAccess"), .int]
  resolved := Array.replicate 378 none
  statics := none }

def pool13 : Array CpInfo := pool [(1, u "java/lang/Cloneable"), (0, .class_ 1), (0, u "java/lang/Object"), (0, .class_ 3)] 3

/-- java/lang/Cloneable -/
def k13 : Class := { plain "java/lang/Cloneable" (some 0) with
  accessFlags := 1537
  interfaces := #[]
  cf := some (fileOf pool13 2 #[] #[] 1537 4 #[] #[])
  fields := #[]
  methods := #[]
  instanceTypes := #[]
  staticTypes := #[]
  resolved := Array.replicate 8 none
  statics := none }

/-- the primitive byte -/
def k14 : Class := { plain "byte" none with kind := .primitive 'B', accessFlags := 0x411 }
/-- [B -/
def k15 : Class := { plain "[B" (some 0) with kind := .array 14 .byte, interfaces := #[13, 4], accessFlags := 1041 }

/-- the primitive int -/
def k16 : Class := { plain "int" none with kind := .primitive 'I', accessFlags := 0x411 }
/-- [I -/
def k17 : Class := { plain "[I" (some 0) with kind := .array 16 .int, interfaces := #[13, 4], accessFlags := 1041 }

def heap : Heap := #[{ cls := 6, slots := #[.ref 13, .ref 14, .ref 15, .ref 16, .ref 17, .null], vm := .statics 6 },
  { cls := 9, slots := #[.long 0, .int 1, .null, .int 0, .null, .int 0, .int 0], vm := .statics 9 },
  { cls := 11, slots := #[.null, .null, .null], vm := .statics 11 },
  { cls := 15, slots := #[.int 97, .int 108, .int 108, .int 111, .int 119], vm := .none },
  { cls := 15, slots := #[.int 97, .int 108, .int 108, .int 111, .int 119, .int 45, .int 108, .int 111, .int 103], vm := .none },
  { cls := 15, slots := #[.int 100, .int 101, .int 110, .int 121], vm := .none },
  { cls := 15, slots := #[.int 100, .int 101, .int 110, .int 121, .int 45, .int 108, .int 111, .int 103], vm := .none },
  { cls := 15, slots := #[.int 100, .int 101, .int 102, .int 101, .int 114], vm := .none },
  { cls := 9, slots := #[.ref 3, .int 0, .int 0, .int 0], vm := .none },
  { cls := 9, slots := #[.ref 4, .int 0, .int 0, .int 0], vm := .none },
  { cls := 9, slots := #[.ref 5, .int 0, .int 0, .int 0], vm := .none },
  { cls := 9, slots := #[.ref 6, .int 0, .int 0, .int 0], vm := .none },
  { cls := 9, slots := #[.ref 7, .int 0, .int 0, .int 0], vm := .none },
  { cls := 6, slots := #[.null, .int 0, .int 0, .ref 8, .int 0], vm := .none },
  { cls := 6, slots := #[.null, .int 1, .int 0, .ref 9, .int 0], vm := .none },
  { cls := 6, slots := #[.null, .int 2, .int 0, .ref 10, .int 0], vm := .none },
  { cls := 6, slots := #[.null, .int 3, .int 0, .ref 11, .int 0], vm := .none },
  { cls := 6, slots := #[.null, .int 4, .int 0, .ref 12, .int 0], vm := .none }]
def classes : Array Class := #[k0, k1, k2, k3, k4, k5, k6, k7, k8, k9, k10, k11, k12, k13, k14, k15, k16, k17]
def interned : List (Array UInt16 × Addr) := []
def slotsUsed : Nat := 92
def theMethod : MethodId := ⟨1, 2⟩
def args0 : Array Value := #[.int 3]
def aboutOver (below : List Frame) : State where
  vm := { classes := classes, interned := interned.toArray }
  heap := heap
  slotsUsed := slotsUsed
  threads := #[{ frames := .invoking theMethod args0 :: below }]
def below0 : List Frame := [.native { method := ⟨0, 0⟩, args := #[] }]
def about1 : State := aboutOver below0
def p0 : Program := .bare "" "" ""
def e0 : Env := launch0.env 0 0 0
theorem w_frames : about1.frames = Frame.invoking theMethod args0 :: below0 := rfl
set_option maxRecDepth 65536 in
theorem w_args : argsFit about1.vm theMethod args0 = true := by decide +kernel
set_option maxRecDepth 65536 in
theorem w_heap : heapFits about1 = true := by decide +kernel
set_option maxRecDepth 65536 in
theorem w_runnable : about1.curStatus? = some .runnable := by decide +kernel
set_option maxRecDepth 65536 in
theorem w_alone : about1.alone = true := by decide +kernel
set_option maxRecDepth 65536 in
theorem w_named : about1.methodNamed? x = some theMethod := by decide +kernel
set_option maxRecDepth 65536 in
theorem w_hears : about1.hears theMethod below0 = true := by decide +kernel
set_option maxRecDepth 65536 in
theorem w_ripe : about1.ripe theMethod args0 below0 = true := by decide +kernel
theorem w_running : about1.status = .running := rfl
set_option maxRecDepth 65536 in
theorem w_room : about1.hasRoom e0.platform room_1 = true :=
  launch0.hasRoom_least _ room_1 (by decide +kernel) (by decide +kernel) (by decide +kernel) (by decide +kernel) (by decide +kernel) (by decide +kernel)
theorem allAtoms_all (ts : List Jvm.Cond) (a : Array Jvm.Value) (st : Jvm.State) : (allAtoms ts).before a st = ts.all (fun c => c.before a st) := by
  induction ts with
  | nil => rfl
  | cons c t ih =>
    show (Jvm.Cond.and c (allAtoms t)).before a st = _
    rw [Jvm.Cond.before_and, ih, List.all_cons]
def words1 : List Jvm.Cond := Jvm.Cond.code x code maxLocals ret :: tables_1
/-- a 'code' word, met by the world's own term for the bytes: nothing is compared byte by byte -/
theorem code_word {y : MethodName} {bytes : ByteArray} {mx : Nat} {rt : Option FieldType} {a : Array Value} {s : State} {m : MethodId} {meth : Method} {c : Code} (h1 : s.methodNamed? y = some m) (h2 : s.vm.method? m = some meth) (h3 : meth.code = some c) (h4 : c.code = bytes)
    (h5 : (c.maxLocals == mx && c.exceptionTable.isEmpty && decide (c.maxStack ≤ mostOperands) && decide (meth.sig.returnType = rt) && !meth.locks && decide (parseMethodDescriptor y.desc = some meth.sig)) = true) : (Jvm.Cond.code y bytes mx rt).before a s = true := by
  simp only [Bool.and_eq_true, beq_iff_eq, Bool.not_eq_true', decide_eq_true_eq] at h5
  obtain ⟨⟨⟨⟨⟨g1, g2⟩, g3⟩, g4⟩, g5⟩, g6⟩ := h5
  simp [Cond.before, Cond.holds, Cond.value, h1, h2, h3, h4, g1, g2, g3, g4, g5, g6]
def isCode : Jvm.Cond → Bool
  | .code _ _ _ _ => true
  | _ => false
theorem all_split {L : List Jvm.Cond} {P : Jvm.Cond → Bool} (h1 : L.all (fun c => isCode c || P c) = true) (h2 : ∀ c ∈ L.filter isCode, P c = true) : L.all P = true := by
  refine List.all_eq_true.mpr fun c hc => ?_
  have h := List.all_eq_true.mp h1 c hc
  rcases Bool.eq_false_or_eq_true (isCode c) with hi | hi
  · exact h2 c (List.mem_filter.mpr ⟨hc, hi⟩)
  · simpa [hi] using h
set_option maxRecDepth 65536 in
theorem w_c0 : (Jvm.Cond.code x code maxLocals ret).before args0 about1 = true := code_word (m := ⟨1, 2⟩) (meth := k1m2) (c := k1c2) (by decide +kernel) rfl rfl rfl (by decide +kernel)
set_option maxRecDepth 65536 in
theorem w_c1 : (Jvm.Cond.code ({ cls := "com/example/portcullis/portcullis/OutcomeIsLoggedPinLaw", name := "pick", desc := "(I)Lcom/example/portcullis/portcullis/Outcome;" } : Jvm.MethodName) method_2_code (1 : Nat) (Option.some (Jvm.ClassFile.FieldType.object "com/example/portcullis/portcullis/Outcome"))).before args0 about1 = true := code_word (m := ⟨1, 1⟩) (meth := k1m1) (c := k1c1) (by decide +kernel) rfl rfl rfl (by decide +kernel)
set_option maxRecDepth 65536 in
theorem w_c2 : (Jvm.Cond.code ({ cls := "com/example/portcullis/portcullis/Outcome", name := "word", desc := "()Ljava/lang/String;" } : Jvm.MethodName) prog_9_method_5_code (1 : Nat) (Option.some (Jvm.ClassFile.FieldType.object "java/lang/String"))).before args0 about1 = true := code_word (m := ⟨6, 0⟩) (meth := k6m0) (c := k6c0) (by decide +kernel) rfl rfl rfl (by decide +kernel)
set_option maxRecDepth 65536 in
theorem w_c3 : (Jvm.Cond.code ({ cls := "java/lang/String", name := "length", desc := "()I" } : Jvm.MethodName) jdk_42_method_54_code (1 : Nat) (Option.some Jvm.ClassFile.FieldType.int)).before args0 about1 = true := code_word (m := ⟨9, 1⟩) (meth := k9m1) (c := k9c1) (by decide +kernel) rfl rfl rfl (by decide +kernel)
set_option maxRecDepth 65536 in
theorem w_c4 : (Jvm.Cond.code ({ cls := "java/lang/String", name := "coder", desc := "()B" } : Jvm.MethodName) jdk_42_method_152_code (1 : Nat) (Option.some Jvm.ClassFile.FieldType.byte)).before args0 about1 = true := code_word (m := ⟨9, 3⟩) (meth := k9m3) (c := k9c3) (by decide +kernel) rfl rfl rfl (by decide +kernel)
set_option maxRecDepth 65536 in
theorem w_c5 : (Jvm.Cond.code ({ cls := "java/lang/String", name := "charAt", desc := "(I)C" } : Jvm.MethodName) jdk_42_method_56_code (2 : Nat) (Option.some Jvm.ClassFile.FieldType.char)).before args0 about1 = true := code_word (m := ⟨9, 2⟩) (meth := k9m2) (c := k9c2) (by decide +kernel) rfl rfl rfl (by decide +kernel)
set_option maxRecDepth 65536 in
theorem w_c6 : (Jvm.Cond.code ({ cls := "java/lang/String", name := "isLatin1", desc := "()Z" } : Jvm.MethodName) jdk_42_method_154_code (1 : Nat) (Option.some Jvm.ClassFile.FieldType.boolean)).before args0 about1 = true := code_word (m := ⟨9, 4⟩) (meth := k9m4) (c := k9c4) (by decide +kernel) rfl rfl rfl (by decide +kernel)
set_option maxRecDepth 65536 in
theorem w_c7 : (Jvm.Cond.code ({ cls := "java/lang/StringLatin1", name := "charAt", desc := "([BI)C" } : Jvm.MethodName) jdk_43_method_2_code (2 : Nat) (Option.some Jvm.ClassFile.FieldType.char)).before args0 about1 = true := code_word (m := ⟨10, 1⟩) (meth := k10m1) (c := k10c1) (by decide +kernel) rfl rfl rfl (by decide +kernel)
set_option maxRecDepth 65536 in
theorem w_c8 : (Jvm.Cond.code ({ cls := "java/lang/String", name := "checkIndex", desc := "(II)V" } : Jvm.MethodName) jdk_42_method_155_code (2 : Nat) (Option.none : Option Jvm.ClassFile.FieldType)).before args0 about1 = true := code_word (m := ⟨9, 5⟩) (meth := k9m5) (c := k9c5) (by decide +kernel) rfl rfl rfl (by decide +kernel)
set_option maxRecDepth 65536 in
theorem w_c9 : (Jvm.Cond.code ({ cls := "jdk/internal/util/Preconditions", name := "checkIndex", desc := "(IILjava/util/function/BiFunction;)I" } : Jvm.MethodName) jdk_41_method_11_code (3 : Nat) (Option.some Jvm.ClassFile.FieldType.int)).before args0 about1 = true := code_word (m := ⟨11, 1⟩) (meth := k11m1) (c := k11c1) (by decide +kernel) rfl rfl rfl (by decide +kernel)
set_option maxRecDepth 65536 in
theorem w_c10 : (Jvm.Cond.code ({ cls := "com/example/portcullis/portcullis/Outcome", name := "isLogged", desc := "()Z" } : Jvm.MethodName) prog_9_method_8_code (1 : Nat) (Option.some Jvm.ClassFile.FieldType.boolean)).before args0 about1 = true := code_word (m := ⟨6, 1⟩) (meth := k6m1) (c := k6c1) (by decide +kernel) rfl rfl rfl (by decide +kernel)
def codes1 : List Jvm.Cond := [Jvm.Cond.code x code maxLocals ret, Jvm.Cond.code ({ cls := "com/example/portcullis/portcullis/OutcomeIsLoggedPinLaw", name := "pick", desc := "(I)Lcom/example/portcullis/portcullis/Outcome;" } : Jvm.MethodName) method_2_code (1 : Nat) (Option.some (Jvm.ClassFile.FieldType.object "com/example/portcullis/portcullis/Outcome")), Jvm.Cond.code ({ cls := "com/example/portcullis/portcullis/Outcome", name := "word", desc := "()Ljava/lang/String;" } : Jvm.MethodName) prog_9_method_5_code (1 : Nat) (Option.some (Jvm.ClassFile.FieldType.object "java/lang/String")), Jvm.Cond.code ({ cls := "java/lang/String", name := "length", desc := "()I" } : Jvm.MethodName) jdk_42_method_54_code (1 : Nat) (Option.some Jvm.ClassFile.FieldType.int), Jvm.Cond.code ({ cls := "java/lang/String", name := "coder", desc := "()B" } : Jvm.MethodName) jdk_42_method_152_code (1 : Nat) (Option.some Jvm.ClassFile.FieldType.byte), Jvm.Cond.code ({ cls := "java/lang/String", name := "charAt", desc := "(I)C" } : Jvm.MethodName) jdk_42_method_56_code (2 : Nat) (Option.some Jvm.ClassFile.FieldType.char), Jvm.Cond.code ({ cls := "java/lang/String", name := "isLatin1", desc := "()Z" } : Jvm.MethodName) jdk_42_method_154_code (1 : Nat) (Option.some Jvm.ClassFile.FieldType.boolean), Jvm.Cond.code ({ cls := "java/lang/StringLatin1", name := "charAt", desc := "([BI)C" } : Jvm.MethodName) jdk_43_method_2_code (2 : Nat) (Option.some Jvm.ClassFile.FieldType.char), Jvm.Cond.code ({ cls := "java/lang/String", name := "checkIndex", desc := "(II)V" } : Jvm.MethodName) jdk_42_method_155_code (2 : Nat) (Option.none : Option Jvm.ClassFile.FieldType), Jvm.Cond.code ({ cls := "jdk/internal/util/Preconditions", name := "checkIndex", desc := "(IILjava/util/function/BiFunction;)I" } : Jvm.MethodName) jdk_41_method_11_code (3 : Nat) (Option.some Jvm.ClassFile.FieldType.int), Jvm.Cond.code ({ cls := "com/example/portcullis/portcullis/Outcome", name := "isLogged", desc := "()Z" } : Jvm.MethodName) prog_9_method_8_code (1 : Nat) (Option.some Jvm.ClassFile.FieldType.boolean)]
set_option maxRecDepth 65536 in
theorem codes_eq : words1.filter isCode = codes1 := rfl
theorem w_codes : ∀ c ∈ words1.filter isCode, c.before args0 about1 = true := by
  rw [codes_eq]
  intro c hc
  simp only [codes1, List.mem_cons, List.not_mem_nil, or_false] at hc
  rcases hc with rfl | rfl | rfl | rfl | rfl | rfl | rfl | rfl | rfl | rfl | rfl
  · exact w_c0
  · exact w_c1
  · exact w_c2
  · exact w_c3
  · exact w_c4
  · exact w_c5
  · exact w_c6
  · exact w_c7
  · exact w_c8
  · exact w_c9
  · exact w_c10
set_option maxRecDepth 65536 in
theorem w_t1 : (words1.take 24).all (fun c => isCode c || c.before args0 about1) = true := by decide +kernel
set_option maxRecDepth 65536 in
theorem w_t2 : ((words1.drop 24).take 24).all (fun c => isCode c || c.before args0 about1) = true := by decide +kernel
set_option maxRecDepth 65536 in
theorem w_t3 : ((words1.drop 24).drop 24).all (fun c => isCode c || c.before args0 about1) = true := by decide +kernel
theorem w_tables : (allAtoms (Jvm.Cond.code x code maxLocals ret :: tables_1)).before args0 about1 = true := by
  rw [allAtoms_all]
  show words1.all (fun c => c.before args0 about1) = true
  refine all_split ?_ w_codes
  rw [← List.take_append_drop 24 words1, List.all_append, w_t1, ← List.take_append_drop 24 (words1.drop 24), List.all_append, w_t2, w_t3]
  rfl
set_option maxRecDepth 65536 in
theorem w_rest : rest_1_c.before args0 about1 = true := by decide +kernel
set_option maxRecDepth 65536 in
theorem w_case : (Jvm.Cond.and given_1 narrow_1).before args0 about1 = true := by decide +kernel
theorem w_applies : (headSpec (Jvm.Cond.code x code maxLocals ret :: tables_1) room_1).applies x e0.platform about1 = true :=
  (Spec.applies_iff w_frames).mpr ⟨w_running, w_runnable, w_alone, w_named, w_hears, w_ripe, w_room, w_tables⟩
theorem atStart : AtStart classFile x code maxLocals ret World_1 tables_1 room_1 Calls_1 rest_1 Pre_1 launch0 p0 e0 about1 theMethod args0 below0 :=
  ⟨lists_1, trivial, launch0.admits_env _ _ _, launch0.least_env, fairChoices_fair.cas, fairChoices_fair.clock, w_frames, w_args, w_heap, w_applies, trivial, w_rest, w_case⟩
end start1
theorem witness_1 : WitnessClaimed_1 := ⟨start1.p0, start1.e0, start1.about1, start1.theMethod, start1.args0, start1.below0, start1.atStart⟩
end Jvm.Pilot.@@N@@
