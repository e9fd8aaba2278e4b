import JvmDerived
import JvmDerived.Pilot.@@N@@Statement
import JvmDerived.Pilot.@@N@@Code
set_option linter.unusedVariables false
set_option linter.unusedSimpArgs false
namespace Jvm.OwnRun
open Sem ClassFile Op Lib Jvm.Stand Jvm.Free Jvm.LawKit Jvm.RoadKit
/-- from T with the top frame g the method's run ends as Φ says -/
def Run (tb : Tables) (e : Env) (below : List Frame) (Φ : Outcome → State → Prop) (T : State) (g : JFrame) : Prop := ∃ s₂ o, Steps tb e below (T.setTop g) s₂ ∧ s₂.status = .running ∧ Ended s₂ below o ∧ Φ o s₂
/-- what a contract asks of the end -/
def FinR (s : State) (K N : Nat) (Q : Option Value → Heap → List Loc → Prop) : Outcome → State → Prop := fun o u => ∃ v L, o = .returned v ∧ Q v u.heap L ∧ FrameEnd s o u L K N
section Steps
variable {p : Program} {l : Launch} {e : Env} {R : Room} {s : State} {m : MethodId} {args : Array Value} {below : List Frame} {meth : Method} {c : Code} {T : State} {locs : List Loc} {cells slots : Nat} {Φ : Outcome → State → Prop} {pc pc' : Nat} {Ls : Array Slot} {rest : List Value}
theorem Run.back {tb : Tables} {T' : State} {g g' : JFrame} (h : ∀ t, Steps tb e below (T'.setTop g') t → Steps tb e below (T.setTop g) t) (k : Run tb e below Φ T' g') : Run tb e below Φ T g := by
  obtain ⟨s₂, o, h1, h2⟩ := k
  exact ⟨s₂, o, h _ h1, h2⟩
theorem Run.fwd {tb : Tables} {T' : State} {g g' : JFrame} (h : Steps tb e below (T.setTop g) (T'.setTop g')) (k : Run tb e below Φ T' g') : Run tb e below Φ T g := k.back fun _ kt => h.trans kt
theorem Run.iload (X : Stand p l e R s m args below meth c T locs cells slots) (hx : p.tables.exec = Jvm.exec) {k : Nat} {v : Int32} (hd : decode c.code pc = .ok (.iload k, 2)) (hl : Ls[k]? = some (.val (.int v))) (hp : pc + 2 = pc') (k : Run p.tables e below Φ T (mkF m pc' Ls (.int v :: rest))) : Run p.tables e below Φ T (mkF m pc Ls rest) := by
  subst hp
  exact k.back fun _ kt => XS.iload X.here hx rfl hd hl kt
theorem Run.iloadN (X : Stand p l e R s m args below meth c T locs cells slots) (hx : p.tables.exec = Jvm.exec) {k : Fin 4} {v : Int32} (hd : decode c.code pc = .ok (.iload_n k, 1)) (hl : Ls[k.val]? = some (.val (.int v))) (hp : pc + 1 = pc') (k : Run p.tables e below Φ T (mkF m pc' Ls (.int v :: rest))) : Run p.tables e below Φ T (mkF m pc Ls rest) := by
  subst hp
  exact k.back fun _ kt => XS.iloadN X.here hx rfl hd hl kt
theorem Run.istore (X : Stand p l e R s m args below meth c T locs cells slots) (hx : p.tables.exec = Jvm.exec) {k : Nat} {v : Int32} {l' : Array Slot} (hd : decode c.code pc = .ok (.istore k, 2)) (hl : storeLocals Ls k (.int v) = some l') (hp : pc + 2 = pc') (k : Run p.tables e below Φ T (mkF m pc' l' rest)) : Run p.tables e below Φ T (mkF m pc Ls (.int v :: rest)) := by
  subst hp
  exact k.back fun _ kt => XS.istore X.here hx rfl hd rfl hl kt
theorem Run.istoreN (X : Stand p l e R s m args below meth c T locs cells slots) (hx : p.tables.exec = Jvm.exec) {k : Fin 4} {v : Int32} {l' : Array Slot} (hd : decode c.code pc = .ok (.istore_n k, 1)) (hl : storeLocals Ls k.val (.int v) = some l') (hp : pc + 1 = pc') (k : Run p.tables e below Φ T (mkF m pc' l' rest)) : Run p.tables e below Φ T (mkF m pc Ls (.int v :: rest)) := by
  subst hp
  exact k.back fun _ kt => XS.istoreN X.here hx rfl hd rfl hl kt
theorem Run.lload (X : Stand p l e R s m args below meth c T locs cells slots) (hx : p.tables.exec = Jvm.exec) {k : Nat} {v : Int64} (hd : decode c.code pc = .ok (.lload k, 2)) (hl : Ls[k]? = some (.val (.long v))) (hp : pc + 2 = pc') (k : Run p.tables e below Φ T (mkF m pc' Ls (.long v :: rest))) : Run p.tables e below Φ T (mkF m pc Ls rest) := by
  subst hp
  exact k.back fun _ kt => XS.lload X.here hx rfl hd hl kt
theorem Run.lloadN (X : Stand p l e R s m args below meth c T locs cells slots) (hx : p.tables.exec = Jvm.exec) {k : Fin 4} {v : Int64} (hd : decode c.code pc = .ok (.lload_n k, 1)) (hl : Ls[k.val]? = some (.val (.long v))) (hp : pc + 1 = pc') (k : Run p.tables e below Φ T (mkF m pc' Ls (.long v :: rest))) : Run p.tables e below Φ T (mkF m pc Ls rest) := by
  subst hp
  exact k.back fun _ kt => XS.lloadN X.here hx rfl hd hl kt
theorem Run.lstore (X : Stand p l e R s m args below meth c T locs cells slots) (hx : p.tables.exec = Jvm.exec) {k : Nat} {v : Int64} {l' : Array Slot} (hd : decode c.code pc = .ok (.lstore k, 2)) (hl : storeLocals Ls k (.long v) = some l') (hp : pc + 2 = pc') (k : Run p.tables e below Φ T (mkF m pc' l' rest)) : Run p.tables e below Φ T (mkF m pc Ls (.long v :: rest)) := by
  subst hp
  exact k.back fun _ kt => XS.lstore X.here hx rfl hd rfl hl kt
theorem Run.lstoreN (X : Stand p l e R s m args below meth c T locs cells slots) (hx : p.tables.exec = Jvm.exec) {k : Fin 4} {v : Int64} {l' : Array Slot} (hd : decode c.code pc = .ok (.lstore_n k, 1)) (hl : storeLocals Ls k.val (.long v) = some l') (hp : pc + 1 = pc') (k : Run p.tables e below Φ T (mkF m pc' l' rest)) : Run p.tables e below Φ T (mkF m pc Ls (.long v :: rest)) := by
  subst hp
  exact k.back fun _ kt => XS.lstoreN X.here hx rfl hd rfl hl kt
theorem Run.aload (X : Stand p l e R s m args below meth c T locs cells slots) (hx : p.tables.exec = Jvm.exec) {k : Nat} {v : Addr} (hd : decode c.code pc = .ok (.aload k, 2)) (hl : Ls[k]? = some (.val (.ref v))) (hp : pc + 2 = pc') (k : Run p.tables e below Φ T (mkF m pc' Ls (.ref v :: rest))) : Run p.tables e below Φ T (mkF m pc Ls rest) := by
  subst hp
  exact k.back fun _ kt => XS.aload X.here hx rfl hd hl rfl kt
theorem Run.aloadN (X : Stand p l e R s m args below meth c T locs cells slots) (hx : p.tables.exec = Jvm.exec) {k : Fin 4} {v : Addr} (hd : decode c.code pc = .ok (.aload_n k, 1)) (hl : Ls[k.val]? = some (.val (.ref v))) (hp : pc + 1 = pc') (k : Run p.tables e below Φ T (mkF m pc' Ls (.ref v :: rest))) : Run p.tables e below Φ T (mkF m pc Ls rest) := by
  subst hp
  exact k.back fun _ kt => XS.aloadN X.here hx rfl hd hl rfl kt
theorem Run.astore (X : Stand p l e R s m args below meth c T locs cells slots) (hx : p.tables.exec = Jvm.exec) {k : Nat} {v : Addr} {l' : Array Slot} (hd : decode c.code pc = .ok (.astore k, 2)) (hl : storeLocals Ls k (.ref v) = some l') (hp : pc + 2 = pc') (k : Run p.tables e below Φ T (mkF m pc' l' rest)) : Run p.tables e below Φ T (mkF m pc Ls (.ref v :: rest)) := by
  subst hp
  exact k.back fun _ kt => XS.astore X.here hx rfl hd rfl rfl hl kt
theorem Run.astoreN (X : Stand p l e R s m args below meth c T locs cells slots) (hx : p.tables.exec = Jvm.exec) {k : Fin 4} {v : Addr} {l' : Array Slot} (hd : decode c.code pc = .ok (.astore_n k, 1)) (hl : storeLocals Ls k.val (.ref v) = some l') (hp : pc + 1 = pc') (k : Run p.tables e below Φ T (mkF m pc' l' rest)) : Run p.tables e below Φ T (mkF m pc Ls (.ref v :: rest)) := by
  subst hp
  exact k.back fun _ kt => XS.astoreN X.here hx rfl hd rfl rfl hl kt
theorem Run.iconst (X : Stand p l e R s m args below meth c T locs cells slots) (hx : p.tables.exec = Jvm.exec) {i : Int} {v : Int32} (hd : decode c.code pc = .ok (.iconst i, 1)) (hv : Int32.ofInt i = v) (hp : pc + 1 = pc') (k : Run p.tables e below Φ T (mkF m pc' Ls (.int v :: rest))) : Run p.tables e below Φ T (mkF m pc Ls rest) := by
  subst hp
  exact k.back fun _ kt => XS.iconst X.here hx rfl hd (by rw [hv]; exact kt)
theorem Run.bipush (X : Stand p l e R s m args below meth c T locs cells slots) (hx : p.tables.exec = Jvm.exec) {i : Int} {v : Int32} (hd : decode c.code pc = .ok (.bipush i, 2)) (hv : (Int8.ofInt i).toInt32 = v) (hp : pc + 2 = pc') (k : Run p.tables e below Φ T (mkF m pc' Ls (.int v :: rest))) : Run p.tables e below Φ T (mkF m pc Ls rest) := by
  subst hp
  exact k.back fun _ kt => XS.bipush X.here hx rfl hd (by rw [hv]; exact kt)
theorem Run.sipush (X : Stand p l e R s m args below meth c T locs cells slots) (hx : p.tables.exec = Jvm.exec) {i : Int} {v : Int32} (hd : decode c.code pc = .ok (.sipush i, 3)) (hv : (Int16.ofInt i).toInt32 = v) (hp : pc + 3 = pc') (k : Run p.tables e below Φ T (mkF m pc' Ls (.int v :: rest))) : Run p.tables e below Φ T (mkF m pc Ls rest) := by
  subst hp
  exact k.back fun _ kt => XS.sipush X.here hx rfl hd (by rw [hv]; exact kt)
theorem Run.lconst (X : Stand p l e R s m args below meth c T locs cells slots) (hx : p.tables.exec = Jvm.exec) {i : Fin 2} {v : Int64} (hd : decode c.code pc = .ok (.lconst i, 1)) (hv : Int64.ofNat i = v) (hp : pc + 1 = pc') (k : Run p.tables e below Φ T (mkF m pc' Ls (.long v :: rest))) : Run p.tables e below Φ T (mkF m pc Ls rest) := by
  subst hp
  exact k.back fun _ kt => XS.lconst X.here hx rfl hd (by first | (rw [hv]; exact kt) | (rw [← hv] at kt; exact kt))
theorem Run.aconstNull (X : Stand p l e R s m args below meth c T locs cells slots) (hx : p.tables.exec = Jvm.exec) (hd : decode c.code pc = .ok (.aconst_null, 1)) (hp : pc + 1 = pc') (k : Run p.tables e below Φ T (mkF m pc' Ls (.null :: rest))) : Run p.tables e below Φ T (mkF m pc Ls rest) := by
  subst hp
  exact k.back fun _ kt => XS.aconstNull X.here hx rfl hd kt
theorem Run.iadd (X : Stand p l e R s m args below meth c T locs cells slots) (hx : p.tables.exec = Jvm.exec) {x y : Int32} (hd : decode c.code pc = .ok (.iadd, 1)) (hp : pc + 1 = pc') (k : Run p.tables e below Φ T (mkF m pc' Ls (.int (x + y) :: rest))) : Run p.tables e below Φ T (mkF m pc Ls (.int y :: .int x :: rest)) := by
  subst hp
  exact k.back fun _ kt => XS.iadd X.here hx rfl hd rfl kt
theorem Run.isub (X : Stand p l e R s m args below meth c T locs cells slots) (hx : p.tables.exec = Jvm.exec) {x y : Int32} (hd : decode c.code pc = .ok (.isub, 1)) (hp : pc + 1 = pc') (k : Run p.tables e below Φ T (mkF m pc' Ls (.int (x - y) :: rest))) : Run p.tables e below Φ T (mkF m pc Ls (.int y :: .int x :: rest)) := by
  subst hp
  exact k.back fun _ kt => XS.isub X.here hx rfl hd rfl kt
theorem Run.imul (X : Stand p l e R s m args below meth c T locs cells slots) (hx : p.tables.exec = Jvm.exec) {x y : Int32} (hd : decode c.code pc = .ok (.imul, 1)) (hp : pc + 1 = pc') (k : Run p.tables e below Φ T (mkF m pc' Ls (.int (x * y) :: rest))) : Run p.tables e below Φ T (mkF m pc Ls (.int y :: .int x :: rest)) := by
  subst hp
  exact k.back fun _ kt => XS.imul X.here hx rfl hd rfl kt
theorem Run.iand (X : Stand p l e R s m args below meth c T locs cells slots) (hx : p.tables.exec = Jvm.exec) {x y : Int32} (hd : decode c.code pc = .ok (.iand, 1)) (hp : pc + 1 = pc') (k : Run p.tables e below Φ T (mkF m pc' Ls (.int (x &&& y) :: rest))) : Run p.tables e below Φ T (mkF m pc Ls (.int y :: .int x :: rest)) := by
  subst hp
  exact k.back fun _ kt => XS.iand X.here hx rfl hd rfl kt
theorem Run.ior (X : Stand p l e R s m args below meth c T locs cells slots) (hx : p.tables.exec = Jvm.exec) {x y : Int32} (hd : decode c.code pc = .ok (.ior, 1)) (hp : pc + 1 = pc') (k : Run p.tables e below Φ T (mkF m pc' Ls (.int (x ||| y) :: rest))) : Run p.tables e below Φ T (mkF m pc Ls (.int y :: .int x :: rest)) := by
  subst hp
  exact k.back fun _ kt => XS.ior X.here hx rfl hd rfl kt
theorem Run.ixor (X : Stand p l e R s m args below meth c T locs cells slots) (hx : p.tables.exec = Jvm.exec) {x y : Int32} (hd : decode c.code pc = .ok (.ixor, 1)) (hp : pc + 1 = pc') (k : Run p.tables e below Φ T (mkF m pc' Ls (.int (x ^^^ y) :: rest))) : Run p.tables e below Φ T (mkF m pc Ls (.int y :: .int x :: rest)) := by
  subst hp
  exact k.back fun _ kt => XS.ixor X.here hx rfl hd rfl kt
theorem Run.idiv (X : Stand p l e R s m args below meth c T locs cells slots) (hx : p.tables.exec = Jvm.exec) {x y : Int32} (hd : decode c.code pc = .ok (.idiv, 1)) (hy : y ≠ 0) (hp : pc + 1 = pc') (k : Run p.tables e below Φ T (mkF m pc' Ls (.int (x / y) :: rest))) : Run p.tables e below Φ T (mkF m pc Ls (.int y :: .int x :: rest)) := by
  subst hp
  exact k.back fun _ kt => XS.idiv X.here hx rfl hd rfl hy kt
theorem Run.ladd (X : Stand p l e R s m args below meth c T locs cells slots) (hx : p.tables.exec = Jvm.exec) {x y : Int64} (hd : decode c.code pc = .ok (.ladd, 1)) (hp : pc + 1 = pc') (k : Run p.tables e below Φ T (mkF m pc' Ls (.long (x + y) :: rest))) : Run p.tables e below Φ T (mkF m pc Ls (.long y :: .long x :: rest)) := by
  subst hp
  exact k.back fun _ kt => XS.ladd X.here hx rfl hd rfl kt
theorem Run.lsub (X : Stand p l e R s m args below meth c T locs cells slots) (hx : p.tables.exec = Jvm.exec) {x y : Int64} (hd : decode c.code pc = .ok (.lsub, 1)) (hp : pc + 1 = pc') (k : Run p.tables e below Φ T (mkF m pc' Ls (.long (x - y) :: rest))) : Run p.tables e below Φ T (mkF m pc Ls (.long y :: .long x :: rest)) := by
  subst hp
  exact k.back fun _ kt => XS.lsub X.here hx rfl hd rfl kt
theorem Run.lmul (X : Stand p l e R s m args below meth c T locs cells slots) (hx : p.tables.exec = Jvm.exec) {x y : Int64} (hd : decode c.code pc = .ok (.lmul, 1)) (hp : pc + 1 = pc') (k : Run p.tables e below Φ T (mkF m pc' Ls (.long (x * y) :: rest))) : Run p.tables e below Φ T (mkF m pc Ls (.long y :: .long x :: rest)) := by
  subst hp
  exact k.back fun _ kt => XS.lmul X.here hx rfl hd rfl kt
theorem Run.land (X : Stand p l e R s m args below meth c T locs cells slots) (hx : p.tables.exec = Jvm.exec) {x y : Int64} (hd : decode c.code pc = .ok (.land, 1)) (hp : pc + 1 = pc') (k : Run p.tables e below Φ T (mkF m pc' Ls (.long (x &&& y) :: rest))) : Run p.tables e below Φ T (mkF m pc Ls (.long y :: .long x :: rest)) := by
  subst hp
  exact k.back fun _ kt => XS.land X.here hx rfl hd rfl kt
theorem Run.lor (X : Stand p l e R s m args below meth c T locs cells slots) (hx : p.tables.exec = Jvm.exec) {x y : Int64} (hd : decode c.code pc = .ok (.lor, 1)) (hp : pc + 1 = pc') (k : Run p.tables e below Φ T (mkF m pc' Ls (.long (x ||| y) :: rest))) : Run p.tables e below Φ T (mkF m pc Ls (.long y :: .long x :: rest)) := by
  subst hp
  exact k.back fun _ kt => XS.lor X.here hx rfl hd rfl kt
theorem Run.lxor (X : Stand p l e R s m args below meth c T locs cells slots) (hx : p.tables.exec = Jvm.exec) {x y : Int64} (hd : decode c.code pc = .ok (.lxor, 1)) (hp : pc + 1 = pc') (k : Run p.tables e below Φ T (mkF m pc' Ls (.long (x ^^^ y) :: rest))) : Run p.tables e below Φ T (mkF m pc Ls (.long y :: .long x :: rest)) := by
  subst hp
  exact k.back fun _ kt => XS.lxor X.here hx rfl hd rfl kt
theorem Run.ldiv (X : Stand p l e R s m args below meth c T locs cells slots) (hx : p.tables.exec = Jvm.exec) {x y : Int64} (hd : decode c.code pc = .ok (.ldiv, 1)) (hy : y ≠ 0) (hp : pc + 1 = pc') (k : Run p.tables e below Φ T (mkF m pc' Ls (.long (x / y) :: rest))) : Run p.tables e below Φ T (mkF m pc Ls (.long y :: .long x :: rest)) := by
  subst hp
  exact k.back fun _ kt => XS.ldiv X.here hx rfl hd rfl hy kt
theorem Run.irem (X : Stand p l e R s m args below meth c T locs cells slots) (hx : p.tables.exec = Jvm.exec) {x y : Int32} (hd : decode c.code pc = .ok (.irem, 1)) (hy : y ≠ 0) (hp : pc + 1 = pc') (k : Run p.tables e below Φ T (mkF m pc' Ls (.int (x % y) :: rest))) : Run p.tables e below Φ T (mkF m pc Ls (.int y :: .int x :: rest)) := by
  subst hp
  exact k.back fun _ kt => iremM X hx rfl hd rfl hy kt
theorem Run.ishl (X : Stand p l e R s m args below meth c T locs cells slots) (hx : p.tables.exec = Jvm.exec) {x : Int32} {y : Int32} (hd : decode c.code pc = .ok (.ishl, 1)) (hp : pc + 1 = pc') (k : Run p.tables e below Φ T (mkF m pc' Ls (.int (x <<< (y &&& 31)) :: rest))) : Run p.tables e below Φ T (mkF m pc Ls (.int y :: .int x :: rest)) := by
  subst hp
  exact k.back fun _ kt => XS.ishl X.here hx rfl hd rfl kt
theorem Run.ishr (X : Stand p l e R s m args below meth c T locs cells slots) (hx : p.tables.exec = Jvm.exec) {x : Int32} {y : Int32} (hd : decode c.code pc = .ok (.ishr, 1)) (hp : pc + 1 = pc') (k : Run p.tables e below Φ T (mkF m pc' Ls (.int (x >>> (y &&& 31)) :: rest))) : Run p.tables e below Φ T (mkF m pc Ls (.int y :: .int x :: rest)) := by
  subst hp
  exact k.back fun _ kt => XS.ishr X.here hx rfl hd rfl kt
theorem Run.iushr (X : Stand p l e R s m args below meth c T locs cells slots) (hx : p.tables.exec = Jvm.exec) {x : Int32} {y : Int32} (hd : decode c.code pc = .ok (.iushr, 1)) (hp : pc + 1 = pc') (k : Run p.tables e below Φ T (mkF m pc' Ls (.int ((x.toUInt32 >>> (y &&& 31).toUInt32).toInt32) :: rest))) : Run p.tables e below Φ T (mkF m pc Ls (.int y :: .int x :: rest)) := by
  subst hp
  exact k.back fun _ kt => XS.iushr X.here hx rfl hd rfl kt
theorem Run.lshl (X : Stand p l e R s m args below meth c T locs cells slots) (hx : p.tables.exec = Jvm.exec) {x : Int64} {y : Int32} (hd : decode c.code pc = .ok (.lshl, 1)) (hp : pc + 1 = pc') (k : Run p.tables e below Φ T (mkF m pc' Ls (.long (x <<< (y &&& 0x3f).toInt64) :: rest))) : Run p.tables e below Φ T (mkF m pc Ls (.int y :: .long x :: rest)) := by
  subst hp
  exact k.back fun _ kt => XS.lshl X.here hx rfl hd rfl kt
theorem Run.lshr (X : Stand p l e R s m args below meth c T locs cells slots) (hx : p.tables.exec = Jvm.exec) {x : Int64} {y : Int32} (hd : decode c.code pc = .ok (.lshr, 1)) (hp : pc + 1 = pc') (k : Run p.tables e below Φ T (mkF m pc' Ls (.long (x >>> (y &&& 0x3f).toInt64) :: rest))) : Run p.tables e below Φ T (mkF m pc Ls (.int y :: .long x :: rest)) := by
  subst hp
  exact k.back fun _ kt => XS.lshr X.here hx rfl hd rfl kt
theorem Run.lushr (X : Stand p l e R s m args below meth c T locs cells slots) (hx : p.tables.exec = Jvm.exec) {x : Int64} {y : Int32} (hd : decode c.code pc = .ok (.lushr, 1)) (hp : pc + 1 = pc') (k : Run p.tables e below Φ T (mkF m pc' Ls (.long ((x.toUInt64 >>> (y &&& 0x3f).toInt64.toUInt64).toInt64) :: rest))) : Run p.tables e below Φ T (mkF m pc Ls (.int y :: .long x :: rest)) := by
  subst hp
  exact k.back fun _ kt => XS.lushr X.here hx rfl hd rfl kt
theorem Run.i2l (X : Stand p l e R s m args below meth c T locs cells slots) (hx : p.tables.exec = Jvm.exec) {x : Int32} (hd : decode c.code pc = .ok (.i2l, 1)) (hp : pc + 1 = pc') (k : Run p.tables e below Φ T (mkF m pc' Ls (.long (x.toInt64) :: rest))) : Run p.tables e below Φ T (mkF m pc Ls (.int x :: rest)) := by
  subst hp
  exact k.back fun _ kt => XS.i2l X.here hx rfl hd rfl kt
theorem Run.l2i (X : Stand p l e R s m args below meth c T locs cells slots) (hx : p.tables.exec = Jvm.exec) {x : Int64} (hd : decode c.code pc = .ok (.l2i, 1)) (hp : pc + 1 = pc') (k : Run p.tables e below Φ T (mkF m pc' Ls (.int (x.toInt32) :: rest))) : Run p.tables e below Φ T (mkF m pc Ls (.long x :: rest)) := by
  subst hp
  exact k.back fun _ kt => XS.l2i X.here hx rfl hd rfl kt
theorem Run.i2b (X : Stand p l e R s m args below meth c T locs cells slots) (hx : p.tables.exec = Jvm.exec) {x : Int32} (hd : decode c.code pc = .ok (.i2b, 1)) (hp : pc + 1 = pc') (k : Run p.tables e below Φ T (mkF m pc' Ls (.int (x.toInt8.toInt32) :: rest))) : Run p.tables e below Φ T (mkF m pc Ls (.int x :: rest)) := by
  subst hp
  exact k.back fun _ kt => XS.i2b X.here hx rfl hd rfl kt
theorem Run.i2s (X : Stand p l e R s m args below meth c T locs cells slots) (hx : p.tables.exec = Jvm.exec) {x : Int32} (hd : decode c.code pc = .ok (.i2s, 1)) (hp : pc + 1 = pc') (k : Run p.tables e below Φ T (mkF m pc' Ls (.int (x.toInt16.toInt32) :: rest))) : Run p.tables e below Φ T (mkF m pc Ls (.int x :: rest)) := by
  subst hp
  exact k.back fun _ kt => XS.i2s X.here hx rfl hd rfl kt
theorem Run.i2c (X : Stand p l e R s m args below meth c T locs cells slots) (hx : p.tables.exec = Jvm.exec) {x : Int32} (hd : decode c.code pc = .ok (.i2c, 1)) (hp : pc + 1 = pc') (k : Run p.tables e below Φ T (mkF m pc' Ls (.int (x.toUInt32.toUInt16.toUInt32.toInt32) :: rest))) : Run p.tables e below Φ T (mkF m pc Ls (.int x :: rest)) := by
  subst hp
  exact k.back fun _ kt => XS.i2c X.here hx rfl hd rfl kt
theorem Run.ineg (X : Stand p l e R s m args below meth c T locs cells slots) (hx : p.tables.exec = Jvm.exec) {x : Int32} (hd : decode c.code pc = .ok (.ineg, 1)) (hp : pc + 1 = pc') (k : Run p.tables e below Φ T (mkF m pc' Ls (.int (-x) :: rest))) : Run p.tables e below Φ T (mkF m pc Ls (.int x :: rest)) := by
  subst hp
  exact k.back fun _ kt => XS.ineg X.here hx rfl hd rfl kt
theorem Run.lcmp (X : Stand p l e R s m args below meth c T locs cells slots) (hx : p.tables.exec = Jvm.exec) {x y : Int64} (hd : decode c.code pc = .ok (.lcmp, 1)) (hp : pc + 1 = pc') (k : Run p.tables e below Φ T (mkF m pc' Ls (.int (lcmpW x y) :: rest))) : Run p.tables e below Φ T (mkF m pc Ls (.long y :: .long x :: rest)) := by
  subst hp
  exact k.back fun _ kt => XS.lcmp X.here hx rfl hd rfl kt
theorem Run.dup (X : Stand p l e R s m args below meth c T locs cells slots) (hx : p.tables.exec = Jvm.exec) {x : Value} (hd : decode c.code pc = .ok (.dup, 1)) (hc : x.category = 1) (hp : pc + 1 = pc') (k : Run p.tables e below Φ T (mkF m pc' Ls (x :: x :: rest))) : Run p.tables e below Φ T (mkF m pc Ls (x :: rest)) := by
  subst hp
  exact k.back fun _ kt => XS.dup X.here hx rfl hd rfl hc kt
theorem Run.dupX1 (X : Stand p l e R s m args below meth c T locs cells slots) (hx : p.tables.exec = Jvm.exec) {x y : Value} (hd : decode c.code pc = .ok (.dup_x1, 1)) (hc : x.category = 1) (hc2 : y.category = 1) (hp : pc + 1 = pc') (k : Run p.tables e below Φ T (mkF m pc' Ls (x :: y :: x :: rest))) : Run p.tables e below Φ T (mkF m pc Ls (x :: y :: rest)) := by
  subst hp
  exact k.back fun _ kt => XS.dupX1 X.here hx rfl hd rfl hc hc2 kt
theorem Run.pop (X : Stand p l e R s m args below meth c T locs cells slots) (hx : p.tables.exec = Jvm.exec) {x : Value} (hd : decode c.code pc = .ok (.pop, 1)) (hc : x.category = 1) (hp : pc + 1 = pc') (k : Run p.tables e below Φ T (mkF m pc' Ls rest)) : Run p.tables e below Φ T (mkF m pc Ls (x :: rest)) := by
  subst hp
  exact k.back fun _ kt => XS.pop X.here hx rfl hd rfl hc kt
theorem Run.iinc (X : Stand p l e R s m args below meth c T locs cells slots) (hx : p.tables.exec = Jvm.exec) {n : Nat} {i : Int} {v w : Int32} {l' : Array Slot} (hd : decode c.code pc = .ok (.iinc n i, 3)) (hl : Ls[n]? = some (.val (.int v))) (hv : Int32.ofInt i = w) (hl' : storeLocals Ls n (.int (v + w)) = some l') (hp : pc + 3 = pc') (k : Run p.tables e below Φ T (mkF m pc' l' rest)) : Run p.tables e below Φ T (mkF m pc Ls rest) := by
  subst hp
  exact k.back fun _ kt => XS.iinc X.here hx rfl hd hl (by rw [hv]; exact hl') kt
theorem Run.goto (X : Stand p l e R s m args below meth c T locs cells slots) (hx : p.tables.exec = Jvm.exec) {o : Int} (hd : decode c.code pc = .ok (.goto o, 3)) (ho : 0 ≤ (pc : Int) + o) (hp : ((pc : Int) + o).toNat = pc') (k : Run p.tables e below Φ T (mkF m pc' Ls rest)) : Run p.tables e below Φ T (mkF m pc Ls rest) := k.back fun _ kt => XS.goto X.here hx rfl rfl hd ho hp kt
theorem Run.ifYes (X : Stand p l e R s m args below meth c T locs cells slots) (hx : p.tables.exec = Jvm.exec) {cd : ClassFile.Cond} {o : Int} {x : Int32} (hd : decode c.code pc = .ok (.ifCond cd o, 3)) (hc : ifCond.holds cd x = true) (ho : 0 ≤ (pc : Int) + o) (hp : ((pc : Int) + o).toNat = pc') (k : Run p.tables e below Φ T (mkF m pc' Ls rest)) : Run p.tables e below Φ T (mkF m pc Ls (.int x :: rest)) := k.back fun _ kt => XS.ifYes X.here hx rfl rfl hd rfl hc ho hp kt
theorem Run.ifNo (X : Stand p l e R s m args below meth c T locs cells slots) (hx : p.tables.exec = Jvm.exec) {cd : ClassFile.Cond} {o : Int} {x : Int32} (hd : decode c.code pc = .ok (.ifCond cd o, 3)) (hc : ifCond.holds cd x = false) (hp : pc + 3 = pc') (k : Run p.tables e below Φ T (mkF m pc' Ls rest)) : Run p.tables e below Φ T (mkF m pc Ls (.int x :: rest)) := by
  subst hp
  exact k.back fun _ kt => XS.ifNo X.here hx rfl hd rfl hc kt
theorem Run.icmpYes (X : Stand p l e R s m args below meth c T locs cells slots) (hx : p.tables.exec = Jvm.exec) {cd : ClassFile.Cond} {o : Int} {x y : Int32} (hd : decode c.code pc = .ok (.if_icmp cd o, 3)) (hc : if_icmp.holds cd x y = true) (ho : 0 ≤ (pc : Int) + o) (hp : ((pc : Int) + o).toNat = pc') (k : Run p.tables e below Φ T (mkF m pc' Ls rest)) : Run p.tables e below Φ T (mkF m pc Ls (.int y :: .int x :: rest)) := k.back fun _ kt => XS.icmpYes X.here hx rfl rfl hd rfl hc ho hp kt
theorem Run.icmpNo (X : Stand p l e R s m args below meth c T locs cells slots) (hx : p.tables.exec = Jvm.exec) {cd : ClassFile.Cond} {o : Int} {x y : Int32} (hd : decode c.code pc = .ok (.if_icmp cd o, 3)) (hc : if_icmp.holds cd x y = false) (hp : pc + 3 = pc') (k : Run p.tables e below Φ T (mkF m pc' Ls rest)) : Run p.tables e below Φ T (mkF m pc Ls (.int y :: .int x :: rest)) := by
  subst hp
  exact k.back fun _ kt => XS.icmpNo X.here hx rfl hd rfl hc kt
theorem Run.acmpYes (X : Stand p l e R s m args below meth c T locs cells slots) (hx : p.tables.exec = Jvm.exec) {cd : ACond} {o : Int} {a b : Addr} (hd : decode c.code pc = .ok (.if_acmp cd o, 3)) (hc : if_acmp.holds cd (some a) (some b) = true) (ho : 0 ≤ (pc : Int) + o) (hp : ((pc : Int) + o).toNat = pc') (k : Run p.tables e below Φ T (mkF m pc' Ls rest)) : Run p.tables e below Φ T (mkF m pc Ls (.ref b :: .ref a :: rest)) := k.back fun _ kt => XS.acmpYes X.here hx rfl rfl hd rfl hc ho hp kt
theorem Run.acmpNo (X : Stand p l e R s m args below meth c T locs cells slots) (hx : p.tables.exec = Jvm.exec) {cd : ACond} {o : Int} {a b : Addr} (hd : decode c.code pc = .ok (.if_acmp cd o, 3)) (hc : if_acmp.holds cd (some a) (some b) = false) (hp : pc + 3 = pc') (k : Run p.tables e below Φ T (mkF m pc' Ls rest)) : Run p.tables e below Φ T (mkF m pc Ls (.ref b :: .ref a :: rest)) := by
  subst hp
  exact k.back fun _ kt => XS.acmpNo X.here hx rfl hd rfl hc kt
theorem own_acmpEqT {a b : Addr} (h : a = b) : if_acmp.holds .eq (some a) (some b) = true := by subst h; simp [if_acmp.holds]
theorem own_acmpEqF {a b : Addr} (h : ¬ a = b) : if_acmp.holds .eq (some a) (some b) = false := by simp [if_acmp.holds, h]
theorem own_acmpNeT {a b : Addr} (h : a = b) : if_acmp.holds .ne (some a) (some b) = false := by subst h; simp [if_acmp.holds]
theorem own_acmpNeF {a b : Addr} (h : ¬ a = b) : if_acmp.holds .ne (some a) (some b) = true := by simp [if_acmp.holds, h]
theorem Run.ldcInt (X : Stand p l e R s m args below meth c T locs cells slots) (hx : p.tables.exec = Jvm.exec) {own : String} {index : Nat} {v : Int32} (hown : s.vm.findClass own = some m.cls) (hconst : (Cond.constant own index v).before args s = true) (hd : decode c.code pc = .ok (.ldc index, 2)) (hp : pc + 2 = pc') (k : Run p.tables e below Φ T (mkF m pc' Ls (.int v :: rest))) : Run p.tables e below Φ T (mkF m pc Ls rest) := by
  subst hp
  exact k.back fun _ kt => X.ldcInt hx hown hconst (g := mkF m pc Ls rest) rfl hd _ kt
theorem Run.ldc2Long (X : Stand p l e R s m args below meth c T locs cells slots) (hx : p.tables.exec = Jvm.exec) {own : String} {index : Nat} {v : Int64} (hown : s.vm.findClass own = some m.cls) (hconst : (Cond.constantLong own index v).before args s = true) (hd : decode c.code pc = .ok (.ldc2_w index, 3)) (hp : pc + 3 = pc') (k : Run p.tables e below Φ T (mkF m pc' Ls (.long v :: rest))) : Run p.tables e below Φ T (mkF m pc Ls rest) := by
  subst hp
  exact k.back fun _ kt => X.ldc2Long hx hown hconst (g := mkF m pc Ls rest) rfl hd _ kt
theorem Run.switchHit (X : Stand p l e R s m args below meth c T locs cells slots) (hx : p.tables.exec = Jvm.exec) {default : Int} {pairs : Array (Int × Int)} {len : Nat} {a off : Int} {z : Int32} (hd : decode c.code pc = .ok (.lookupswitch default pairs, len)) (hs : (pairs.toList.zip (pairs.toList.drop 1)).all (fun (a, next) => a.1 < next.1) = true) (hf : pairs.find? (·.1 == z.toInt) = some (a, off)) (ho : 0 ≤ (pc : Int) + off) (hp : ((pc : Int) + off).toNat = pc') (k : Run p.tables e below Φ T (mkF m pc' Ls rest)) : Run p.tables e below Φ T (mkF m pc Ls (.int z :: rest)) := by
  subst hp
  exact k.back fun _ kt => X.lookupswitchHit hx (g := mkF m pc Ls (.int z :: rest)) rfl rfl hd hs hf ho _ kt
theorem Run.switchMiss (X : Stand p l e R s m args below meth c T locs cells slots) (hx : p.tables.exec = Jvm.exec) {default : Int} {pairs : Array (Int × Int)} {len : Nat} {z : Int32} (hd : decode c.code pc = .ok (.lookupswitch default pairs, len)) (hs : (pairs.toList.zip (pairs.toList.drop 1)).all (fun (a, next) => a.1 < next.1) = true) (hf : pairs.find? (·.1 == z.toInt) = none) (ho : 0 ≤ (pc : Int) + default) (hp : ((pc : Int) + default).toNat = pc') (k : Run p.tables e below Φ T (mkF m pc' Ls rest)) : Run p.tables e below Φ T (mkF m pc Ls (.int z :: rest)) := by
  subst hp
  exact k.back fun _ kt => X.lookupswitchMiss hx (g := mkF m pc Ls (.int z :: rest)) rfl rfl hd hs hf ho _ kt
/-- a body that writes nothing returns r -/
abbrev QPure (n0 : Nat) (h0 : Heap) (r : Value) : Option Value → Heap → List Loc → Prop := fun v h L => v = some r ∧ Fr n0 L ∧ h = h0
theorem Run.retInt (X : Stand p l e R s m args below meth c T locs cells slots) (hx : p.tables.exec = Jvm.exec) {K N : Nat} {Q : Option Value → Heap → List Loc → Prop} {z : Int32} (hlk : meth.locks = false) (hret : meth.sig.returnType = some .int) (hd : decode c.code pc = .ok (.ireturn, 1)) (hQ : Q (some (.int z)) T.heap locs) (hc : cells ≤ K) (hn : slots ≤ N) : Run p.tables e below (FinR s K N Q) T (mkF m pc Ls (.int z :: rest)) := by
  obtain ⟨fs, hr, hrun, hended, hW, hsame⟩ := X.leave (v := (some (.int z))) (fun h => by rw [hret] at h; cases h) hlk
  exact ⟨_, _, retOut X hx hret rfl (Or.inl ⟨rfl, Or.inl rfl, z, rfl⟩) hd hr, hrun, hended, _, _, rfl, hQ, ⟨_, rfl⟩, hW, hsame.mono hc hn⟩
theorem Run.retLong (X : Stand p l e R s m args below meth c T locs cells slots) (hx : p.tables.exec = Jvm.exec) {K N : Nat} {Q : Option Value → Heap → List Loc → Prop} {z : Int64} (hlk : meth.locks = false) (hret : meth.sig.returnType = some .long) (hd : decode c.code pc = .ok (.lreturn, 1)) (hQ : Q (some (.long z)) T.heap locs) (hc : cells ≤ K) (hn : slots ≤ N) : Run p.tables e below (FinR s K N Q) T (mkF m pc Ls (.long z :: rest)) := by
  obtain ⟨fs, hr, hrun, hended, hW, hsame⟩ := X.leave (v := (some (.long z))) (fun h => by rw [hret] at h; cases h) hlk
  exact ⟨_, _, retOut X hx hret rfl (Or.inr (Or.inl ⟨rfl, rfl, z, rfl⟩)) hd hr, hrun, hended, _, _, rfl, hQ, ⟨_, rfl⟩, hW, hsame.mono hc hn⟩
theorem Run.retRef (X : Stand p l e R s m args below meth c T locs cells slots) (hx : p.tables.exec = Jvm.exec) {K N : Nat} {Q : Option Value → Heap → List Loc → Prop} {z : Addr} {t : FieldType} (hlk : meth.locks = false) (hret : meth.sig.returnType = some t) (ht : t.isReference = true) (hnr : narrow t (.ref z) = .ref z) (hd : decode c.code pc = .ok (.areturn, 1)) (hQ : Q (some (.ref z)) T.heap locs) (hc : cells ≤ K) (hn : slots ≤ N) : Run p.tables e below (FinR s K N Q) T (mkF m pc Ls (.ref z :: rest)) := by
  obtain ⟨fs, hr, hrun, hended, hW, hsame⟩ := X.leave (v := (some (.ref z))) (fun h => by rw [hret] at h; cases h) hlk
  exact ⟨_, _, retOut X hx hret hnr (Or.inr (Or.inr (Or.inr (Or.inr ⟨rfl, ht, rfl⟩)))) hd hr, hrun, hended, _, _, rfl, hQ, ⟨_, rfl⟩, hW, hsame.mono hc hn⟩
theorem Run.retSmall (X : Stand p l e R s m args below meth c T locs cells slots) (hx : p.tables.exec = Jvm.exec) {K N : Nat} {Q : Option Value → Heap → List Loc → Prop} {z z' : Int32} {t : FieldType} (hlk : meth.locks = false) (hret : meth.sig.returnType = some t) (ht : t = .boolean ∨ t = .byte ∨ t = .char ∨ t = .short) (hz : nar t z = z') (hd : decode c.code pc = .ok (.ireturn, 1)) (hQ : Q (some (.int z')) T.heap locs) (hc : cells ≤ K) (hn : slots ≤ N) : Run p.tables e below (FinR s K N Q) T (mkF m pc Ls (.int z :: rest)) := by
  obtain ⟨fs, hr, hrun, hended, hW, hsame⟩ := X.leave (v := (some (.int z'))) (fun h => by rw [hret] at h; cases h) hlk
  exact ⟨_, _, RoadKit.retN X hx hret ht hd (by rw [hz]; exact hr), hrun, hended, _, _, rfl, hQ, ⟨_, rfl⟩, hW, hsame.mono hc hn⟩
theorem Run.retVoid (X : Stand p l e R s m args below meth c T locs cells slots) (hx : p.tables.exec = Jvm.exec) {K N : Nat} {Q : Option Value → Heap → List Loc → Prop} (hlk : meth.locks = false) (hret : meth.sig.returnType = none) (hd : decode c.code pc = .ok (.return_, 1)) (hQ : Q none T.heap locs) (hc : cells ≤ K) (hn : slots ≤ N) : Run p.tables e below (FinR s K N Q) T (mkF m pc Ls []) := by
  obtain ⟨fs, hr, hrun, hended, hW, hsame⟩ := X.leave (v := none) (fun _ => rfl) hlk
  exact ⟨_, _, X.returnOut hx hret hd hr, hrun, hended, _, _, rfl, hQ, ⟨_, rfl⟩, hW, hsame.mono hc hn⟩
theorem callStatic (X : Stand p l e R s m args below meth c T locs cells slots) (hx : p.tables.exec = Jvm.exec) {a0 : Array Value} {Z : State} {h : Heap} {own : String} {index : Nat} {bytes : ByteArray} {maxL : Nat} {ret : Option FieldType} {rm : Room} {W : Nat} {Qc : Option Value → Heap → List Loc → Prop} {y : MethodName} {argsL : List Value} (hZ : Z.Warmed39 s.vm) (hown : s.vm.findClass own = some m.cls) (w1 : (Cond.methodLink own index y).before a0 Z = true) (w2 : (Cond.static y).before a0 Z = true) (w3 : (Cond.initialized y.cls).before a0 Z = true) (w4 : (Cond.code y bytes maxL ret).before a0 Z = true) (hy : y.cls ≠ "java/lang/invoke/MethodHandle" ∧ y.cls ≠ "java/lang/invoke/VarHandle") (eT : T.heap = h) (hM : MetFree l y (head1 [Cond.code y bytes maxL ret] rm) (fun av U => av = argsL.toArray ∧ Z.Warmed39 U.vm ∧ U.heap = h) (fun _ _ _ _ _ => True) (fun _ U o U' => ∃ v L, o = .returned v ∧ Qc v U'.heap L ∧ FrameEnd U o U' L rm.cells rm.slots)) (hd : decode c.code pc = .ok (.invokestatic index, 3)) (hlen : ∀ sig, parseMethodDescriptor y.desc = some sig → argsL.length = sig.parameters.length) (hf : rm.frames + 1 ≤ R.frames) (hl : W + (maxL + 11) + rm.locals ≤ R.locals) (hsize : Ls.size = c.maxLocals) (hW : (rest.map fun v => v.category).sum ≤ W) (hcs : cells + rm.cells ≤ R.cells) (hss : slots + rm.slots ≤ R.slots) :
    ∃ (T' : State) (L : List Loc) (v : Option Value), Stand p l e R s m args below meth c T' (locs ++ L) (cells + rm.cells) (slots + rm.slots) ∧ Qc v T'.heap L ∧ ∀ t, Steps p.tables e below (T'.setTop (mkF m (pc + 3) Ls (v.toList ++ rest))) t → Steps p.tables e below (T.setTop (mkF m pc Ls (argsL.reverse ++ rest))) t := by
  obtain ⟨v, vm, ⟨T', L', k', n'⟩, -, X', ⟨L, hQ, l1, l2, l3⟩, st⟩ := Jvm.LawKit.callS X hx (y := y) hown (mvT hZ w1) (mvT hZ w2) (mvT hZ w3) (mvT hZ w4) hy (backOf (W := W) hM hZ w4 w3 hf hl) (g := mkF m pc Ls (argsL.reverse ++ rest)) rfl hsize (argsL := argsL) (rest := rest) hlen rfl (by show 2 * 0 + _ ≤ _; omega) hd (fun _ _ => ⟨rfl, eT, hcs, hss⟩)
  dsimp only [Pt.U, Pt.locs, Pt.cells, Pt.slots] at X' hQ l1 l2 l3 st
  subst l1 l2 l3
  exact ⟨T', L, v, X', hQ, st⟩
theorem callSpecial (X : Stand p l e R s m args below meth c T locs cells slots) (hx : p.tables.exec = Jvm.exec) {a0 : Array Value} {Z : State} {h : Heap} {own : String} {index : Nat} {bytes : ByteArray} {maxL : Nat} {ret : Option FieldType} {rm : Room} {W : Nat} {Qc : Option Value → Heap → List Loc → Prop} {y : MethodName} {a : Addr} {argsL : List Value} (hy1 : y.name = "<init>") (hZ : Z.Warmed39 s.vm) (hown : s.vm.findClass own = some m.cls) (w1 : (Cond.methodLink own index y).before a0 Z = true) (w2 : (Cond.instanceMethod y).before a0 Z = true) (w3 : (Cond.initialized y.cls).before a0 Z = true) (w4 : (Cond.code y bytes maxL none).before a0 Z = true) (hy : y.cls ≠ "java/lang/invoke/MethodHandle" ∧ y.cls ≠ "java/lang/invoke/VarHandle") (eT : T.heap = h) (hM : MetFree l y (head1 [Cond.code y bytes maxL none] rm) (fun av U => av = (.ref a :: argsL).toArray ∧ Z.Warmed39 U.vm ∧ U.heap = h) (fun _ _ _ _ _ => True) (fun _ U o U' => ∃ v L, o = .returned v ∧ Qc v U'.heap L ∧ FrameEnd U o U' L rm.cells rm.slots)) (hd : decode c.code pc = .ok (.invokespecial index, 3)) (hlen : ∀ sig, parseMethodDescriptor y.desc = some sig → argsL.length = sig.parameters.length) (hf : rm.frames + 1 ≤ R.frames) (hl : W + (maxL + 11) + rm.locals ≤ R.locals) (hsize : Ls.size = c.maxLocals) (hW : (rest.map fun v => v.category).sum ≤ W) (hcs : cells + rm.cells ≤ R.cells) (hss : slots + rm.slots ≤ R.slots) :
    ∃ (T' : State) (L : List Loc) (v : Option Value), Stand p l e R s m args below meth c T' (locs ++ L) (cells + rm.cells) (slots + rm.slots) ∧ Qc v T'.heap L ∧ ∀ t, Steps p.tables e below (T'.setTop (mkF m (pc + 3) Ls (v.toList ++ rest))) t → Steps p.tables e below (T.setTop (mkF m pc Ls (argsL.reverse ++ .ref a :: rest))) t := by
  obtain ⟨v, vm, ⟨T', L', k', n'⟩, -, X', ⟨L, hQ, l1, l2, l3⟩, st⟩ := X.specialBack hx (y := y) hy1 hown (mvT hZ w1) (mvT hZ w2) (mvT hZ w4) hy (backOf (W := W) hM hZ w4 w3 hf hl) (g := mkF m pc Ls (argsL.reverse ++ .ref a :: rest)) rfl hsize (Steps.refl _) (a := a) (argsL := argsL) (rest := rest) hlen rfl (by show 2 * 0 + _ ≤ _; omega) hd (fun _ _ => ⟨rfl, eT, hcs, hss⟩)
  dsimp only [Pt.U, Pt.locs, Pt.cells, Pt.slots] at X' hQ l1 l2 l3 st
  subst l1 l2 l3
  exact ⟨T', L, v, X', hQ, fun t kt => st.trans kt⟩
theorem callVirtual (X : Stand p l e R s m args below meth c T locs cells slots) (hx : p.tables.exec = Jvm.exec) {a0 : Array Value} {Z : State} {h : Heap} {own : String} {index : Nat} {bytes : ByteArray} {maxL : Nat} {ret : Option FieldType} {rm : Room} {W : Nat} {Qc : Option Value → Heap → List Loc → Prop} {y z : MethodName} {C : String} {a : Addr} {argsL : List Value} (hZ : Z.Warmed39 s.vm) (hown : s.vm.findClass own = some m.cls) (w1 : (Cond.methodLink own index y).before a0 Z = true) (w2 : (Cond.declares y).before a0 Z = true) (hnf : NotFace s y) (w5 : (Cond.selects C y z).before a0 Z = true) (w6 : (Cond.instanceMethod z).before a0 Z = true) (w3 : (Cond.initialized z.cls).before a0 Z = true) (w4 : (Cond.code z bytes maxL ret).before a0 Z = true) (hy : y.cls ≠ "java/lang/invoke/MethodHandle" ∧ y.cls ≠ "java/lang/invoke/VarHandle") (eT : T.heap = h) (E : Exa Z h a C) (hM : MetFree l z (head1 [Cond.code z bytes maxL ret] rm) (fun av U => av = (.ref a :: argsL).toArray ∧ Z.Warmed39 U.vm ∧ U.heap = h) (fun _ _ _ _ _ => True) (fun _ U o U' => ∃ v L, o = .returned v ∧ Qc v U'.heap L ∧ FrameEnd U o U' L rm.cells rm.slots)) (hd : decode c.code pc = .ok (.invokevirtual index, 3)) (hlen : ∀ sig, parseMethodDescriptor y.desc = some sig → argsL.length = sig.parameters.length) (hf : rm.frames + 1 ≤ R.frames) (hl : W + (maxL + 11) + rm.locals ≤ R.locals) (hsize : Ls.size = c.maxLocals) (hW : (rest.map fun v => v.category).sum ≤ W) (hcs : cells + rm.cells ≤ R.cells) (hss : slots + rm.slots ≤ R.slots) :
    ∃ (T' : State) (L : List Loc) (v : Option Value), Stand p l e R s m args below meth c T' (locs ++ L) (cells + rm.cells) (slots + rm.slots) ∧ Qc v T'.heap L ∧ ∀ t, Steps p.tables e below (T'.setTop (mkF m (pc + 3) Ls (v.toList ++ rest))) t → Steps p.tables e below (T.setTop (mkF m pc Ls (argsL.reverse ++ .ref a :: rest))) t := by
  obtain ⟨cB, kB, qa, -, qc⟩ := isOf hZ eT E
  obtain ⟨v, vm, ⟨T', L', k', n'⟩, -, X', ⟨L, hQ, l1, l2, l3⟩, st⟩ := X.virtualBack hx (y := y) (z := z) hown (mvT hZ w1) (mvT hZ w2) hnf (mvT hZ w5) (mvT hZ w6) hy (backOf (W := W) hM hZ w4 w3 hf hl) qa qc (g := mkF m pc Ls (argsL.reverse ++ .ref a :: rest)) rfl hsize (Steps.refl _) (argsL := argsL) (rest := rest) hlen rfl (by show 2 * 0 + _ ≤ _; omega) hd (fun _ _ => ⟨rfl, eT, hcs, hss⟩)
  dsimp only [Pt.U, Pt.locs, Pt.cells, Pt.slots] at X' hQ l1 l2 l3 st
  subst l1 l2 l3
  exact ⟨T', L, v, X', hQ, fun t kt => st.trans kt⟩
end Steps
section Arrays
variable {Z : State} {h h' : Heap} {a b : Addr} {ty : FieldType} {n : Int32} {f : Int32 → Int32} {sl : Nat} {v : Value} {ws : List Addr}
/-- the array at a: of kind ty, n places, the place j holds the int f j -/
def Ints (Z : State) (h : Heap) (a : Addr) (ty : FieldType) (n : Int32) (f : Int32 → Int32) : Prop := ∃ cl : Cell, Arr Z h a cl ty ∧ cl.slots.size = n.toNatClampNeg ∧ ¬ n < 0 ∧ ∀ j : Int32, ¬ j < 0 → j < n → cl.slots[j.toNatClampNeg]? = some (.int (f j))
theorem Ints.lt (F : Ints Z h a ty n f) : a < h.size := by obtain ⟨_, A, -⟩ := F; exact A.lt
theorem Ints.ext (E : Ext h h') (F : Ints Z h a ty n f) : Ints Z h' a ty n f := by obtain ⟨c, A, r⟩ := F; exact ⟨c, A.ext E, r⟩
theorem Ints.other (W : Wr h h' b sl v) (F : Ints Z h a ty n f) (q : a ≠ b) : Ints Z h' a ty n f := by obtain ⟨c, A, r⟩ := F; exact ⟨c, A.other W q, r⟩
theorem Ints.keep (F : Ints Z h a ty n f) (K : Keep h h' ws) (q : a ∉ ws) : Ints Z h' a ty n f := by obtain ⟨c, A, r⟩ := F; exact ⟨c, ⟨K.2.1 a c A.1 q, A.2⟩, r⟩
theorem Ints.inb {cl : Cell} (S : cl.slots.size = n.toNatClampNeg) {j : Int32} (h1 : ¬ j < 0) (h2 : j < n) : ¬ (j < 0 ∨ cl.slots.size ≤ j.toNatClampNeg) := inb_of S ⟨h1, h2⟩
theorem nat_inj {i j : Int32} (hi : ¬ i < 0) (hj : ¬ j < 0) (q : i.toNatClampNeg = j.toNatClampNeg) : i = j := Int32.toInt_inj.mp (by rw [nat_of hi, nat_of hj, q])
theorem Ints.set {j : Int32} {x : Int32} {cl : Cell} (A : Arr Z h a cl ty) (S : cl.slots.size = n.toNatClampNeg) (hn : ¬ n < 0) (H : ∀ j : Int32, ¬ j < 0 → j < n → cl.slots[j.toNatClampNeg]? = some (.int (f j))) (h1 : ¬ j < 0) (h2 : j < n) (W : Wr h h' a j.toNatClampNeg (.int x)) : Ints Z h' a ty n (fun i => if i = j then x else f i) := by
  refine ⟨_, A.same W, by rw [← S]; simp [Cell.setSlot], hn, fun i hi hi2 => ?_⟩
  have hlt : i.toNatClampNeg < cl.slots.size := Nat.lt_of_not_le fun q => inb_of S ⟨hi, hi2⟩ (Or.inr q)
  by_cases e : i = j
  · subst e; simp [Cell.setSlot, hlt]
  · have hne : j.toNatClampNeg ≠ i.toNatClampNeg := fun q => e (nat_inj hi h1 q.symm)
    simp only [if_neg e]
    rw [← H i hi hi2]
    simp [Cell.setSlot, Array.getElem?_setIfInBounds_ne hne]
theorem Ints.new {k : ClassId} (A : Arr Z h a (newA k ty n) ty) (hn : ¬ n < 0) (hd : defaultValue ty = .int 0) : Ints Z h a ty n (fun _ => 0) := by
  obtain ⟨cl, A', -, S, -, H, -⟩ := Arv.new A hn
  exact ⟨cl, A', S, hn, fun j h1 h2 => by rw [H _ (Nat.lt_of_not_le fun q => inb_of S ⟨h1, h2⟩ (Or.inr q))]; simp [hd]⟩
theorem Ints.congr {g : Int32 → Int32} (F : Ints Z h a ty n f) (q : ∀ j : Int32, ¬ j < 0 → j < n → f j = g j) : Ints Z h a ty n g := by
  obtain ⟨cl, A, S, hn, H⟩ := F
  exact ⟨cl, A, S, hn, fun j h1 h2 => by rw [← q j h1 h2]; exact H j h1 h2⟩
end Arrays
section ArraySteps
variable {p : Program} {l : Launch} {e : Env} {R : Room} {s : State} {m : MethodId} {args : Array Value} {below : List Frame} {meth : Method} {c : Code} {T : State} {locs : List Loc} {cells slots : Nat} {Φ : Outcome → State → Prop} {pc pc' : Nat} {Ls : Array Slot} {rest : List Value} {Z : State} {h : Heap} {a : Addr} {n j : Int32} {f : Int32 → Int32}
theorem Run.iaload (X : Stand p l e R s m args below meth c T locs cells slots) (hx : p.tables.exec = Jvm.exec) (hZ : Z.Warmed39 s.vm) (eT : T.heap = h) (F : Ints Z h a .int n f) (h1 : ¬ j < 0) (h2 : j < n) (hd : decode c.code pc = .ok (.iaload, 1)) (hp : pc + 1 = pc') (k : Run p.tables e below Φ T (mkF m pc' Ls (.int (f j) :: rest))) : Run p.tables e below Φ T (mkF m pc Ls (.int j :: .ref a :: rest)) := by
  subst hp
  obtain ⟨cl, A, S, hn, H⟩ := F
  exact k.back fun _ kt => X.iaload hx (by rw [eT]; exact A.1) (State.isArrayOf_alike hZ.alike A.2.1) A.2.2 (inb_of S ⟨h1, h2⟩) (H j h1 h2) (g := mkF m pc Ls (.int j :: .ref a :: rest)) rfl rfl hd _ kt
theorem Run.baload (X : Stand p l e R s m args below meth c T locs cells slots) (hx : p.tables.exec = Jvm.exec) (hZ : Z.Warmed39 s.vm) (eT : T.heap = h) (F : Ints Z h a .byte n f) (h1 : ¬ j < 0) (h2 : j < n) (hd : decode c.code pc = .ok (.baload, 1)) (hp : pc + 1 = pc') (k : Run p.tables e below Φ T (mkF m pc' Ls (.int (f j) :: rest))) : Run p.tables e below Φ T (mkF m pc Ls (.int j :: .ref a :: rest)) := by
  subst hp
  obtain ⟨cl, A, S, hn, H⟩ := F
  exact k.back fun _ kt => X.baloadBytes hx (by rw [eT]; exact A.1) (State.isArrayOf_alike hZ.alike A.2.1) A.2.2 (inb_of S ⟨h1, h2⟩) (H j h1 h2) (g := mkF m pc Ls (.int j :: .ref a :: rest)) rfl rfl hd _ kt
theorem Run.zaload (X : Stand p l e R s m args below meth c T locs cells slots) (hx : p.tables.exec = Jvm.exec) (hZ : Z.Warmed39 s.vm) (eT : T.heap = h) (F : Ints Z h a .boolean n f) (h1 : ¬ j < 0) (h2 : j < n) (hd : decode c.code pc = .ok (.baload, 1)) (hp : pc + 1 = pc') (k : Run p.tables e below Φ T (mkF m pc' Ls (.int (f j) :: rest))) : Run p.tables e below Φ T (mkF m pc Ls (.int j :: .ref a :: rest)) := by
  subst hp
  obtain ⟨cl, A, S, hn, H⟩ := F
  exact k.back fun _ kt => X.baloadBooleans hx (by rw [eT]; exact A.1) (State.isArrayOf_alike hZ.alike A.2.1) A.2.2 (inb_of S ⟨h1, h2⟩) (H j h1 h2) (g := mkF m pc Ls (.int j :: .ref a :: rest)) rfl rfl hd _ kt
theorem Run.arraylength (X : Stand p l e R s m args below meth c T locs cells slots) (hx : p.tables.exec = Jvm.exec) {ty : FieldType} (hZ : Z.Warmed39 s.vm) (eT : T.heap = h) (F : Ints Z h a ty n f) (hd : decode c.code pc = .ok (.arraylength, 1)) (hp : pc + 1 = pc') (k : Run p.tables e below Φ T (mkF m pc' Ls (.int n :: rest))) : Run p.tables e below Φ T (mkF m pc Ls (.ref a :: rest)) := by
  subst hp
  obtain ⟨cl, A, S, hn, H⟩ := F
  rw [← len_of S hn] at k
  exact k.back fun _ kt => X.arraylength hx (by rw [eT]; exact A.1) (State.isArrayOf_alike hZ.alike A.2.1) (g := mkF m pc Ls (.ref a :: rest)) rfl rfl hd _ kt
theorem st_iastore (X : Stand p l e R s m args below meth c T locs cells slots) (hx : p.tables.exec = Jvm.exec) {x : Int32} (hZ : Z.Warmed39 s.vm) (eT : T.heap = h) (F : Ints Z h a .int n f) (h1 : ¬ j < 0) (h2 : j < n) (hd : decode c.code pc = .ok (.iastore, 1)) : ∃ T' h' sl v, Stand p l e R s m args below meth c T' (locs ++ [⟨a, sl⟩]) cells slots ∧ T'.heap = h' ∧ Wr h h' a sl v ∧ Ints Z h' a .int n (fun i => if i = j then x else f i) ∧ ∀ t, Steps p.tables e below (T'.setTop (mkF m (pc + 1) Ls rest)) t → Steps p.tables e below (T.setTop (mkF m pc Ls (.int x :: .int j :: .ref a :: rest))) t := by
  obtain ⟨cl, A, S, hn, H⟩ := F
  obtain ⟨T', h', X', e', W, st⟩ := stI X hx hZ eT A (j := j) (x := x) (inb_of S ⟨h1, h2⟩) (g := mkF m pc Ls (.int x :: .int j :: .ref a :: rest)) rfl rfl hd
  exact ⟨T', h', _, _, X', e', W, Ints.set A S hn H h1 h2 W, st⟩
theorem st_bastore (X : Stand p l e R s m args below meth c T locs cells slots) (hx : p.tables.exec = Jvm.exec) {x : Int32} (hZ : Z.Warmed39 s.vm) (eT : T.heap = h) (F : Ints Z h a .byte n f) (h1 : ¬ j < 0) (h2 : j < n) (hd : decode c.code pc = .ok (.bastore, 1)) : ∃ T' h' sl v, Stand p l e R s m args below meth c T' (locs ++ [⟨a, sl⟩]) cells slots ∧ T'.heap = h' ∧ Wr h h' a sl v ∧ Ints Z h' a .byte n (fun i => if i = j then x.toInt8.toInt32 else f i) ∧ ∀ t, Steps p.tables e below (T'.setTop (mkF m (pc + 1) Ls rest)) t → Steps p.tables e below (T.setTop (mkF m pc Ls (.int x :: .int j :: .ref a :: rest))) t := by
  obtain ⟨cl, A, S, hn, H⟩ := F
  obtain ⟨T', h', X', e', W, st⟩ := stB X hx hZ eT A (j := j) (x := x) (inb_of S ⟨h1, h2⟩) (g := mkF m pc Ls (.int x :: .int j :: .ref a :: rest)) rfl rfl hd
  exact ⟨T', h', _, _, X', e', W, Ints.set A S hn H h1 h2 W, st⟩
theorem st_zastore (X : Stand p l e R s m args below meth c T locs cells slots) (hx : p.tables.exec = Jvm.exec) {x : Int32} (hZ : Z.Warmed39 s.vm) (eT : T.heap = h) (F : Ints Z h a .boolean n f) (h1 : ¬ j < 0) (h2 : j < n) (hd : decode c.code pc = .ok (.bastore, 1)) : ∃ T' h' sl v, Stand p l e R s m args below meth c T' (locs ++ [⟨a, sl⟩]) cells slots ∧ T'.heap = h' ∧ Wr h h' a sl v ∧ Ints Z h' a .boolean n (fun i => if i = j then x &&& 1 else f i) ∧ ∀ t, Steps p.tables e below (T'.setTop (mkF m (pc + 1) Ls rest)) t → Steps p.tables e below (T.setTop (mkF m pc Ls (.int x :: .int j :: .ref a :: rest))) t := by
  obtain ⟨cl, A, S, hn, H⟩ := F
  obtain ⟨T', h', X', e', W, st⟩ := stZ X hx hZ eT A (j := j) (x := x) (inb_of S ⟨h1, h2⟩) (g := mkF m pc Ls (.int x :: .int j :: .ref a :: rest)) rfl rfl hd
  exact ⟨T', h', _, _, X', e', W, Ints.set A S hn H h1 h2 W, st⟩
theorem st_newarray (X : Stand p l e R s m args below meth c T locs cells slots) (hx : p.tables.exec = Jvm.exec) {aty : ArrayType} {a0 : Array Value} (hZ : Z.Warmed39 s.vm) (w : (Cond.arrayClass (newarray.typeOf aty)).before a0 Z = true) (eT : T.heap = h) (hd : decode c.code pc = .ok (.newarray aty, 2)) (hn : ¬ n < 0) {cap : Nat} (hcap : n.toNatClampNeg ≤ cap) (hb : cap * 8 ≤ 536870912) (hc : cells + 1 ≤ R.cells) (hl : slots + cap ≤ R.slots) (hdef : defaultValue (newarray.typeOf aty) = .int 0) : ∃ T' h' b, Stand p l e R s m args below meth c T' locs (cells + 1) (slots + cap) ∧ T'.heap = h' ∧ Ext h h' ∧ b = h.size ∧ Ints Z h' b (newarray.typeOf aty) n (fun _ => 0) ∧ ∀ t, Steps p.tables e below (T'.setTop (mkF m (pc + 2) Ls (.ref b :: rest))) t → Steps p.tables e below (T.setTop (mkF m pc Ls (.int n :: rest))) t := by
  obtain ⟨T', h', cA, X', e', E, A, st⟩ := newP X hx hZ w eT (g := mkF m pc Ls (.int n :: rest)) rfl hd rfl hn hcap hb hc hl
  exact ⟨T', h', _, X', e', E, rfl, Ints.new A hn hdef, st⟩
end ArraySteps
section Table
variable {Z : State} {args : Array Value} {t : Term} {a : Addr} {c : Cell} {ty : FieldType} {n j : Int32}
theorem tab_ints {h : Heap} (F : Tab Z h a c ty n) : Ints Z h a ty n (atv c) := ⟨c, F.1, F.2.1, F.2.2.1, fun j h1 h2 => F.2.2.2 j (inb_of F.2.1 ⟨h1, h2⟩)⟩
theorem tab_all {q : Jvm.Cond} (et : ∀ idx, t.eval args Z none idx Z = some (.ref a)) (F : Tab Z Z.heap a c ty n) (h : (Jvm.Cond.all t q).value args Z none Z [] = some true) (h1 : ¬ j < 0) (h2 : j < n) : q.value args Z none Z [j.toNatClampNeg] = some true :=
  Jvm.Cond.all_elim (et []) (F.1.fin (Vm.Alike.refl _)) h _ (Nat.lt_of_not_le fun y => inb_of F.2.1 ⟨h1, h2⟩ (Or.inr y))
theorem tab_elem (et : ∀ idx, t.eval args Z none idx Z = some (.ref a)) (F : Tab Z Z.heap a c ty n) (h1 : ¬ j < 0) (h2 : j < n) : (Term.elem t (.index 0)).eval args Z none [j.toNatClampNeg] Z = some (.int (atv c j)) :=
  (elem_f (et _) (idx_at h1) (F.1.fin (Vm.Alike.refl _)) h1).trans (F.2.2.2 j (inb_of F.2.1 ⟨h1, h2⟩))
theorem tab_le {x v : Int32} (et : ∀ idx, t.eval args Z none idx Z = some (.ref a)) (F : Tab Z Z.heap a c ty n) (h : (Jvm.Cond.all t (.or (.le (.int x) (.index 0)) (.eq (.elem t (.index 0)) (.int v)))).value args Z none Z [] = some true) (j : Int32) (h1 : ¬ j < 0) (h2 : j < n) : x ≤ j ∨ atv c j = v :=
  or_e2 (Jvm.Cond.le_ints (Term.int_eval x) (idx_at h1)) (Jvm.Cond.eq_ints (tab_elem et F h1 h2) (Term.int_eval v)) (tab_all et F h h1 h2)
theorem tab_in {x y v : Int32} (et : ∀ idx, t.eval args Z none idx Z = some (.ref a)) (F : Tab Z Z.heap a c ty n) (h : (Jvm.Cond.all t (.or (.lt (.index 0) (.int x)) (.or (.le (.int y) (.index 0)) (.eq (.elem t (.index 0)) (.int v))))).value args Z none Z [] = some true) (j : Int32) (h1 : ¬ j < 0) (h2 : j < n) : j < x ∨ ¬ j < y ∨ atv c j = v :=
  or3 (tab_all et F h h1 h2) (Jvm.Cond.lt_ints (idx_at h1) (Term.int_eval x)) (Jvm.Cond.le_ints (Term.int_eval y) (idx_at h1)) (Jvm.Cond.eq_ints (tab_elem et F h1 h2) (Term.int_eval v))
theorem tab_one {k v : Int32} (et : ∀ idx, t.eval args Z none idx Z = some (.ref a)) (F : Tab Z Z.heap a c ty n) (h1 : ¬ k < 0) (h2 : k < n) (h : (Jvm.Cond.eq (.elem t (.int k)) (.int v)).value args Z none Z [] = some true) : atv c k = v := by
  have e := (elem_f (et []) (Term.int_eval (args := args) (first := Z) (o := none) (idx := []) (s := Z) k) (F.1.fin (Vm.Alike.refl _)) h1).trans (F.2.2.2 k (inb_of F.2.1 ⟨h1, h2⟩))
  have q := (Jvm.Cond.eq_ints e (Term.int_eval v)).symm.trans h
  simpa using q
theorem tab_ge {x v : Int32} (et : ∀ idx, t.eval args Z none idx Z = some (.ref a)) (F : Tab Z Z.heap a c ty n) (h : (Jvm.Cond.all t (.or (.lt (.index 0) (.int x)) (.eq (.elem t (.index 0)) (.int v)))).value args Z none Z [] = some true) (j : Int32) (h1 : ¬ j < 0) (h2 : j < n) : j < x ∨ atv c j = v :=
  or_e2 (Jvm.Cond.lt_ints (idx_at h1) (Term.int_eval x)) (Jvm.Cond.eq_ints (tab_elem et F h1 h2) (Term.int_eval v)) (tab_all et F h h1 h2)
theorem tab_start (hf : Fit Z) (et : t.eval args Z none [] Z = some (.ref a)) (A : Arr Z Z.heap a c ty) (hl : (Jvm.Cond.eq (Term.length t) (.int n)).value args Z none Z [] = some true) (ht : ty = .int ∨ ty = .boolean ∨ ty = .byte ∨ ty = .char ∨ ty = .short) (hn : ¬ n < 0) : Tab Z Z.heap a c ty n := by
  have e := eqv_i (Term.int_eval n) hl
  have ha : Z.arrayAt? a = some c := A.fin (Vm.Alike.refl _)
  by_cases q : c.slots.size < 2 ^ 31
  · have e2 := len_f et ha q
    exact Tab.start hf A ht q (by simpa using Option.some.inj (e2.symm.trans e)) hn
  · simp [Term.eval, et, ha, q] at e
theorem small_int (N : Nat) (hN : N < 2147483648) (P : Int32 → Prop) (H : ∀ k : Fin N, P (Int32.ofNat k.val)) (c : Int32) (h1 : ¬ c < 0) (h2 : c < Int32.ofNat N) : P c := by
  have e : c.toInt = (c.toNatClampNeg : Int) := nat_of h1
  have hc : Int32.ofNat c.toNatClampNeg = c := by
    apply Int32.toInt_inj.mp
    rw [Int32.toInt_ofNat_of_lt (by have := c.toInt_lt; omega), e]
  have h3 : c.toInt < (Int32.ofNat N).toInt := Int32.lt_iff_toInt_lt.mp h2
  rw [Int32.toInt_ofNat_of_lt (by omega)] at h3
  rw [← hc]
  exact H ⟨c.toNatClampNeg, by omega⟩
end Table
end Jvm.OwnRun

namespace Jvm.Pilot.@@N@@
open Jvm Jvm.ClassFile Sem Op Lib Jvm.Free Jvm.Stand Jvm.LawKit Jvm.RoadKit Jvm.OwnRun Bundle Jvm.Pilot.@@N@@.Jvm.D
theorem own_pd0 : parseMethodDescriptor "(I)Z" = some ⟨[.int], some .boolean⟩ := by decide +kernel
theorem own_pn0 : plainName "com/example/vez/vez/FieldSyntax" = true := by first | (simp [plainName, overriddenIn]; done) | decide +kernel
theorem own_pn1 : plainName "com/example/vez/vez/FieldSyntaxIsTokenCharPinLaw" = true := by first | (simp [plainName, overriddenIn]; done) | decide +kernel
def own_f1_25 (p0 : Int32) (f : Int32 → Int32) (y25_0 : Int32) : Int32 := (y25_0 &&& 1)
def own_f1_24 (p0 : Int32) (f : Int32 → Int32) : Int32 := (own_f1_25 p0 f (0 : Int32))
def own_F1 (p0 : Int32) (f : Int32 → Int32) : Int32 := (if p0 < (0 : Int32) then (own_f1_24 p0 f) else (if p0 < (128 : Int32) then (if (f p0) = (0 : Int32) then (own_f1_24 p0 f) else (own_f1_25 p0 f (1 : Int32))) else (own_f1_24 p0 f)))
theorem own_d1_0 : decode prog_7_method_2_code 0 = .ok (.iload_n 0, 1) := by decide +kernel
theorem own_d1_1 : decode prog_7_method_2_code 1 = .ok (.ifCond .lt 23, 3) := by decide +kernel
theorem own_d1_4 : decode prog_7_method_2_code 4 = .ok (.iload_n 0, 1) := by decide +kernel
theorem own_d1_5 : decode prog_7_method_2_code 5 = .ok (.getstatic 7, 3) := by decide +kernel
theorem own_d1_8 : decode prog_7_method_2_code 8 = .ok (.arraylength, 1) := by decide +kernel
theorem own_d1_9 : decode prog_7_method_2_code 9 = .ok (.if_icmp .ge 15, 3) := by decide +kernel
theorem own_d1_12 : decode prog_7_method_2_code 12 = .ok (.getstatic 7, 3) := by decide +kernel
theorem own_d1_15 : decode prog_7_method_2_code 15 = .ok (.iload_n 0, 1) := by decide +kernel
theorem own_d1_16 : decode prog_7_method_2_code 16 = .ok (.baload, 1) := by decide +kernel
theorem own_d1_17 : decode prog_7_method_2_code 17 = .ok (.ifCond .eq 7, 3) := by decide +kernel
theorem own_d1_20 : decode prog_7_method_2_code 20 = .ok (.iconst 1, 1) := by decide +kernel
theorem own_d1_21 : decode prog_7_method_2_code 21 = .ok (.goto 4, 3) := by decide +kernel
theorem own_d1_24 : decode prog_7_method_2_code 24 = .ok (.iconst 0, 1) := by decide +kernel
theorem own_d1_25 : decode prog_7_method_2_code 25 = .ok (.ireturn, 1) := by decide +kernel
theorem own_ef1 (m : MethodId) (x0 : Int32) : entryFrame m #[(.int x0)] 1 = mkF m 0 #[.val (.int x0)] [] := by first | (simp [entryFrame, mkF, argsToLocals, Value.category]; done) | rfl
set_option maxRecDepth 65536 in
set_option maxHeartbeats 40000000 in
theorem rm1 (l : Launch) (Z : State) (a0 : Array Value) (hw : ∀ d ∈ tables_1, d.before a0 Z = true) (ws : List Jvm.Cond) (p0 : Int32) (ta : Addr) (f : Int32 → Int32) (h0 : Heap) (n0 : Nat) (Z0 : n0 ≤ h0.size) (S_t : Sta Z h0 "com/example/vez/vez/FieldSyntax" "TOKEN_CHARS" "[Z" (.ref ta)) (A_t : Ints Z h0 ta .boolean (128 : Int32) f) :
    MetFree l (⟨"com/example/vez/vez/FieldSyntax", "isTokenChar", "(I)Z"⟩ : MethodName) (head1 (Jvm.Cond.code (⟨"com/example/vez/vez/FieldSyntax", "isTokenChar", "(I)Z"⟩ : MethodName) prog_7_method_2_code 1 (some .boolean) :: ws) ({ frames := 0, cells := 0, slots := 0, locals := 0 } : Room)) (fun a U => a = #[(.int p0)] ∧ Z.Warmed39 U.vm ∧ U.heap = h0) (fun _ _ _ _ _ => True) (fun _ U o U' => ∃ v L, o = .returned v ∧ (QPure n0 h0 (.int (own_F1 p0 f))) v U'.heap L ∧ FrameEnd U o U' L ({ frames := 0, cells := 0, slots := 0, locals := 0 } : Room).cells ({ frames := 0, cells := 0, slots := 0, locals := 0 } : Room).slots) := by
  refine MetFree.of_bodySF (plainFor_of_name own_pn0) hisR ?_
  intro p e s m args below meth c s₁ Bd hml0 hP hK
  obtain ⟨rfl, hZ, hh⟩ := hP
  have hx := Bd.exec
  have hby := Bd.bytes
  have hml : c.maxLocals = 1 := hml0
  have hown : s.vm.findClass "com/example/vez/vez/FieldSyntax" = some m.cls := findClass_of_methodNamed Bd.named
  have hnm := (name_of_methodNamed Bd.named Bd.method).1
  have X0 : Stand p l e ({ frames := 0, cells := 0, slots := 0, locals := 0 } : Room) s m #[(.int p0)] below meth c s₁ [] 0 0 := Stand.of_body Bd
  have e0 : s₁.heap = h0 := by rw [← hh, Bd.state]; rfl
  have N0 := Fr.nil n0
  suffices H : Run p.tables e below (FinR s ({ frames := 0, cells := 0, slots := 0, locals := 0 } : Room).cells ({ frames := 0, cells := 0, slots := 0, locals := 0 } : Room).slots (QPure n0 h0 (.int (own_F1 p0 f)))) s₁ (mkF m 0 #[.val (.int p0)] []) by
    obtain ⟨s₂, o, k1, k2, k3, k4⟩ := H
    exact ⟨s₂, o, castTop (own_ef1 m p0) k1, k2, k3, k4⟩
  obtain ⟨r, hr⟩ : ∃ r, r = own_F1 p0 f := ⟨_, rfl⟩
  rw [← hr]
  have J25 : ∀ (y25_0 : Int32) (r : Int32), r = (own_f1_25 p0 f y25_0) → ∀ (T : State) (locs : List Loc), Stand p l e ({ frames := 0, cells := 0, slots := 0, locals := 0 } : Room) s m #[(.int p0)] below meth c T locs 0 0 → T.heap = h0 → Fr n0 locs → Run p.tables e below (FinR s ({ frames := 0, cells := 0, slots := 0, locals := 0 } : Room).cells ({ frames := 0, cells := 0, slots := 0, locals := 0 } : Room).slots (QPure n0 h0 (.int r))) T (mkF m 25 #[.val (.int p0)] [(.int y25_0)]) := by
    clear hr
    intro y25_0 r hr T locs X eT N
    rw [own_f1_25] at hr
    exact Run.retSmall X hx (t := .boolean) (z' := (y25_0 &&& 1)) Bd.notSynchronized Bd.returns (by simp) rfl (hb hby own_d1_25) ⟨by rw [hr], N, eT⟩ (by decide) (by decide)
  have J24 : ∀  (r : Int32), r = (own_f1_24 p0 f) → ∀ (T : State) (locs : List Loc), Stand p l e ({ frames := 0, cells := 0, slots := 0, locals := 0 } : Room) s m #[(.int p0)] below meth c T locs 0 0 → T.heap = h0 → Fr n0 locs → Run p.tables e below (FinR s ({ frames := 0, cells := 0, slots := 0, locals := 0 } : Room).cells ({ frames := 0, cells := 0, slots := 0, locals := 0 } : Room).slots (QPure n0 h0 (.int r))) T (mkF m 24 #[.val (.int p0)] []) := by
    clear hr
    intro  r hr T locs X eT N
    rw [own_f1_24] at hr
    refine Run.iconst (pc' := 25) (v := (0 : Int32)) X hx (hb hby own_d1_24) rfl rfl ?_
    exact J25 (0 : Int32) _ hr _ _ X eT N
  rw [own_F1] at hr
  refine Run.iloadN (pc' := 1) X0 hx (hb hby own_d1_0) rfl rfl ?_
  by_cases hc1 : p0 < (0 : Int32)
  · rw [if_pos hc1] at hr
    refine Run.ifYes (pc' := 24) X0 hx (hb hby own_d1_1) ((if0 _ _).trans (tlt hc1).1) (by decide) (by decide) ?_
    exact J24  _ hr _ _ X0 e0 N0
  · rw [if_neg hc1] at hr
    refine Run.ifNo (pc' := 4) X0 hx (hb hby own_d1_1) ((if0 _ _).trans (flt hc1).1) rfl ?_
    refine Run.iloadN (pc' := 5) X0 hx (hb hby own_d1_4) rfl rfl ?_
    obtain ⟨T1, X1, e1, st1⟩ := getS2 X0 hx hZ hown (host := "") (Or.inl (hw _ (List.mem_of_getElem? (i := 4) rfl))) Via.refl e0 S_t (g := (mkF m 5 #[.val (.int p0)] [(.int p0)])) rfl (hb hby own_d1_5)
    refine Run.back (g' := (mkF m 8 #[.val (.int p0)] [(.ref ta), (.int p0)])) st1 ?_
    refine Run.arraylength (pc' := 9) X1 hx hZ e1 A_t (hb hby own_d1_8) rfl ?_
    by_cases hc9 : p0 < (128 : Int32)
    · rw [if_pos hc9] at hr
      refine Run.icmpNo (pc' := 12) X1 hx (hb hby own_d1_9) (tlt hc9).2.1 rfl ?_
      obtain ⟨T2, X2, e2, st2⟩ := getS2 X1 hx hZ hown (host := "") (Or.inl (hw _ (List.mem_of_getElem? (i := 4) rfl))) Via.refl e1 S_t (g := (mkF m 12 #[.val (.int p0)] [])) rfl (hb hby own_d1_12)
      refine Run.back (g' := (mkF m 15 #[.val (.int p0)] [(.ref ta)])) st2 ?_
      refine Run.iloadN (pc' := 16) X2 hx (hb hby own_d1_15) rfl rfl ?_
      refine Run.zaload (pc' := 17) X2 hx hZ e2 A_t hc1 hc9 (hb hby own_d1_16) rfl ?_
      by_cases hc17 : (f p0) = (0 : Int32)
      · rw [if_pos hc17] at hr
        refine Run.ifYes (pc' := 24) X2 hx (hb hby own_d1_17) ((if0 _ _).trans (teq hc17).1) (by decide) (by decide) ?_
        exact J24  _ hr _ _ X2 e2 N0
      · rw [if_neg hc17] at hr
        refine Run.ifNo (pc' := 20) X2 hx (hb hby own_d1_17) ((if0 _ _).trans (feq hc17).1) rfl ?_
        refine Run.iconst (pc' := 21) (v := (1 : Int32)) X2 hx (hb hby own_d1_20) rfl rfl ?_
        refine Run.goto (pc' := 25) X2 hx (hb hby own_d1_21) (by decide) (by decide) ?_
        exact J25 (1 : Int32) _ hr _ _ X2 e2 N0
    · rw [if_neg hc9] at hr
      refine Run.icmpYes (pc' := 24) X1 hx (hb hby own_d1_9) (flt hc9).2.1 (by decide) (by decide) ?_
      exact J24  _ hr _ _ X1 e1 N0
def own_f2_137 (p0 : Int32) (y137_0 : Int32) : Int32 := (y137_0 &&& 1)
def own_f2_132 (p0 : Int32) : Int32 := (own_f2_137 p0 (1 : Int32))
def own_f2_42 (p0 : Int32) : Int32 := (if p0 = (33 : Int32) then (own_f2_132 p0) else (if p0 = (35 : Int32) then (own_f2_132 p0) else (if p0 = (36 : Int32) then (own_f2_132 p0) else (if p0 = (37 : Int32) then (own_f2_132 p0) else (if p0 = (38 : Int32) then (own_f2_132 p0) else (if p0 = (39 : Int32) then (own_f2_132 p0) else (if p0 = (42 : Int32) then (own_f2_132 p0) else (if p0 = (43 : Int32) then (own_f2_132 p0) else (if p0 = (45 : Int32) then (own_f2_132 p0) else (if p0 = (46 : Int32) then (own_f2_132 p0) else (if p0 = (94 : Int32) then (own_f2_132 p0) else (if p0 = (95 : Int32) then (own_f2_132 p0) else (if p0 = (96 : Int32) then (own_f2_132 p0) else (if p0 = (124 : Int32) then (own_f2_132 p0) else (if p0 = (126 : Int32) then (own_f2_132 p0) else (own_f2_137 p0 (0 : Int32)))))))))))))))))
def own_f2_28 (p0 : Int32) : Int32 := (if p0 < (48 : Int32) then (own_f2_42 p0) else (if (57 : Int32) < p0 then (own_f2_42 p0) else (1 : Int32)))
def own_f2_14 (p0 : Int32) : Int32 := (if p0 < (65 : Int32) then (own_f2_28 p0) else (if (90 : Int32) < p0 then (own_f2_28 p0) else (1 : Int32)))
def own_F2 (p0 : Int32) : Int32 := (if p0 < (97 : Int32) then (own_f2_14 p0) else (if (122 : Int32) < p0 then (own_f2_14 p0) else (1 : Int32)))
theorem own_d2_0 : decode method_2_code 0 = .ok (.iload_n 0, 1) := by decide +kernel
theorem own_d2_1 : decode method_2_code 1 = .ok (.bipush 97, 2) := by decide +kernel
theorem own_d2_3 : decode method_2_code 3 = .ok (.if_icmp .lt 11, 3) := by decide +kernel
theorem own_d2_6 : decode method_2_code 6 = .ok (.iload_n 0, 1) := by decide +kernel
theorem own_d2_7 : decode method_2_code 7 = .ok (.bipush 122, 2) := by decide +kernel
theorem own_d2_9 : decode method_2_code 9 = .ok (.if_icmp .gt 5, 3) := by decide +kernel
theorem own_d2_12 : decode method_2_code 12 = .ok (.iconst 1, 1) := by decide +kernel
theorem own_d2_13 : decode method_2_code 13 = .ok (.ireturn, 1) := by decide +kernel
theorem own_d2_14 : decode method_2_code 14 = .ok (.iload_n 0, 1) := by decide +kernel
theorem own_d2_15 : decode method_2_code 15 = .ok (.bipush 65, 2) := by decide +kernel
theorem own_d2_17 : decode method_2_code 17 = .ok (.if_icmp .lt 11, 3) := by decide +kernel
theorem own_d2_20 : decode method_2_code 20 = .ok (.iload_n 0, 1) := by decide +kernel
theorem own_d2_21 : decode method_2_code 21 = .ok (.bipush 90, 2) := by decide +kernel
theorem own_d2_23 : decode method_2_code 23 = .ok (.if_icmp .gt 5, 3) := by decide +kernel
theorem own_d2_26 : decode method_2_code 26 = .ok (.iconst 1, 1) := by decide +kernel
theorem own_d2_27 : decode method_2_code 27 = .ok (.ireturn, 1) := by decide +kernel
theorem own_d2_28 : decode method_2_code 28 = .ok (.iload_n 0, 1) := by decide +kernel
theorem own_d2_29 : decode method_2_code 29 = .ok (.bipush 48, 2) := by decide +kernel
theorem own_d2_31 : decode method_2_code 31 = .ok (.if_icmp .lt 11, 3) := by decide +kernel
theorem own_d2_34 : decode method_2_code 34 = .ok (.iload_n 0, 1) := by decide +kernel
theorem own_d2_35 : decode method_2_code 35 = .ok (.bipush 57, 2) := by decide +kernel
theorem own_d2_37 : decode method_2_code 37 = .ok (.if_icmp .gt 5, 3) := by decide +kernel
theorem own_d2_40 : decode method_2_code 40 = .ok (.iconst 1, 1) := by decide +kernel
theorem own_d2_41 : decode method_2_code 41 = .ok (.ireturn, 1) := by decide +kernel
theorem own_d2_42 : decode method_2_code 42 = .ok (.iload_n 0, 1) := by decide +kernel
theorem own_d2_43 : decode method_2_code 43 = .ok (.bipush 33, 2) := by decide +kernel
theorem own_d2_45 : decode method_2_code 45 = .ok (.if_icmp .eq 87, 3) := by decide +kernel
theorem own_d2_48 : decode method_2_code 48 = .ok (.iload_n 0, 1) := by decide +kernel
theorem own_d2_49 : decode method_2_code 49 = .ok (.bipush 35, 2) := by decide +kernel
theorem own_d2_51 : decode method_2_code 51 = .ok (.if_icmp .eq 81, 3) := by decide +kernel
theorem own_d2_54 : decode method_2_code 54 = .ok (.iload_n 0, 1) := by decide +kernel
theorem own_d2_55 : decode method_2_code 55 = .ok (.bipush 36, 2) := by decide +kernel
theorem own_d2_57 : decode method_2_code 57 = .ok (.if_icmp .eq 75, 3) := by decide +kernel
theorem own_d2_60 : decode method_2_code 60 = .ok (.iload_n 0, 1) := by decide +kernel
theorem own_d2_61 : decode method_2_code 61 = .ok (.bipush 37, 2) := by decide +kernel
theorem own_d2_63 : decode method_2_code 63 = .ok (.if_icmp .eq 69, 3) := by decide +kernel
theorem own_d2_66 : decode method_2_code 66 = .ok (.iload_n 0, 1) := by decide +kernel
theorem own_d2_67 : decode method_2_code 67 = .ok (.bipush 38, 2) := by decide +kernel
theorem own_d2_69 : decode method_2_code 69 = .ok (.if_icmp .eq 63, 3) := by decide +kernel
theorem own_d2_72 : decode method_2_code 72 = .ok (.iload_n 0, 1) := by decide +kernel
theorem own_d2_73 : decode method_2_code 73 = .ok (.bipush 39, 2) := by decide +kernel
theorem own_d2_75 : decode method_2_code 75 = .ok (.if_icmp .eq 57, 3) := by decide +kernel
theorem own_d2_78 : decode method_2_code 78 = .ok (.iload_n 0, 1) := by decide +kernel
theorem own_d2_79 : decode method_2_code 79 = .ok (.bipush 42, 2) := by decide +kernel
theorem own_d2_81 : decode method_2_code 81 = .ok (.if_icmp .eq 51, 3) := by decide +kernel
theorem own_d2_84 : decode method_2_code 84 = .ok (.iload_n 0, 1) := by decide +kernel
theorem own_d2_85 : decode method_2_code 85 = .ok (.bipush 43, 2) := by decide +kernel
theorem own_d2_87 : decode method_2_code 87 = .ok (.if_icmp .eq 45, 3) := by decide +kernel
theorem own_d2_90 : decode method_2_code 90 = .ok (.iload_n 0, 1) := by decide +kernel
theorem own_d2_91 : decode method_2_code 91 = .ok (.bipush 45, 2) := by decide +kernel
theorem own_d2_93 : decode method_2_code 93 = .ok (.if_icmp .eq 39, 3) := by decide +kernel
theorem own_d2_96 : decode method_2_code 96 = .ok (.iload_n 0, 1) := by decide +kernel
theorem own_d2_97 : decode method_2_code 97 = .ok (.bipush 46, 2) := by decide +kernel
theorem own_d2_99 : decode method_2_code 99 = .ok (.if_icmp .eq 33, 3) := by decide +kernel
theorem own_d2_102 : decode method_2_code 102 = .ok (.iload_n 0, 1) := by decide +kernel
theorem own_d2_103 : decode method_2_code 103 = .ok (.bipush 94, 2) := by decide +kernel
theorem own_d2_105 : decode method_2_code 105 = .ok (.if_icmp .eq 27, 3) := by decide +kernel
theorem own_d2_108 : decode method_2_code 108 = .ok (.iload_n 0, 1) := by decide +kernel
theorem own_d2_109 : decode method_2_code 109 = .ok (.bipush 95, 2) := by decide +kernel
theorem own_d2_111 : decode method_2_code 111 = .ok (.if_icmp .eq 21, 3) := by decide +kernel
theorem own_d2_114 : decode method_2_code 114 = .ok (.iload_n 0, 1) := by decide +kernel
theorem own_d2_115 : decode method_2_code 115 = .ok (.bipush 96, 2) := by decide +kernel
theorem own_d2_117 : decode method_2_code 117 = .ok (.if_icmp .eq 15, 3) := by decide +kernel
theorem own_d2_120 : decode method_2_code 120 = .ok (.iload_n 0, 1) := by decide +kernel
theorem own_d2_121 : decode method_2_code 121 = .ok (.bipush 124, 2) := by decide +kernel
theorem own_d2_123 : decode method_2_code 123 = .ok (.if_icmp .eq 9, 3) := by decide +kernel
theorem own_d2_126 : decode method_2_code 126 = .ok (.iload_n 0, 1) := by decide +kernel
theorem own_d2_127 : decode method_2_code 127 = .ok (.bipush 126, 2) := by decide +kernel
theorem own_d2_129 : decode method_2_code 129 = .ok (.if_icmp .ne 7, 3) := by decide +kernel
theorem own_d2_132 : decode method_2_code 132 = .ok (.iconst 1, 1) := by decide +kernel
theorem own_d2_133 : decode method_2_code 133 = .ok (.goto 4, 3) := by decide +kernel
theorem own_d2_136 : decode method_2_code 136 = .ok (.iconst 0, 1) := by decide +kernel
theorem own_d2_137 : decode method_2_code 137 = .ok (.ireturn, 1) := by decide +kernel
theorem own_ef2 (m : MethodId) (x0 : Int32) : entryFrame m #[(.int x0)] 1 = mkF m 0 #[.val (.int x0)] [] := by first | (simp [entryFrame, mkF, argsToLocals, Value.category]; done) | rfl
set_option maxRecDepth 65536 in
set_option maxHeartbeats 40000000 in
theorem rm2 (l : Launch) (Z : State) (a0 : Array Value) (hw : ∀ d ∈ tables_1, d.before a0 Z = true) (ws : List Jvm.Cond) (p0 : Int32) (h0 : Heap) (n0 : Nat) (Z0 : n0 ≤ h0.size) :
    MetFree l (⟨"com/example/vez/vez/FieldSyntaxIsTokenCharPinLaw", "reference", "(I)Z"⟩ : MethodName) (head1 (Jvm.Cond.code (⟨"com/example/vez/vez/FieldSyntaxIsTokenCharPinLaw", "reference", "(I)Z"⟩ : MethodName) method_2_code 1 (some .boolean) :: ws) ({ frames := 0, cells := 0, slots := 0, locals := 0 } : Room)) (fun a U => a = #[(.int p0)] ∧ Z.Warmed39 U.vm ∧ U.heap = h0) (fun _ _ _ _ _ => True) (fun _ U o U' => ∃ v L, o = .returned v ∧ (QPure n0 h0 (.int (own_F2 p0))) v U'.heap L ∧ FrameEnd U o U' L ({ frames := 0, cells := 0, slots := 0, locals := 0 } : Room).cells ({ frames := 0, cells := 0, slots := 0, locals := 0 } : Room).slots) := by
  refine MetFree.of_bodySF (plainFor_of_name own_pn1) hisR ?_
  intro p e s m args below meth c s₁ Bd hml0 hP hK
  obtain ⟨rfl, hZ, hh⟩ := hP
  have hx := Bd.exec
  have hby := Bd.bytes
  have hml : c.maxLocals = 1 := hml0
  have hown : s.vm.findClass "com/example/vez/vez/FieldSyntaxIsTokenCharPinLaw" = some m.cls := findClass_of_methodNamed Bd.named
  have hnm := (name_of_methodNamed Bd.named Bd.method).1
  have X0 : Stand p l e ({ frames := 0, cells := 0, slots := 0, locals := 0 } : Room) s m #[(.int p0)] below meth c s₁ [] 0 0 := Stand.of_body Bd
  have e0 : s₁.heap = h0 := by rw [← hh, Bd.state]; rfl
  have N0 := Fr.nil n0
  suffices H : Run p.tables e below (FinR s ({ frames := 0, cells := 0, slots := 0, locals := 0 } : Room).cells ({ frames := 0, cells := 0, slots := 0, locals := 0 } : Room).slots (QPure n0 h0 (.int (own_F2 p0)))) s₁ (mkF m 0 #[.val (.int p0)] []) by
    obtain ⟨s₂, o, k1, k2, k3, k4⟩ := H
    exact ⟨s₂, o, castTop (own_ef2 m p0) k1, k2, k3, k4⟩
  obtain ⟨r, hr⟩ : ∃ r, r = own_F2 p0 := ⟨_, rfl⟩
  rw [← hr]
  have J137 : ∀ (y137_0 : Int32) (r : Int32), r = (own_f2_137 p0 y137_0) → ∀ (T : State) (locs : List Loc), Stand p l e ({ frames := 0, cells := 0, slots := 0, locals := 0 } : Room) s m #[(.int p0)] below meth c T locs 0 0 → T.heap = h0 → Fr n0 locs → Run p.tables e below (FinR s ({ frames := 0, cells := 0, slots := 0, locals := 0 } : Room).cells ({ frames := 0, cells := 0, slots := 0, locals := 0 } : Room).slots (QPure n0 h0 (.int r))) T (mkF m 137 #[.val (.int p0)] [(.int y137_0)]) := by
    clear hr
    intro y137_0 r hr T locs X eT N
    rw [own_f2_137] at hr
    exact Run.retSmall X hx (t := .boolean) (z' := (y137_0 &&& 1)) Bd.notSynchronized Bd.returns (by simp) rfl (hb hby own_d2_137) ⟨by rw [hr], N, eT⟩ (by decide) (by decide)
  have J132 : ∀  (r : Int32), r = (own_f2_132 p0) → ∀ (T : State) (locs : List Loc), Stand p l e ({ frames := 0, cells := 0, slots := 0, locals := 0 } : Room) s m #[(.int p0)] below meth c T locs 0 0 → T.heap = h0 → Fr n0 locs → Run p.tables e below (FinR s ({ frames := 0, cells := 0, slots := 0, locals := 0 } : Room).cells ({ frames := 0, cells := 0, slots := 0, locals := 0 } : Room).slots (QPure n0 h0 (.int r))) T (mkF m 132 #[.val (.int p0)] []) := by
    clear hr
    intro  r hr T locs X eT N
    rw [own_f2_132] at hr
    refine Run.iconst (pc' := 133) (v := (1 : Int32)) X hx (hb hby own_d2_132) rfl rfl ?_
    refine Run.goto (pc' := 137) X hx (hb hby own_d2_133) (by decide) (by decide) ?_
    exact J137 (1 : Int32) _ hr _ _ X eT N
  have J42 : ∀  (r : Int32), r = (own_f2_42 p0) → ∀ (T : State) (locs : List Loc), Stand p l e ({ frames := 0, cells := 0, slots := 0, locals := 0 } : Room) s m #[(.int p0)] below meth c T locs 0 0 → T.heap = h0 → Fr n0 locs → Run p.tables e below (FinR s ({ frames := 0, cells := 0, slots := 0, locals := 0 } : Room).cells ({ frames := 0, cells := 0, slots := 0, locals := 0 } : Room).slots (QPure n0 h0 (.int r))) T (mkF m 42 #[.val (.int p0)] []) := by
    clear hr
    intro  r hr T locs X eT N
    rw [own_f2_42] at hr
    refine Run.iloadN (pc' := 43) X hx (hb hby own_d2_42) rfl rfl ?_
    refine Run.bipush (pc' := 45) (v := (33 : Int32)) X hx (hb hby own_d2_43) rfl rfl ?_
    by_cases hc45 : p0 = (33 : Int32)
    · rw [if_pos hc45] at hr
      refine Run.icmpYes (pc' := 132) X hx (hb hby own_d2_45) (teq hc45).1 (by decide) (by decide) ?_
      exact J132  _ hr _ _ X eT N
    · rw [if_neg hc45] at hr
      refine Run.icmpNo (pc' := 48) X hx (hb hby own_d2_45) (feq hc45).1 rfl ?_
      refine Run.iloadN (pc' := 49) X hx (hb hby own_d2_48) rfl rfl ?_
      refine Run.bipush (pc' := 51) (v := (35 : Int32)) X hx (hb hby own_d2_49) rfl rfl ?_
      by_cases hc51 : p0 = (35 : Int32)
      · rw [if_pos hc51] at hr
        refine Run.icmpYes (pc' := 132) X hx (hb hby own_d2_51) (teq hc51).1 (by decide) (by decide) ?_
        exact J132  _ hr _ _ X eT N
      · rw [if_neg hc51] at hr
        refine Run.icmpNo (pc' := 54) X hx (hb hby own_d2_51) (feq hc51).1 rfl ?_
        refine Run.iloadN (pc' := 55) X hx (hb hby own_d2_54) rfl rfl ?_
        refine Run.bipush (pc' := 57) (v := (36 : Int32)) X hx (hb hby own_d2_55) rfl rfl ?_
        by_cases hc57 : p0 = (36 : Int32)
        · rw [if_pos hc57] at hr
          refine Run.icmpYes (pc' := 132) X hx (hb hby own_d2_57) (teq hc57).1 (by decide) (by decide) ?_
          exact J132  _ hr _ _ X eT N
        · rw [if_neg hc57] at hr
          refine Run.icmpNo (pc' := 60) X hx (hb hby own_d2_57) (feq hc57).1 rfl ?_
          refine Run.iloadN (pc' := 61) X hx (hb hby own_d2_60) rfl rfl ?_
          refine Run.bipush (pc' := 63) (v := (37 : Int32)) X hx (hb hby own_d2_61) rfl rfl ?_
          by_cases hc63 : p0 = (37 : Int32)
          · rw [if_pos hc63] at hr
            refine Run.icmpYes (pc' := 132) X hx (hb hby own_d2_63) (teq hc63).1 (by decide) (by decide) ?_
            exact J132  _ hr _ _ X eT N
          · rw [if_neg hc63] at hr
            refine Run.icmpNo (pc' := 66) X hx (hb hby own_d2_63) (feq hc63).1 rfl ?_
            refine Run.iloadN (pc' := 67) X hx (hb hby own_d2_66) rfl rfl ?_
            refine Run.bipush (pc' := 69) (v := (38 : Int32)) X hx (hb hby own_d2_67) rfl rfl ?_
            by_cases hc69 : p0 = (38 : Int32)
            · rw [if_pos hc69] at hr
              refine Run.icmpYes (pc' := 132) X hx (hb hby own_d2_69) (teq hc69).1 (by decide) (by decide) ?_
              exact J132  _ hr _ _ X eT N
            · rw [if_neg hc69] at hr
              refine Run.icmpNo (pc' := 72) X hx (hb hby own_d2_69) (feq hc69).1 rfl ?_
              refine Run.iloadN (pc' := 73) X hx (hb hby own_d2_72) rfl rfl ?_
              refine Run.bipush (pc' := 75) (v := (39 : Int32)) X hx (hb hby own_d2_73) rfl rfl ?_
              by_cases hc75 : p0 = (39 : Int32)
              · rw [if_pos hc75] at hr
                refine Run.icmpYes (pc' := 132) X hx (hb hby own_d2_75) (teq hc75).1 (by decide) (by decide) ?_
                exact J132  _ hr _ _ X eT N
              · rw [if_neg hc75] at hr
                refine Run.icmpNo (pc' := 78) X hx (hb hby own_d2_75) (feq hc75).1 rfl ?_
                refine Run.iloadN (pc' := 79) X hx (hb hby own_d2_78) rfl rfl ?_
                refine Run.bipush (pc' := 81) (v := (42 : Int32)) X hx (hb hby own_d2_79) rfl rfl ?_
                by_cases hc81 : p0 = (42 : Int32)
                · rw [if_pos hc81] at hr
                  refine Run.icmpYes (pc' := 132) X hx (hb hby own_d2_81) (teq hc81).1 (by decide) (by decide) ?_
                  exact J132  _ hr _ _ X eT N
                · rw [if_neg hc81] at hr
                  refine Run.icmpNo (pc' := 84) X hx (hb hby own_d2_81) (feq hc81).1 rfl ?_
                  refine Run.iloadN (pc' := 85) X hx (hb hby own_d2_84) rfl rfl ?_
                  refine Run.bipush (pc' := 87) (v := (43 : Int32)) X hx (hb hby own_d2_85) rfl rfl ?_
                  by_cases hc87 : p0 = (43 : Int32)
                  · rw [if_pos hc87] at hr
                    refine Run.icmpYes (pc' := 132) X hx (hb hby own_d2_87) (teq hc87).1 (by decide) (by decide) ?_
                    exact J132  _ hr _ _ X eT N
                  · rw [if_neg hc87] at hr
                    refine Run.icmpNo (pc' := 90) X hx (hb hby own_d2_87) (feq hc87).1 rfl ?_
                    refine Run.iloadN (pc' := 91) X hx (hb hby own_d2_90) rfl rfl ?_
                    refine Run.bipush (pc' := 93) (v := (45 : Int32)) X hx (hb hby own_d2_91) rfl rfl ?_
                    by_cases hc93 : p0 = (45 : Int32)
                    · rw [if_pos hc93] at hr
                      refine Run.icmpYes (pc' := 132) X hx (hb hby own_d2_93) (teq hc93).1 (by decide) (by decide) ?_
                      exact J132  _ hr _ _ X eT N
                    · rw [if_neg hc93] at hr
                      refine Run.icmpNo (pc' := 96) X hx (hb hby own_d2_93) (feq hc93).1 rfl ?_
                      refine Run.iloadN (pc' := 97) X hx (hb hby own_d2_96) rfl rfl ?_
                      refine Run.bipush (pc' := 99) (v := (46 : Int32)) X hx (hb hby own_d2_97) rfl rfl ?_
                      by_cases hc99 : p0 = (46 : Int32)
                      · rw [if_pos hc99] at hr
                        refine Run.icmpYes (pc' := 132) X hx (hb hby own_d2_99) (teq hc99).1 (by decide) (by decide) ?_
                        exact J132  _ hr _ _ X eT N
                      · rw [if_neg hc99] at hr
                        refine Run.icmpNo (pc' := 102) X hx (hb hby own_d2_99) (feq hc99).1 rfl ?_
                        refine Run.iloadN (pc' := 103) X hx (hb hby own_d2_102) rfl rfl ?_
                        refine Run.bipush (pc' := 105) (v := (94 : Int32)) X hx (hb hby own_d2_103) rfl rfl ?_
                        by_cases hc105 : p0 = (94 : Int32)
                        · rw [if_pos hc105] at hr
                          refine Run.icmpYes (pc' := 132) X hx (hb hby own_d2_105) (teq hc105).1 (by decide) (by decide) ?_
                          exact J132  _ hr _ _ X eT N
                        · rw [if_neg hc105] at hr
                          refine Run.icmpNo (pc' := 108) X hx (hb hby own_d2_105) (feq hc105).1 rfl ?_
                          refine Run.iloadN (pc' := 109) X hx (hb hby own_d2_108) rfl rfl ?_
                          refine Run.bipush (pc' := 111) (v := (95 : Int32)) X hx (hb hby own_d2_109) rfl rfl ?_
                          by_cases hc111 : p0 = (95 : Int32)
                          · rw [if_pos hc111] at hr
                            refine Run.icmpYes (pc' := 132) X hx (hb hby own_d2_111) (teq hc111).1 (by decide) (by decide) ?_
                            exact J132  _ hr _ _ X eT N
                          · rw [if_neg hc111] at hr
                            refine Run.icmpNo (pc' := 114) X hx (hb hby own_d2_111) (feq hc111).1 rfl ?_
                            refine Run.iloadN (pc' := 115) X hx (hb hby own_d2_114) rfl rfl ?_
                            refine Run.bipush (pc' := 117) (v := (96 : Int32)) X hx (hb hby own_d2_115) rfl rfl ?_
                            by_cases hc117 : p0 = (96 : Int32)
                            · rw [if_pos hc117] at hr
                              refine Run.icmpYes (pc' := 132) X hx (hb hby own_d2_117) (teq hc117).1 (by decide) (by decide) ?_
                              exact J132  _ hr _ _ X eT N
                            · rw [if_neg hc117] at hr
                              refine Run.icmpNo (pc' := 120) X hx (hb hby own_d2_117) (feq hc117).1 rfl ?_
                              refine Run.iloadN (pc' := 121) X hx (hb hby own_d2_120) rfl rfl ?_
                              refine Run.bipush (pc' := 123) (v := (124 : Int32)) X hx (hb hby own_d2_121) rfl rfl ?_
                              by_cases hc123 : p0 = (124 : Int32)
                              · rw [if_pos hc123] at hr
                                refine Run.icmpYes (pc' := 132) X hx (hb hby own_d2_123) (teq hc123).1 (by decide) (by decide) ?_
                                exact J132  _ hr _ _ X eT N
                              · rw [if_neg hc123] at hr
                                refine Run.icmpNo (pc' := 126) X hx (hb hby own_d2_123) (feq hc123).1 rfl ?_
                                refine Run.iloadN (pc' := 127) X hx (hb hby own_d2_126) rfl rfl ?_
                                refine Run.bipush (pc' := 129) (v := (126 : Int32)) X hx (hb hby own_d2_127) rfl rfl ?_
                                by_cases hc129 : p0 = (126 : Int32)
                                · rw [if_pos hc129] at hr
                                  refine Run.icmpNo (pc' := 132) X hx (hb hby own_d2_129) (teq hc129).2 rfl ?_
                                  exact J132  _ hr _ _ X eT N
                                · rw [if_neg hc129] at hr
                                  refine Run.icmpYes (pc' := 136) X hx (hb hby own_d2_129) (feq hc129).2 (by decide) (by decide) ?_
                                  refine Run.iconst (pc' := 137) (v := (0 : Int32)) X hx (hb hby own_d2_136) rfl rfl ?_
                                  exact J137 (0 : Int32) _ hr _ _ X eT N
  have J28 : ∀  (r : Int32), r = (own_f2_28 p0) → ∀ (T : State) (locs : List Loc), Stand p l e ({ frames := 0, cells := 0, slots := 0, locals := 0 } : Room) s m #[(.int p0)] below meth c T locs 0 0 → T.heap = h0 → Fr n0 locs → Run p.tables e below (FinR s ({ frames := 0, cells := 0, slots := 0, locals := 0 } : Room).cells ({ frames := 0, cells := 0, slots := 0, locals := 0 } : Room).slots (QPure n0 h0 (.int r))) T (mkF m 28 #[.val (.int p0)] []) := by
    clear hr
    intro  r hr T locs X eT N
    rw [own_f2_28] at hr
    refine Run.iloadN (pc' := 29) X hx (hb hby own_d2_28) rfl rfl ?_
    refine Run.bipush (pc' := 31) (v := (48 : Int32)) X hx (hb hby own_d2_29) rfl rfl ?_
    by_cases hc31 : p0 < (48 : Int32)
    · rw [if_pos hc31] at hr
      refine Run.icmpYes (pc' := 42) X hx (hb hby own_d2_31) (tlt hc31).1 (by decide) (by decide) ?_
      exact J42  _ hr _ _ X eT N
    · rw [if_neg hc31] at hr
      refine Run.icmpNo (pc' := 34) X hx (hb hby own_d2_31) (flt hc31).1 rfl ?_
      refine Run.iloadN (pc' := 35) X hx (hb hby own_d2_34) rfl rfl ?_
      refine Run.bipush (pc' := 37) (v := (57 : Int32)) X hx (hb hby own_d2_35) rfl rfl ?_
      by_cases hc37 : (57 : Int32) < p0
      · rw [if_pos hc37] at hr
        refine Run.icmpYes (pc' := 42) X hx (hb hby own_d2_37) (tlt hc37).2.2.1 (by decide) (by decide) ?_
        exact J42  _ hr _ _ X eT N
      · rw [if_neg hc37] at hr
        refine Run.icmpNo (pc' := 40) X hx (hb hby own_d2_37) (flt hc37).2.2.1 rfl ?_
        refine Run.iconst (pc' := 41) (v := (1 : Int32)) X hx (hb hby own_d2_40) rfl rfl ?_
        exact Run.retSmall X hx (t := .boolean) (z' := (1 : Int32)) Bd.notSynchronized Bd.returns (by simp) rfl (hb hby own_d2_41) ⟨by rw [hr], N, eT⟩ (by decide) (by decide)
  have J14 : ∀  (r : Int32), r = (own_f2_14 p0) → ∀ (T : State) (locs : List Loc), Stand p l e ({ frames := 0, cells := 0, slots := 0, locals := 0 } : Room) s m #[(.int p0)] below meth c T locs 0 0 → T.heap = h0 → Fr n0 locs → Run p.tables e below (FinR s ({ frames := 0, cells := 0, slots := 0, locals := 0 } : Room).cells ({ frames := 0, cells := 0, slots := 0, locals := 0 } : Room).slots (QPure n0 h0 (.int r))) T (mkF m 14 #[.val (.int p0)] []) := by
    clear hr
    intro  r hr T locs X eT N
    rw [own_f2_14] at hr
    refine Run.iloadN (pc' := 15) X hx (hb hby own_d2_14) rfl rfl ?_
    refine Run.bipush (pc' := 17) (v := (65 : Int32)) X hx (hb hby own_d2_15) rfl rfl ?_
    by_cases hc17 : p0 < (65 : Int32)
    · rw [if_pos hc17] at hr
      refine Run.icmpYes (pc' := 28) X hx (hb hby own_d2_17) (tlt hc17).1 (by decide) (by decide) ?_
      exact J28  _ hr _ _ X eT N
    · rw [if_neg hc17] at hr
      refine Run.icmpNo (pc' := 20) X hx (hb hby own_d2_17) (flt hc17).1 rfl ?_
      refine Run.iloadN (pc' := 21) X hx (hb hby own_d2_20) rfl rfl ?_
      refine Run.bipush (pc' := 23) (v := (90 : Int32)) X hx (hb hby own_d2_21) rfl rfl ?_
      by_cases hc23 : (90 : Int32) < p0
      · rw [if_pos hc23] at hr
        refine Run.icmpYes (pc' := 28) X hx (hb hby own_d2_23) (tlt hc23).2.2.1 (by decide) (by decide) ?_
        exact J28  _ hr _ _ X eT N
      · rw [if_neg hc23] at hr
        refine Run.icmpNo (pc' := 26) X hx (hb hby own_d2_23) (flt hc23).2.2.1 rfl ?_
        refine Run.iconst (pc' := 27) (v := (1 : Int32)) X hx (hb hby own_d2_26) rfl rfl ?_
        exact Run.retSmall X hx (t := .boolean) (z' := (1 : Int32)) Bd.notSynchronized Bd.returns (by simp) rfl (hb hby own_d2_27) ⟨by rw [hr], N, eT⟩ (by decide) (by decide)
  rw [own_F2] at hr
  refine Run.iloadN (pc' := 1) X0 hx (hb hby own_d2_0) rfl rfl ?_
  refine Run.bipush (pc' := 3) (v := (97 : Int32)) X0 hx (hb hby own_d2_1) rfl rfl ?_
  by_cases hc3 : p0 < (97 : Int32)
  · rw [if_pos hc3] at hr
    refine Run.icmpYes (pc' := 14) X0 hx (hb hby own_d2_3) (tlt hc3).1 (by decide) (by decide) ?_
    exact J14  _ hr _ _ X0 e0 N0
  · rw [if_neg hc3] at hr
    refine Run.icmpNo (pc' := 6) X0 hx (hb hby own_d2_3) (flt hc3).1 rfl ?_
    refine Run.iloadN (pc' := 7) X0 hx (hb hby own_d2_6) rfl rfl ?_
    refine Run.bipush (pc' := 9) (v := (122 : Int32)) X0 hx (hb hby own_d2_7) rfl rfl ?_
    by_cases hc9 : (122 : Int32) < p0
    · rw [if_pos hc9] at hr
      refine Run.icmpYes (pc' := 14) X0 hx (hb hby own_d2_9) (tlt hc9).2.2.1 (by decide) (by decide) ?_
      exact J14  _ hr _ _ X0 e0 N0
    · rw [if_neg hc9] at hr
      refine Run.icmpNo (pc' := 12) X0 hx (hb hby own_d2_9) (flt hc9).2.2.1 rfl ?_
      refine Run.iconst (pc' := 13) (v := (1 : Int32)) X0 hx (hb hby own_d2_12) rfl rfl ?_
      exact Run.retSmall X0 hx (t := .boolean) (z' := (1 : Int32)) Bd.notSynchronized Bd.returns (by simp) rfl (hb hby own_d2_13) ⟨by rw [hr], N0, e0⟩ (by decide) (by decide)
def own_T (j : Int32) : Int32 := (if j < (33 : Int32) then 0 else (if j < (34 : Int32) then 1 else (if j < (35 : Int32) then 0 else (if j < (40 : Int32) then 1 else (if j < (41 : Int32) then 0 else (if j < (42 : Int32) then 0 else (if j < (43 : Int32) then 1 else (if j < (44 : Int32) then 1 else (if j < (45 : Int32) then 0 else (if j < (46 : Int32) then 1 else (if j < (47 : Int32) then 1 else (if j < (48 : Int32) then 0 else (if j < (58 : Int32) then 1 else (if j < (65 : Int32) then 0 else (if j < (91 : Int32) then 1 else (if j < (92 : Int32) then 0 else (if j < (93 : Int32) then 0 else (if j < (94 : Int32) then 0 else (if j < (123 : Int32) then 1 else (if j < (124 : Int32) then 0 else (if j < (125 : Int32) then 1 else (if j < (126 : Int32) then 0 else (if j < (127 : Int32) then 1 else (if j < (128 : Int32) then 0 else 0))))))))))))))))))))))))
theorem own_T_of (f : Int32 → Int32) (t2 : ∀ j : Int32, ¬ j < 0 → j < 128 → (33 : Int32) ≤ j ∨ f j = 0) (t3 : f 33 = 1) (t4 : f 34 = 0) (t5 : ∀ j : Int32, ¬ j < 0 → j < 128 → j < (35 : Int32) ∨ ¬ j < (40 : Int32) ∨ f j = 1) (t6 : f 40 = 0) (t7 : f 41 = 0) (t8 : f 42 = 1) (t9 : f 43 = 1) (t10 : f 44 = 0) (t11 : f 45 = 1) (t12 : f 46 = 1) (t13 : f 47 = 0) (t14 : ∀ j : Int32, ¬ j < 0 → j < 128 → j < (48 : Int32) ∨ ¬ j < (58 : Int32) ∨ f j = 1) (t15 : ∀ j : Int32, ¬ j < 0 → j < 128 → j < (58 : Int32) ∨ ¬ j < (65 : Int32) ∨ f j = 0) (t16 : ∀ j : Int32, ¬ j < 0 → j < 128 → j < (65 : Int32) ∨ ¬ j < (91 : Int32) ∨ f j = 1) (t17 : f 91 = 0) (t18 : f 92 = 0) (t19 : f 93 = 0) (t20 : ∀ j : Int32, ¬ j < 0 → j < 128 → j < (94 : Int32) ∨ ¬ j < (123 : Int32) ∨ f j = 1) (t21 : f 123 = 0) (t22 : f 124 = 1) (t23 : f 125 = 0) (t24 : f 126 = 1) (t25 : f 127 = 0) (j : Int32) (h0 : ¬ j < 0) (h1 : j < 128) : f j = own_T j := by
  unfold own_T
  by_cases c33 : j < (33 : Int32)
  · rw [if_pos c33]
    exact (t2 j h0 h1).resolve_left (Int32.not_le.mpr c33)
  rw [if_neg c33]
  by_cases c34 : j < (34 : Int32)
  · rw [if_pos c34]
    have e : j = 33 := Int32.toInt_inj.mp (by have a := Int32.lt_iff_toInt_lt.mp c34; have b : ¬ j.toInt < (33 : Int32).toInt := fun q => c33 (Int32.lt_iff_toInt_lt.mpr q); have e1 : (33 : Int32).toInt = 33 := rfl; have e2 : (34 : Int32).toInt = 34 := rfl; omega)
    rw [e]; exact t3
  rw [if_neg c34]
  by_cases c35 : j < (35 : Int32)
  · rw [if_pos c35]
    have e : j = 34 := Int32.toInt_inj.mp (by have a := Int32.lt_iff_toInt_lt.mp c35; have b : ¬ j.toInt < (34 : Int32).toInt := fun q => c34 (Int32.lt_iff_toInt_lt.mpr q); have e1 : (34 : Int32).toInt = 34 := rfl; have e2 : (35 : Int32).toInt = 35 := rfl; omega)
    rw [e]; exact t4
  rw [if_neg c35]
  by_cases c40 : j < (40 : Int32)
  · rw [if_pos c40]
    exact ((t5 j h0 h1).resolve_left c35).resolve_left (fun q => q c40)
  rw [if_neg c40]
  by_cases c41 : j < (41 : Int32)
  · rw [if_pos c41]
    have e : j = 40 := Int32.toInt_inj.mp (by have a := Int32.lt_iff_toInt_lt.mp c41; have b : ¬ j.toInt < (40 : Int32).toInt := fun q => c40 (Int32.lt_iff_toInt_lt.mpr q); have e1 : (40 : Int32).toInt = 40 := rfl; have e2 : (41 : Int32).toInt = 41 := rfl; omega)
    rw [e]; exact t6
  rw [if_neg c41]
  by_cases c42 : j < (42 : Int32)
  · rw [if_pos c42]
    have e : j = 41 := Int32.toInt_inj.mp (by have a := Int32.lt_iff_toInt_lt.mp c42; have b : ¬ j.toInt < (41 : Int32).toInt := fun q => c41 (Int32.lt_iff_toInt_lt.mpr q); have e1 : (41 : Int32).toInt = 41 := rfl; have e2 : (42 : Int32).toInt = 42 := rfl; omega)
    rw [e]; exact t7
  rw [if_neg c42]
  by_cases c43 : j < (43 : Int32)
  · rw [if_pos c43]
    have e : j = 42 := Int32.toInt_inj.mp (by have a := Int32.lt_iff_toInt_lt.mp c43; have b : ¬ j.toInt < (42 : Int32).toInt := fun q => c42 (Int32.lt_iff_toInt_lt.mpr q); have e1 : (42 : Int32).toInt = 42 := rfl; have e2 : (43 : Int32).toInt = 43 := rfl; omega)
    rw [e]; exact t8
  rw [if_neg c43]
  by_cases c44 : j < (44 : Int32)
  · rw [if_pos c44]
    have e : j = 43 := Int32.toInt_inj.mp (by have a := Int32.lt_iff_toInt_lt.mp c44; have b : ¬ j.toInt < (43 : Int32).toInt := fun q => c43 (Int32.lt_iff_toInt_lt.mpr q); have e1 : (43 : Int32).toInt = 43 := rfl; have e2 : (44 : Int32).toInt = 44 := rfl; omega)
    rw [e]; exact t9
  rw [if_neg c44]
  by_cases c45 : j < (45 : Int32)
  · rw [if_pos c45]
    have e : j = 44 := Int32.toInt_inj.mp (by have a := Int32.lt_iff_toInt_lt.mp c45; have b : ¬ j.toInt < (44 : Int32).toInt := fun q => c44 (Int32.lt_iff_toInt_lt.mpr q); have e1 : (44 : Int32).toInt = 44 := rfl; have e2 : (45 : Int32).toInt = 45 := rfl; omega)
    rw [e]; exact t10
  rw [if_neg c45]
  by_cases c46 : j < (46 : Int32)
  · rw [if_pos c46]
    have e : j = 45 := Int32.toInt_inj.mp (by have a := Int32.lt_iff_toInt_lt.mp c46; have b : ¬ j.toInt < (45 : Int32).toInt := fun q => c45 (Int32.lt_iff_toInt_lt.mpr q); have e1 : (45 : Int32).toInt = 45 := rfl; have e2 : (46 : Int32).toInt = 46 := rfl; omega)
    rw [e]; exact t11
  rw [if_neg c46]
  by_cases c47 : j < (47 : Int32)
  · rw [if_pos c47]
    have e : j = 46 := Int32.toInt_inj.mp (by have a := Int32.lt_iff_toInt_lt.mp c47; have b : ¬ j.toInt < (46 : Int32).toInt := fun q => c46 (Int32.lt_iff_toInt_lt.mpr q); have e1 : (46 : Int32).toInt = 46 := rfl; have e2 : (47 : Int32).toInt = 47 := rfl; omega)
    rw [e]; exact t12
  rw [if_neg c47]
  by_cases c48 : j < (48 : Int32)
  · rw [if_pos c48]
    have e : j = 47 := Int32.toInt_inj.mp (by have a := Int32.lt_iff_toInt_lt.mp c48; have b : ¬ j.toInt < (47 : Int32).toInt := fun q => c47 (Int32.lt_iff_toInt_lt.mpr q); have e1 : (47 : Int32).toInt = 47 := rfl; have e2 : (48 : Int32).toInt = 48 := rfl; omega)
    rw [e]; exact t13
  rw [if_neg c48]
  by_cases c58 : j < (58 : Int32)
  · rw [if_pos c58]
    exact ((t14 j h0 h1).resolve_left c48).resolve_left (fun q => q c58)
  rw [if_neg c58]
  by_cases c65 : j < (65 : Int32)
  · rw [if_pos c65]
    exact ((t15 j h0 h1).resolve_left c58).resolve_left (fun q => q c65)
  rw [if_neg c65]
  by_cases c91 : j < (91 : Int32)
  · rw [if_pos c91]
    exact ((t16 j h0 h1).resolve_left c65).resolve_left (fun q => q c91)
  rw [if_neg c91]
  by_cases c92 : j < (92 : Int32)
  · rw [if_pos c92]
    have e : j = 91 := Int32.toInt_inj.mp (by have a := Int32.lt_iff_toInt_lt.mp c92; have b : ¬ j.toInt < (91 : Int32).toInt := fun q => c91 (Int32.lt_iff_toInt_lt.mpr q); have e1 : (91 : Int32).toInt = 91 := rfl; have e2 : (92 : Int32).toInt = 92 := rfl; omega)
    rw [e]; exact t17
  rw [if_neg c92]
  by_cases c93 : j < (93 : Int32)
  · rw [if_pos c93]
    have e : j = 92 := Int32.toInt_inj.mp (by have a := Int32.lt_iff_toInt_lt.mp c93; have b : ¬ j.toInt < (92 : Int32).toInt := fun q => c92 (Int32.lt_iff_toInt_lt.mpr q); have e1 : (92 : Int32).toInt = 92 := rfl; have e2 : (93 : Int32).toInt = 93 := rfl; omega)
    rw [e]; exact t18
  rw [if_neg c93]
  by_cases c94 : j < (94 : Int32)
  · rw [if_pos c94]
    have e : j = 93 := Int32.toInt_inj.mp (by have a := Int32.lt_iff_toInt_lt.mp c94; have b : ¬ j.toInt < (93 : Int32).toInt := fun q => c93 (Int32.lt_iff_toInt_lt.mpr q); have e1 : (93 : Int32).toInt = 93 := rfl; have e2 : (94 : Int32).toInt = 94 := rfl; omega)
    rw [e]; exact t19
  rw [if_neg c94]
  by_cases c123 : j < (123 : Int32)
  · rw [if_pos c123]
    exact ((t20 j h0 h1).resolve_left c94).resolve_left (fun q => q c123)
  rw [if_neg c123]
  by_cases c124 : j < (124 : Int32)
  · rw [if_pos c124]
    have e : j = 123 := Int32.toInt_inj.mp (by have a := Int32.lt_iff_toInt_lt.mp c124; have b : ¬ j.toInt < (123 : Int32).toInt := fun q => c123 (Int32.lt_iff_toInt_lt.mpr q); have e1 : (123 : Int32).toInt = 123 := rfl; have e2 : (124 : Int32).toInt = 124 := rfl; omega)
    rw [e]; exact t21
  rw [if_neg c124]
  by_cases c125 : j < (125 : Int32)
  · rw [if_pos c125]
    have e : j = 124 := Int32.toInt_inj.mp (by have a := Int32.lt_iff_toInt_lt.mp c125; have b : ¬ j.toInt < (124 : Int32).toInt := fun q => c124 (Int32.lt_iff_toInt_lt.mpr q); have e1 : (124 : Int32).toInt = 124 := rfl; have e2 : (125 : Int32).toInt = 125 := rfl; omega)
    rw [e]; exact t22
  rw [if_neg c125]
  by_cases c126 : j < (126 : Int32)
  · rw [if_pos c126]
    have e : j = 125 := Int32.toInt_inj.mp (by have a := Int32.lt_iff_toInt_lt.mp c126; have b : ¬ j.toInt < (125 : Int32).toInt := fun q => c125 (Int32.lt_iff_toInt_lt.mpr q); have e1 : (125 : Int32).toInt = 125 := rfl; have e2 : (126 : Int32).toInt = 126 := rfl; omega)
    rw [e]; exact t23
  rw [if_neg c126]
  by_cases c127 : j < (127 : Int32)
  · rw [if_pos c127]
    have e : j = 126 := Int32.toInt_inj.mp (by have a := Int32.lt_iff_toInt_lt.mp c127; have b : ¬ j.toInt < (126 : Int32).toInt := fun q => c126 (Int32.lt_iff_toInt_lt.mpr q); have e1 : (126 : Int32).toInt = 126 := rfl; have e2 : (127 : Int32).toInt = 127 := rfl; omega)
    rw [e]; exact t24
  rw [if_neg c127]
  by_cases c128 : j < (128 : Int32)
  · rw [if_pos c128]
    have e : j = 127 := Int32.toInt_inj.mp (by have a := Int32.lt_iff_toInt_lt.mp c128; have b : ¬ j.toInt < (127 : Int32).toInt := fun q => c127 (Int32.lt_iff_toInt_lt.mpr q); have e1 : (127 : Int32).toInt = 127 := rfl; have e2 : (128 : Int32).toInt = 128 := rfl; omega)
    rw [e]; exact t25
  rw [if_neg c128]
  exact absurd h1 c128
theorem own_no (c : Int32) (h : c < 0 ∨ ¬ c < 128) : own_f2_42 c = 0 := by
  have ne : ∀ k : Int32, 0 ≤ k.toInt → k.toInt < 128 → ¬ c = k := by
    rintro k h1 h2 rfl
    rw [Int32.lt_iff_toInt_lt, Int32.lt_iff_toInt_lt] at h
    have e0 : (0 : Int32).toInt = 0 := rfl
    have e1 : (128 : Int32).toInt = 128 := rfl
    omega
  rw [own_f2_42, if_neg (ne 33 (by decide) (by decide)), if_neg (ne 35 (by decide) (by decide)), if_neg (ne 36 (by decide) (by decide)), if_neg (ne 37 (by decide) (by decide)), if_neg (ne 38 (by decide) (by decide)), if_neg (ne 39 (by decide) (by decide)), if_neg (ne 42 (by decide) (by decide)), if_neg (ne 43 (by decide) (by decide)), if_neg (ne 45 (by decide) (by decide)), if_neg (ne 46 (by decide) (by decide)), if_neg (ne 94 (by decide) (by decide)), if_neg (ne 95 (by decide) (by decide)), if_neg (ne 96 (by decide) (by decide)), if_neg (ne 124 (by decide) (by decide)), if_neg (ne 126 (by decide) (by decide))]
  rfl
theorem own_out (c : Int32) (h : c < 0 ∨ ¬ c < 128) : own_F2 c = 0 := by
  have h42 := own_no c h
  simp only [own_F2, own_f2_14, own_f2_28, h42]
  simp only [Int32.lt_iff_toInt_lt] at *
  have e0 : (0 : Int32).toInt = 0 := rfl
  have e1 : (128 : Int32).toInt = 128 := rfl
  have e2 : (97 : Int32).toInt = 97 := rfl
  have e3 : (122 : Int32).toInt = 122 := rfl
  have e4 : (65 : Int32).toInt = 65 := rfl
  have e5 : (90 : Int32).toInt = 90 := rfl
  have e6 : (48 : Int32).toInt = 48 := rfl
  have e7 : (57 : Int32).toInt = 57 := rfl
  simp only [e0, e1, e2, e3, e4, e5, e6, e7] at *
  repeat' split
  all_goals first | rfl | omega
theorem own_law (c : Int32) : own_F1 c own_T = own_F2 c := by
  by_cases h0 : c < 0
  · rw [own_out c (Or.inl h0), own_F1, if_pos h0]; rfl
  by_cases h : c < 128
  · exact small_int 128 (by decide) (fun c => own_F1 c own_T = own_F2 c) (by decide +kernel) c h0 h
  · rw [own_out c (Or.inr h), own_F1, if_neg h0, if_neg h]; rfl

theorem own_ef0 (m : MethodId) (x0 : Int32) (x1 : Int32) : entryFrame m #[(.int x0), (.int x1)] maxLocals = mkF m 0 #[.val (.int x0), .val (.int x1), .unset] [] := by first | (simp [entryFrame, mkF, argsToLocals, Value.category, maxLocals]; done) | rfl
set_option maxRecDepth 65536 in
set_option maxHeartbeats 40000000 in
theorem rm0 (l : Launch) (Z : State) (a0 : Array Value) (hw : ∀ d ∈ tables_1, d.before a0 Z = true) (ws : List Jvm.Cond) (p0 : Int32) (p1 : Int32) (ta : Addr) (h0 : Heap) (n0 : Nat) (Z0 : n0 ≤ h0.size) (S_t : Sta Z h0 "com/example/vez/vez/FieldSyntax" "TOKEN_CHARS" "[Z" (.ref ta)) (A_t : Ints Z h0 ta .boolean (128 : Int32) own_T) :
    MetFree l x (head1 (Jvm.Cond.code x code maxLocals ret :: ws) room_1) (fun a U => a = #[(.int p0), (.int p1)] ∧ Z.Warmed39 U.vm ∧ U.heap = h0) (fun _ _ _ _ _ => True) (fun _ U o U' => ∃ v L, o = .returned v ∧ (fun v h L => v = some (.int 1) ∧ Fr n0 L) v U'.heap L ∧ FrameEnd U o U' L room_1.cells room_1.slots) := by
  refine MetFree.of_bodySF (plainFor_of_name own_pn1) hisR ?_
  intro p e s m args below meth c s₁ Bd hml0 hP hK
  obtain ⟨rfl, hZ, hh⟩ := hP
  have hx := Bd.exec
  have hby := Bd.bytes
  have hml : c.maxLocals = 3 := hml0
  have hown : s.vm.findClass "com/example/vez/vez/FieldSyntaxIsTokenCharPinLaw" = some m.cls := findClass_of_methodNamed Bd.named
  have hnm := (name_of_methodNamed Bd.named Bd.method).1
  have X0 : Stand p l e room_1 s m #[(.int p0), (.int p1)] below meth c s₁ [] 0 0 := Stand.of_body Bd
  have e0 : s₁.heap = h0 := by rw [← hh, Bd.state]; rfl
  have N0 := Fr.nil n0
  suffices H : Run p.tables e below (FinR s room_1.cells room_1.slots (fun v h L => v = some (.int 1) ∧ Fr n0 L)) s₁ (mkF m 0 #[.val (.int p0), .val (.int p1), .unset] []) by
    obtain ⟨s₂, o, k1, k2, k3, k4⟩ := H
    exact ⟨s₂, o, castTop (own_ef0 m p0 p1) k1, k2, k3, k4⟩
  refine Run.iloadN (pc' := 1) X0 hx (hb hby at_0) rfl rfl ?_
  refine Run.iconst (pc' := 2) (v := (1 : Int32)) X0 hx (hb hby at_1) rfl rfl ?_
  refine Run.iand (pc' := 3) X0 hx (hb hby at_2) rfl ?_
  by_cases hc3 : (p1 &&& (1 : Int32)) = (0 : Int32)
  · skip
    refine Run.ifYes (pc' := 11) X0 hx (hb hby at_3) ((if0 _ _).trans (teq hc3).1) (by decide) (by decide) ?_
    refine Run.iloadN (pc' := 12) X0 hx (hb hby at_11) rfl rfl ?_
    refine Run.sipush (pc' := 15) (v := (300 : Int32)) X0 hx (hb hby at_12) rfl rfl ?_
    refine Run.irem (pc' := 16) X0 hx (hb hby at_15) (by decide) rfl ?_
    refine Run.istoreN (pc' := 17) X0 hx (l' := #[.val (.int p0), .val (.int p1), .val (.int (p0 % (300 : Int32)))]) (hb hby at_16) rfl rfl ?_
    refine Run.iloadN (pc' := 18) X0 hx (hb hby at_17) rfl rfl ?_
    obtain ⟨T1, L1, v1, X1, Q1, st1⟩ := callStatic X0 hx (y := (⟨"com/example/vez/vez/FieldSyntax", "isTokenChar", "(I)Z"⟩ : MethodName)) (Ls := #[.val (.int p0), .val (.int p1), .val (.int (p0 % (300 : Int32)))]) (rest := []) (W := 0) (argsL := [(.int (p0 % (300 : Int32)))]) hZ hown (hw _ (List.mem_of_getElem? (i := 0) rfl)) (hw _ (List.mem_of_getElem? (i := 1) rfl)) (hw _ (List.mem_of_getElem? (i := 2) rfl)) (hw _ (List.mem_of_getElem? (i := 3) rfl)) (by decide) e0 (rm1 l Z a0 hw [] (p0 % (300 : Int32)) ta own_T h0 n0 Z0 S_t A_t) (hb hby at_18) (lenOf own_pd0 rfl) (by decide) (by decide) (by rw [hml]; rfl) (Nat.le_of_eq rfl) (by decide) (by decide)
    obtain ⟨rfl, M1, e1⟩ := Q1
    have N1 := Fr.app N0 M1
    refine Run.back (g' := (mkF m 21 #[.val (.int p0), .val (.int p1), .val (.int (p0 % (300 : Int32)))] [(.int (own_F1 (p0 % (300 : Int32)) own_T))])) st1 ?_
    refine Run.iloadN (pc' := 22) X1 hx (hb hby at_21) rfl rfl ?_
    obtain ⟨T2, L2, v2, X2, Q2, st2⟩ := callStatic X1 hx (y := (⟨"com/example/vez/vez/FieldSyntaxIsTokenCharPinLaw", "reference", "(I)Z"⟩ : MethodName)) (Ls := #[.val (.int p0), .val (.int p1), .val (.int (p0 % (300 : Int32)))]) (rest := [(.int (own_F1 (p0 % (300 : Int32)) own_T))]) (W := 1) (argsL := [(.int (p0 % (300 : Int32)))]) hZ hown (hw _ (List.mem_of_getElem? (i := 6) rfl)) (hw _ (List.mem_of_getElem? (i := 7) rfl)) (hw _ (List.mem_of_getElem? (i := 8) rfl)) (hw _ (List.mem_of_getElem? (i := 9) rfl)) (by decide) e1 (rm2 l Z a0 hw [] (p0 % (300 : Int32))  h0 n0 Z0 ) (hb hby at_22) (lenOf own_pd0 rfl) (by decide) (by decide) (by rw [hml]; rfl) (Nat.le_of_eq rfl) (by decide) (by decide)
    obtain ⟨rfl, M2, e2⟩ := Q2
    have N2 := Fr.app N1 M2
    refine Run.back (g' := (mkF m 25 #[.val (.int p0), .val (.int p1), .val (.int (p0 % (300 : Int32)))] [(.int (own_F2 (p0 % (300 : Int32)))), (.int (own_F1 (p0 % (300 : Int32)) own_T))])) st2 ?_
    refine Run.icmpNo (pc' := 28) X2 hx (hb hby at_25) (teq (own_law _)).2 rfl ?_
    refine Run.iconst (pc' := 29) (v := (1 : Int32)) X2 hx (hb hby at_28) rfl rfl ?_
    refine Run.goto (pc' := 33) X2 hx (hb hby at_29) (by decide) (by decide) ?_
    exact Run.retSmall X2 hx (t := .boolean) (z' := (1 : Int32)) Bd.notSynchronized Bd.returns (by simp) rfl (hb hby at_33) ⟨rfl, N2⟩ (by decide) (by decide)
  · skip
    refine Run.ifNo (pc' := 6) X0 hx (hb hby at_3) ((if0 _ _).trans (feq hc3).1) rfl ?_
    refine Run.iloadN (pc' := 7) X0 hx (hb hby at_6) rfl rfl ?_
    refine Run.istoreN (pc' := 8) X0 hx (l' := #[.val (.int p0), .val (.int p1), .val (.int p0)]) (hb hby at_7) rfl rfl ?_
    refine Run.goto (pc' := 17) X0 hx (hb hby at_8) (by decide) (by decide) ?_
    refine Run.iloadN (pc' := 18) X0 hx (hb hby at_17) rfl rfl ?_
    obtain ⟨T3, L3, v3, X3, Q3, st3⟩ := callStatic X0 hx (y := (⟨"com/example/vez/vez/FieldSyntax", "isTokenChar", "(I)Z"⟩ : MethodName)) (Ls := #[.val (.int p0), .val (.int p1), .val (.int p0)]) (rest := []) (W := 0) (argsL := [(.int p0)]) hZ hown (hw _ (List.mem_of_getElem? (i := 0) rfl)) (hw _ (List.mem_of_getElem? (i := 1) rfl)) (hw _ (List.mem_of_getElem? (i := 2) rfl)) (hw _ (List.mem_of_getElem? (i := 3) rfl)) (by decide) e0 (rm1 l Z a0 hw [] p0 ta own_T h0 n0 Z0 S_t A_t) (hb hby at_18) (lenOf own_pd0 rfl) (by decide) (by decide) (by rw [hml]; rfl) (Nat.le_of_eq rfl) (by decide) (by decide)
    obtain ⟨rfl, M3, e3⟩ := Q3
    have N3 := Fr.app N0 M3
    refine Run.back (g' := (mkF m 21 #[.val (.int p0), .val (.int p1), .val (.int p0)] [(.int (own_F1 p0 own_T))])) st3 ?_
    refine Run.iloadN (pc' := 22) X3 hx (hb hby at_21) rfl rfl ?_
    obtain ⟨T4, L4, v4, X4, Q4, st4⟩ := callStatic X3 hx (y := (⟨"com/example/vez/vez/FieldSyntaxIsTokenCharPinLaw", "reference", "(I)Z"⟩ : MethodName)) (Ls := #[.val (.int p0), .val (.int p1), .val (.int p0)]) (rest := [(.int (own_F1 p0 own_T))]) (W := 1) (argsL := [(.int p0)]) hZ hown (hw _ (List.mem_of_getElem? (i := 6) rfl)) (hw _ (List.mem_of_getElem? (i := 7) rfl)) (hw _ (List.mem_of_getElem? (i := 8) rfl)) (hw _ (List.mem_of_getElem? (i := 9) rfl)) (by decide) e3 (rm2 l Z a0 hw [] p0  h0 n0 Z0 ) (hb hby at_22) (lenOf own_pd0 rfl) (by decide) (by decide) (by rw [hml]; rfl) (Nat.le_of_eq rfl) (by decide) (by decide)
    obtain ⟨rfl, M4, e4⟩ := Q4
    have N4 := Fr.app N3 M4
    refine Run.back (g' := (mkF m 25 #[.val (.int p0), .val (.int p1), .val (.int p0)] [(.int (own_F2 p0)), (.int (own_F1 p0 own_T))])) st4 ?_
    refine Run.icmpNo (pc' := 28) X4 hx (hb hby at_25) (teq (own_law _)).2 rfl ?_
    refine Run.iconst (pc' := 29) (v := (1 : Int32)) X4 hx (hb hby at_28) rfl rfl ?_
    refine Run.goto (pc' := 33) X4 hx (hb hby at_29) (by decide) (by decide) ?_
    exact Run.retSmall X4 hx (t := .boolean) (z' := (1 : Int32)) Bd.notSynchronized Bd.returns (by simp) rfl (hb hby at_33) ⟨rfl, N4⟩ (by decide) (by decide)
set_option maxRecDepth 65536 in
set_option maxHeartbeats 40000000 in
theorem comes_1 {Post : Tables → Env → Array Value → State → Outcome → State → Prop} (hpost : ∀ tb e args s v u, (limb_1_1.after args s (.returned v) u = true ∧ limb_1_2.after args s (.returned v) u = true ∧ True) → FrameEnd s (.returned v) u (Jvm.fieldLocs frame_1_writes args s ++ Jvm.arrayLocs frame_1_arrays args s ++ Jvm.staticLocs frame_1_statics s) 0 0 → Post tb e args s (.returned v) u) :
    ArmFor flags0 classFile x code maxLocals ret World_1 tables_1 room_1 Calls_1 rest_1 Pre_1 Post := by
  intro l hfl _ _ p e ha hc hk s m args below hf hA hF happ hP
  obtain ⟨hcalls, hrest, hpre⟩ := hP
  obtain ⟨-, -, -, hnamed, -, -, -, hat⟩ := (Spec.applies_iff hf).mp happ
  obtain ⟨hg, hn⟩ := and_e (Cond.before_iff.mp (show (Jvm.Cond.and given_1 narrow_1).before args s = true from hpre))
  obtain ⟨hcount, hg0⟩ := and_e hg
  obtain ⟨ha0, hg1⟩ := and_e hg0
  obtain ⟨w0, w1, rfl⟩ : ∃ w0 w1 : Value, args = #[w0, w1] := by
    have hs : args.size = 2 := by simpa [Cond.value, given_1] using hcount
    obtain ⟨L⟩ := args
    match L, hs with
    | [w0, w1], _ => exact ⟨w0, w1, rfl⟩
  have hw := fun d (hd : d ∈ tables_1) => atoms_spec (ws := Jvm.Cond.code x code maxLocals ret :: tables_1) hat d (List.mem_cons_of_mem _ hd)
  have hfit : Fit s := fun {y c} hc i hi => by
    obtain ⟨ha, rfl⟩ := Array.getElem?_eq_some_iff.mp hc
    have q := List.all_eq_true.mp ((Array.all_eq_true_iff_forall_mem.mp hF) _ (Array.getElem_mem ha)) i (List.mem_range.mpr hi)
    simpa [Array.getElem?_eq_getElem hi] using q
  obtain ⟨i0, ei0⟩ := is_v ha0
  obtain rfl : w0 = (.int i0) := Option.some.inj ei0
  obtain ⟨i1, ei1⟩ := is_v hg1
  obtain rfl : w1 = (.int i1) := Option.some.inj ei1
  obtain ⟨n0, nr0⟩ := and_e hn
  obtain ⟨n1, nr1⟩ := and_e nr0
  obtain ⟨n2, nr2⟩ := and_e nr1
  obtain ⟨n3, nr3⟩ := and_e nr2
  obtain ⟨n4, nr4⟩ := and_e nr3
  obtain ⟨n5, nr5⟩ := and_e nr4
  obtain ⟨n6, nr6⟩ := and_e nr5
  obtain ⟨n7, nr7⟩ := and_e nr6
  obtain ⟨n8, nr8⟩ := and_e nr7
  obtain ⟨n9, nr9⟩ := and_e nr8
  obtain ⟨n10, nr10⟩ := and_e nr9
  obtain ⟨n11, nr11⟩ := and_e nr10
  obtain ⟨n12, nr12⟩ := and_e nr11
  obtain ⟨n13, nr13⟩ := and_e nr12
  obtain ⟨n14, nr14⟩ := and_e nr13
  obtain ⟨n15, nr15⟩ := and_e nr14
  obtain ⟨n16, nr16⟩ := and_e nr15
  obtain ⟨n17, nr17⟩ := and_e nr16
  obtain ⟨n18, nr18⟩ := and_e nr17
  obtain ⟨n19, nr19⟩ := and_e nr18
  obtain ⟨n20, nr20⟩ := and_e nr19
  obtain ⟨n21, nr21⟩ := and_e nr20
  obtain ⟨n22, nr22⟩ := and_e nr21
  obtain ⟨n23, nr23⟩ := and_e nr22
  obtain ⟨n24, nr24⟩ := and_e nr23
  have n25 := nr24
  obtain ⟨ta, et0⟩ := arr_v n0
  have et : ∀ idx, (Jvm.Term.static "com/example/vez/vez/FieldSyntax" "TOKEN_CHARS" "[Z").eval #[(.int i0), (.int i1)] s none idx s = some (.ref ta) := fun idx => by rw [← et0]; rfl
  obtain ⟨cl, Ar⟩ := Arr.start et0 n0
  have F0 := tab_start hfit et0 Ar n1 (by simp) (by decide)
  have t2 := tab_le et F0 n2
  have t3 := tab_one et F0 (by decide) (by decide) n3
  have t4 := tab_one et F0 (by decide) (by decide) n4
  have t5 := tab_in et F0 n5
  have t6 := tab_one et F0 (by decide) (by decide) n6
  have t7 := tab_one et F0 (by decide) (by decide) n7
  have t8 := tab_one et F0 (by decide) (by decide) n8
  have t9 := tab_one et F0 (by decide) (by decide) n9
  have t10 := tab_one et F0 (by decide) (by decide) n10
  have t11 := tab_one et F0 (by decide) (by decide) n11
  have t12 := tab_one et F0 (by decide) (by decide) n12
  have t13 := tab_one et F0 (by decide) (by decide) n13
  have t14 := tab_in et F0 n14
  have t15 := tab_in et F0 n15
  have t16 := tab_in et F0 n16
  have t17 := tab_one et F0 (by decide) (by decide) n17
  have t18 := tab_one et F0 (by decide) (by decide) n18
  have t19 := tab_one et F0 (by decide) (by decide) n19
  have t20 := tab_in et F0 n20
  have t21 := tab_one et F0 (by decide) (by decide) n21
  have t22 := tab_one et F0 (by decide) (by decide) n22
  have t23 := tab_one et F0 (by decide) (by decide) n23
  have t24 := tab_one et F0 (by decide) (by decide) n24
  have t25 := tab_one et F0 (by decide) (by decide) n25
  have A_t : Ints s s.heap ta .boolean 128 own_T := Ints.congr (tab_ints F0) (own_T_of (atv cl) t2 t3 t4 t5 t6 t7 t8 t9 t10 t11 t12 t13 t14 t15 t16 t17 t18 t19 t20 t21 t22 t23 t24 t25)
  have S_t : Sta s s.heap "com/example/vez/vez/FieldSyntax" "TOKEN_CHARS" "[Z" (.ref ta) := Sta.start et0 (Or.inr ⟨(hw _ (List.mem_of_getElem? (i := 2) rfl)), (hw _ (List.mem_of_getElem? (i := 5) rfl))⟩)
  obtain ⟨n, o, h1, h2, h3, _, L, rfl, ⟨rfl, N⟩, hq⟩ := rm0 l s _ hw tables_1 i0 i1 ta s.heap s.heap.size (Nat.le_refl _) S_t A_t p e ha hc hk s m _ below hf ((Spec.applies_iff_loose hf).mp happ).1 ⟨rfl, State.Warmed39.refl s, rfl⟩ trivial
  refine ⟨n, _, h1, h2, h3, hpost _ _ _ _ _ _ ⟨Cond.after_iff.mpr rfl, Cond.after_iff.mpr (eq_i res_at (Term.int_eval (1)) rfl), trivial⟩ ⟨hq.1, hq.2.1, (hq.2.2.sift fun y hy => Or.inr (N y hy)).mono (by decide) (by decide)⟩⟩
theorem main_1_1 : Claimed_1_1 := comes_1 fun _ _ _ _ _ _ h hF => ⟨h.1, hF⟩
theorem main_1_2 : Claimed_1_2 := comes_1 fun _ _ _ _ _ _ h hF => ⟨h.2.1, hF⟩
end Jvm.Pilot.@@N@@
namespace Jvm.Pilot.@@N@@
open Jvm Jvm.ClassFile Sem Op Lib Jvm.Free Jvm.Stand Jvm.Pilot.@@N@@.Jvm.D
/-! MADE BY PROGRAM (witnessworld.py) out of the Statement's table words and the real class files: 11 classes; the members and pool entries that the words name. The judged class is class 1, her method 2. -/
namespace start1
open Jvm.ClassFile
def u (s : String) : CpInfo := .utf8 (stringToUtf16 s)
/-- a pool by its gaps: so many unusable entries, then the entry; so many at the end -/
def gap : Nat → List CpInfo → List CpInfo
  | 0, r => r
  | n + 1, r => .unusable :: gap n r
def poolList (es : List (Nat × CpInfo)) (last : Nat) : List CpInfo := es.foldr (fun e r => gap e.1 (e.2 :: r)) (gap last [])
def pool (es : List (Nat × CpInfo)) (last : Nat) : Array CpInfo := ⟨poolList es last⟩
def fileOf (pool : Array CpInfo) (this : Nat) (attrs : Array Attribute := #[]) (ms : Array MethodInfo := #[]) (fl : Nat := 33) (sup : Nat := 0) (ifs : Array Nat := #[]) (fds : Array FieldInfo := #[]) : ClassFile where
  minorVersion := 0
  majorVersion := 65
  constantPool := pool
  accessFlags := fl
  thisClass := this
  superClass := sup
  interfaces := ifs
  fields := fds
  methods := ms
  attributes := attrs
def plain (name : String) (sup : Option ClassId) : Class where
  name := name
  kind := .ordinary
  loader := none
  accessFlags := 33
  super := sup
  interfaces := #[]
  cf := none
  fields := #[]
  methods := #[]
  instanceTypes := #[]
  staticTypes := #[]
  resolved := #[]
  callSites := []
  init := .initialized
  statics := none
  mirror := none

def pool0 : Array CpInfo := pool [(5, u "<init>"), (0, u "()V"), (1, .class_ 10), (1, u "java/lang/Object")] 113

def k0m0 : Method := { name := "<init>", desc := "()V", sig := { parameters := [], returnType := none }, accessFlags := 1, code := none }
/-- java/lang/Object -/
def k0 : Class := { plain "java/lang/Object" none with
  accessFlags := 33
  interfaces := #[]
  cf := some (fileOf pool0 8 #[] #[{ accessFlags := 1, nameIndex := 5, descriptorIndex := 6, attributes := #[] }] 33 0 #[] #[])
  fields := #[]
  methods := #[k0m0]
  instanceTypes := #[]
  staticTypes := #[]
  resolved := Array.replicate 124 none
  statics := none }

def pool1 : Array CpInfo := pool [(2, .class_ 4), (1, u "java/lang/Object"), (0, u "<init>"), (0, u "()V"), (0, .methodref 8 9), (0, .class_ 10), (0, .nameAndType 11 12), (0, u "com/example/vez/vez/FieldSyntax"), (0, u "isTokenChar"), (0, u "(I)Z"), (0, .methodref 14 15), (0, .class_ 16), (0, .nameAndType 17 12), (0, u "com/example/vez/vez/FieldSyntaxIsTokenCharPinLaw"), (0, u "reference"), (3, u "law"), (0, u "(II)Z")] 2

def k1m0 : Method := { name := "<init>", desc := "()V", sig := { parameters := [], returnType := none }, accessFlags := 2, code := none }
def k1c1 : Code := { maxStack := 2, maxLocals := 1, code := method_2_code, exceptionTable := #[], attributes := #[] }
def k1m1 : Method := { name := "reference", desc := "(I)Z", sig := { parameters := [.int], returnType := some .boolean }, accessFlags := 10, code := some k1c1 }
def k1c2 : Code := { maxStack := 2, maxLocals := 3, code := code, exceptionTable := #[], attributes := #[] }
def k1m2 : Method := { name := "law", desc := "(II)Z", sig := { parameters := [.int, .int], returnType := some .boolean }, accessFlags := 9, code := some k1c2 }
/-- com/example/vez/vez/FieldSyntaxIsTokenCharPinLaw -/
def k1 : Class := { plain "com/example/vez/vez/FieldSyntaxIsTokenCharPinLaw" (some 0) with
  accessFlags := 49
  interfaces := #[]
  cf := some (fileOf pool1 14 #[] #[{ accessFlags := 2, nameIndex := 5, descriptorIndex := 6, attributes := #[] }, { accessFlags := 10, nameIndex := 17, descriptorIndex := 12, attributes := #[] }, { accessFlags := 9, nameIndex := 21, descriptorIndex := 22, attributes := #[] }] 49 2 #[] #[])
  fields := #[]
  methods := #[k1m0, k1m1, k1m2]
  instanceTypes := #[]
  staticTypes := #[]
  resolved := Array.replicate 25 none
  statics := none }

def pool2 : Array CpInfo := pool [(2, .class_ 4), (1, u "java/lang/Object"), (0, u "<init>"), (0, u "()V"), (0, .fieldref 8 9), (0, .class_ 10), (0, .nameAndType 11 12), (0, u "com/example/vez/vez/FieldSyntax"), (0, u "TOKEN_CHARS"), (0, u "[Z"), (16, u "isTokenChar"), (0, u "(I)Z"), (6, u "TOKEN_SYMBOLS"), (0, u "Ljava/lang/String;")] 10

def k2m0 : Method := { name := "<init>", desc := "()V", sig := { parameters := [], returnType := none }, accessFlags := 2, code := none }
def k2c1 : Code := { maxStack := 2, maxLocals := 1, code := prog_7_method_2_code, exceptionTable := #[], attributes := #[] }
def k2m1 : Method := { name := "isTokenChar", desc := "(I)Z", sig := { parameters := [.int], returnType := some .boolean }, accessFlags := 9, code := some k2c1 }
/-- com/example/vez/vez/FieldSyntax -/
def k2 : Class := { plain "com/example/vez/vez/FieldSyntax" (some 0) with
  accessFlags := 49
  interfaces := #[]
  cf := some (fileOf pool2 8 #[] #[{ accessFlags := 2, nameIndex := 5, descriptorIndex := 6, attributes := #[] }, { accessFlags := 9, nameIndex := 29, descriptorIndex := 30, attributes := #[] }] 49 2 #[] #[{ accessFlags := 26, nameIndex := 37, descriptorIndex := 38, attributes := #[] }, { accessFlags := 26, nameIndex := 11, descriptorIndex := 12, attributes := #[] }])
  fields := #[{ name := "TOKEN_SYMBOLS", type := (.object "java/lang/String"), accessFlags := 26, slot := 0, constantValue := 0 }, { name := "TOKEN_CHARS", type := (.array .boolean), accessFlags := 26, slot := 1, constantValue := 0 }]
  methods := #[k2m0, k2m1]
  instanceTypes := #[]
  staticTypes := #[(.object "java/lang/String"), (.array .boolean)]
  resolved := Array.replicate 49 none
  statics := some 0 }

def pool3 : Array CpInfo := pool [(1, u "java/lang/Cloneable"), (0, .class_ 1), (0, u "java/lang/Object"), (0, .class_ 3)] 3

/-- java/lang/Cloneable -/
def k3 : Class := { plain "java/lang/Cloneable" (some 0) with
  accessFlags := 1537
  interfaces := #[]
  cf := some (fileOf pool3 2 #[] #[] 1537 4 #[] #[])
  fields := #[]
  methods := #[]
  instanceTypes := #[]
  staticTypes := #[]
  resolved := Array.replicate 8 none
  statics := none }

def pool4 : Array CpInfo := pool [(1, u "java/io/Serializable"), (0, .class_ 1), (0, u "java/lang/Object"), (0, .class_ 3)] 3

/-- java/io/Serializable -/
def k4 : Class := { plain "java/io/Serializable" (some 0) with
  accessFlags := 1537
  interfaces := #[]
  cf := some (fileOf pool4 2 #[] #[] 1537 4 #[] #[])
  fields := #[]
  methods := #[]
  instanceTypes := #[]
  staticTypes := #[]
  resolved := Array.replicate 8 none
  statics := none }

/-- the primitive boolean -/
def k5 : Class := { plain "boolean" none with kind := .primitive 'Z', accessFlags := 0x411 }
/-- [Z -/
def k6 : Class := { plain "[Z" (some 0) with kind := .array 5 .boolean, interfaces := #[3, 4], accessFlags := 1041 }

/-- the primitive byte -/
def k7 : Class := { plain "byte" none with kind := .primitive 'B', accessFlags := 0x411 }
/-- [B -/
def k8 : Class := { plain "[B" (some 0) with kind := .array 7 .byte, interfaces := #[3, 4], accessFlags := 1041 }

/-- the primitive int -/
def k9 : Class := { plain "int" none with kind := .primitive 'I', accessFlags := 0x411 }
/-- [I -/
def k10 : Class := { plain "[I" (some 0) with kind := .array 9 .int, interfaces := #[3, 4], accessFlags := 1041 }

def heap : Heap := #[{ cls := 2, slots := #[.null, .ref 1], vm := .statics 2 },
  { cls := 6, slots := #[.int 0, .int 0, .int 0, .int 0, .int 0, .int 0, .int 0, .int 0, .int 0, .int 0, .int 0, .int 0, .int 0, .int 0, .int 0, .int 0, .int 0, .int 0, .int 0, .int 0, .int 0, .int 0, .int 0, .int 0, .int 0, .int 0, .int 0, .int 0, .int 0, .int 0, .int 0, .int 0, .int 0, .int 1, .int 0, .int 1, .int 1, .int 1, .int 1, .int 1, .int 0, .int 0, .int 1, .int 1, .int 0, .int 1, .int 1, .int 0, .int 1, .int 1, .int 1, .int 1, .int 1, .int 1, .int 1, .int 1, .int 1, .int 1, .int 0, .int 0, .int 0, .int 0, .int 0, .int 0, .int 0, .int 1, .int 1, .int 1, .int 1, .int 1, .int 1, .int 1, .int 1, .int 1, .int 1, .int 1, .int 1, .int 1, .int 1, .int 1, .int 1, .int 1, .int 1, .int 1, .int 1, .int 1, .int 1, .int 1, .int 1, .int 1, .int 1, .int 0, .int 0, .int 0, .int 1, .int 1, .int 1, .int 1, .int 1, .int 1, .int 1, .int 1, .int 1, .int 1, .int 1, .int 1, .int 1, .int 1, .int 1, .int 1, .int 1, .int 1, .int 1, .int 1, .int 1, .int 1, .int 1, .int 1, .int 1, .int 1, .int 1, .int 1, .int 1, .int 0, .int 1, .int 0, .int 1, .int 0], vm := .none }]
def classes : Array Class := #[k0, k1, k2, k3, k4, k5, k6, k7, k8, k9, k10]
def interned : List (Array UInt16 × Addr) := []
def slotsUsed : Nat := 130
def theMethod : MethodId := ⟨1, 2⟩
def args0 : Array Value := #[.int 97, .int 1]
def aboutOver (below : List Frame) : State where
  vm := { classes := classes, interned := interned.toArray }
  heap := heap
  slotsUsed := slotsUsed
  threads := #[{ frames := .invoking theMethod args0 :: below }]
def below0 : List Frame := [.native { method := ⟨0, 0⟩, args := #[] }]
def about1 : State := aboutOver below0
def p0 : Program := .bare "" "" ""
def e0 : Env := launch0.env 0 0 0
theorem w_frames : about1.frames = Frame.invoking theMethod args0 :: below0 := rfl
set_option maxRecDepth 65536 in
theorem w_args : argsFit about1.vm theMethod args0 = true := by decide +kernel
set_option maxRecDepth 65536 in
theorem w_heap : heapFits about1 = true := by decide +kernel
set_option maxRecDepth 65536 in
theorem w_runnable : about1.curStatus? = some .runnable := by decide +kernel
set_option maxRecDepth 65536 in
theorem w_alone : about1.alone = true := by decide +kernel
set_option maxRecDepth 65536 in
theorem w_named : about1.methodNamed? x = some theMethod := by decide +kernel
set_option maxRecDepth 65536 in
theorem w_hears : about1.hears theMethod below0 = true := by decide +kernel
set_option maxRecDepth 65536 in
theorem w_ripe : about1.ripe theMethod args0 below0 = true := by decide +kernel
theorem w_running : about1.status = .running := rfl
set_option maxRecDepth 65536 in
theorem w_room : about1.hasRoom e0.platform room_1 = true :=
  launch0.hasRoom_least _ room_1 (by decide +kernel) (by decide +kernel) (by decide +kernel) (by decide +kernel) (by decide +kernel) (by decide +kernel)
theorem allAtoms_all (ts : List Jvm.Cond) (a : Array Jvm.Value) (st : Jvm.State) : (allAtoms ts).before a st = ts.all (fun c => c.before a st) := by
  induction ts with
  | nil => rfl
  | cons c t ih =>
    show (Jvm.Cond.and c (allAtoms t)).before a st = _
    rw [Jvm.Cond.before_and, ih, List.all_cons]
def words1 : List Jvm.Cond := Jvm.Cond.code x code maxLocals ret :: tables_1
/-- a 'code' word, met by the world's own term for the bytes: nothing is compared byte by byte -/
theorem code_word {y : MethodName} {bytes : ByteArray} {mx : Nat} {rt : Option FieldType} {a : Array Value} {s : State} {m : MethodId} {meth : Method} {c : Code} (h1 : s.methodNamed? y = some m) (h2 : s.vm.method? m = some meth) (h3 : meth.code = some c) (h4 : c.code = bytes)
    (h5 : (c.maxLocals == mx && c.exceptionTable.isEmpty && decide (c.maxStack ≤ mostOperands) && decide (meth.sig.returnType = rt) && !meth.locks && decide (parseMethodDescriptor y.desc = some meth.sig)) = true) : (Jvm.Cond.code y bytes mx rt).before a s = true := by
  simp only [Bool.and_eq_true, beq_iff_eq, Bool.not_eq_true', decide_eq_true_eq] at h5
  obtain ⟨⟨⟨⟨⟨g1, g2⟩, g3⟩, g4⟩, g5⟩, g6⟩ := h5
  simp [Cond.before, Cond.holds, Cond.value, h1, h2, h3, h4, g1, g2, g3, g4, g5, g6]
def isCode : Jvm.Cond → Bool
  | .code _ _ _ _ => true
  | _ => false
theorem all_split {L : List Jvm.Cond} {P : Jvm.Cond → Bool} (h1 : L.all (fun c => isCode c || P c) = true) (h2 : ∀ c ∈ L.filter isCode, P c = true) : L.all P = true := by
  refine List.all_eq_true.mpr fun c hc => ?_
  have h := List.all_eq_true.mp h1 c hc
  rcases Bool.eq_false_or_eq_true (isCode c) with hi | hi
  · exact h2 c (List.mem_filter.mpr ⟨hc, hi⟩)
  · simpa [hi] using h
set_option maxRecDepth 65536 in
theorem w_c0 : (Jvm.Cond.code x code maxLocals ret).before args0 about1 = true := code_word (m := ⟨1, 2⟩) (meth := k1m2) (c := k1c2) (by decide +kernel) rfl rfl rfl (by decide +kernel)
set_option maxRecDepth 65536 in
theorem w_c1 : (Jvm.Cond.code ({ cls := "com/example/vez/vez/FieldSyntax", name := "isTokenChar", desc := "(I)Z" } : Jvm.MethodName) prog_7_method_2_code (1 : Nat) (Option.some Jvm.ClassFile.FieldType.boolean)).before args0 about1 = true := code_word (m := ⟨2, 1⟩) (meth := k2m1) (c := k2c1) (by decide +kernel) rfl rfl rfl (by decide +kernel)
set_option maxRecDepth 65536 in
theorem w_c2 : (Jvm.Cond.code ({ cls := "com/example/vez/vez/FieldSyntaxIsTokenCharPinLaw", name := "reference", desc := "(I)Z" } : Jvm.MethodName) method_2_code (1 : Nat) (Option.some Jvm.ClassFile.FieldType.boolean)).before args0 about1 = true := code_word (m := ⟨1, 1⟩) (meth := k1m1) (c := k1c1) (by decide +kernel) rfl rfl rfl (by decide +kernel)
def codes1 : List Jvm.Cond := [Jvm.Cond.code x code maxLocals ret, Jvm.Cond.code ({ cls := "com/example/vez/vez/FieldSyntax", name := "isTokenChar", desc := "(I)Z" } : Jvm.MethodName) prog_7_method_2_code (1 : Nat) (Option.some Jvm.ClassFile.FieldType.boolean), Jvm.Cond.code ({ cls := "com/example/vez/vez/FieldSyntaxIsTokenCharPinLaw", name := "reference", desc := "(I)Z" } : Jvm.MethodName) method_2_code (1 : Nat) (Option.some Jvm.ClassFile.FieldType.boolean)]
set_option maxRecDepth 65536 in
theorem codes_eq : words1.filter isCode = codes1 := rfl
theorem w_codes : ∀ c ∈ words1.filter isCode, c.before args0 about1 = true := by
  rw [codes_eq]
  intro c hc
  simp only [codes1, List.mem_cons, List.not_mem_nil, or_false] at hc
  rcases hc with rfl | rfl | rfl
  · exact w_c0
  · exact w_c1
  · exact w_c2
set_option maxRecDepth 65536 in
theorem w_t1 : words1.all (fun c => isCode c || c.before args0 about1) = true := by decide +kernel
theorem w_tables : (allAtoms (Jvm.Cond.code x code maxLocals ret :: tables_1)).before args0 about1 = true := by
  rw [allAtoms_all]
  show words1.all (fun c => c.before args0 about1) = true
  refine all_split ?_ w_codes
  rw [w_t1]
set_option maxRecDepth 65536 in
theorem w_case : (Jvm.Cond.and given_1 narrow_1).before args0 about1 = true := by decide +kernel
theorem w_applies : (headSpec (Jvm.Cond.code x code maxLocals ret :: tables_1) room_1).applies x e0.platform about1 = true :=
  (Spec.applies_iff w_frames).mpr ⟨w_running, w_runnable, w_alone, w_named, w_hears, w_ripe, w_room, w_tables⟩
theorem atStart : AtStart classFile x code maxLocals ret World_1 tables_1 room_1 Calls_1 rest_1 Pre_1 launch0 p0 e0 about1 theMethod args0 below0 :=
  ⟨lists_1, trivial, launch0.admits_env _ _ _, launch0.least_env, fairChoices_fair.cas, fairChoices_fair.clock, w_frames, w_args, w_heap, w_applies, trivial, trivial, w_case⟩
end start1
theorem witness_1 : WitnessClaimed_1 := ⟨start1.p0, start1.e0, start1.about1, start1.theMethod, start1.args0, start1.below0, start1.atStart⟩
end Jvm.Pilot.@@N@@
