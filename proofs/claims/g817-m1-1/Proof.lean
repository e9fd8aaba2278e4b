import JvmDerived
import JvmDerived.Pilot.@@N@@Statement
import JvmDerived.Pilot.@@N@@Code
set_option linter.unusedVariables false
set_option linter.unusedSimpArgs false
namespace Jvm.OwnRun
open Sem ClassFile Op Lib Jvm.Stand Jvm.Free Jvm.LawKit Jvm.RoadKit
/-- from T with the top frame g the method's run ends as Φ says -/
def Run (tb : Tables) (e : Env) (below : List Frame) (Φ : Outcome → State → Prop) (T : State) (g : JFrame) : Prop := ∃ s₂ o, Steps tb e below (T.setTop g) s₂ ∧ s₂.status = .running ∧ Ended s₂ below o ∧ Φ o s₂
/-- what a contract asks of the end -/
def FinR (s : State) (K N : Nat) (Q : Option Value → Heap → List Loc → Prop) : Outcome → State → Prop := fun o u => ∃ v L, o = .returned v ∧ Q v u.heap L ∧ FrameEnd s o u L K N
section Steps
variable {p : Program} {l : Launch} {e : Env} {R : Room} {s : State} {m : MethodId} {args : Array Value} {below : List Frame} {meth : Method} {c : Code} {T : State} {locs : List Loc} {cells slots : Nat} {Φ : Outcome → State → Prop} {pc pc' : Nat} {Ls : Array Slot} {rest : List Value}
theorem Run.back {tb : Tables} {T' : State} {g g' : JFrame} (h : ∀ t, Steps tb e below (T'.setTop g') t → Steps tb e below (T.setTop g) t) (k : Run tb e below Φ T' g') : Run tb e below Φ T g := by
  obtain ⟨s₂, o, h1, h2⟩ := k
  exact ⟨s₂, o, h _ h1, h2⟩
theorem Run.fwd {tb : Tables} {T' : State} {g g' : JFrame} (h : Steps tb e below (T.setTop g) (T'.setTop g')) (k : Run tb e below Φ T' g') : Run tb e below Φ T g := k.back fun _ kt => h.trans kt
theorem Run.iload (X : Stand p l e R s m args below meth c T locs cells slots) (hx : p.tables.exec = Jvm.exec) {k : Nat} {v : Int32} (hd : decode c.code pc = .ok (.iload k, 2)) (hl : Ls[k]? = some (.val (.int v))) (hp : pc + 2 = pc') (k : Run p.tables e below Φ T (mkF m pc' Ls (.int v :: rest))) : Run p.tables e below Φ T (mkF m pc Ls rest) := by
  subst hp
  exact k.back fun _ kt => XS.iload X.here hx rfl hd hl kt
theorem Run.iloadN (X : Stand p l e R s m args below meth c T locs cells slots) (hx : p.tables.exec = Jvm.exec) {k : Fin 4} {v : Int32} (hd : decode c.code pc = .ok (.iload_n k, 1)) (hl : Ls[k.val]? = some (.val (.int v))) (hp : pc + 1 = pc') (k : Run p.tables e below Φ T (mkF m pc' Ls (.int v :: rest))) : Run p.tables e below Φ T (mkF m pc Ls rest) := by
  subst hp
  exact k.back fun _ kt => XS.iloadN X.here hx rfl hd hl kt
theorem Run.istore (X : Stand p l e R s m args below meth c T locs cells slots) (hx : p.tables.exec = Jvm.exec) {k : Nat} {v : Int32} {l' : Array Slot} (hd : decode c.code pc = .ok (.istore k, 2)) (hl : storeLocals Ls k (.int v) = some l') (hp : pc + 2 = pc') (k : Run p.tables e below Φ T (mkF m pc' l' rest)) : Run p.tables e below Φ T (mkF m pc Ls (.int v :: rest)) := by
  subst hp
  exact k.back fun _ kt => XS.istore X.here hx rfl hd rfl hl kt
theorem Run.istoreN (X : Stand p l e R s m args below meth c T locs cells slots) (hx : p.tables.exec = Jvm.exec) {k : Fin 4} {v : Int32} {l' : Array Slot} (hd : decode c.code pc = .ok (.istore_n k, 1)) (hl : storeLocals Ls k.val (.int v) = some l') (hp : pc + 1 = pc') (k : Run p.tables e below Φ T (mkF m pc' l' rest)) : Run p.tables e below Φ T (mkF m pc Ls (.int v :: rest)) := by
  subst hp
  exact k.back fun _ kt => XS.istoreN X.here hx rfl hd rfl hl kt
theorem Run.lload (X : Stand p l e R s m args below meth c T locs cells slots) (hx : p.tables.exec = Jvm.exec) {k : Nat} {v : Int64} (hd : decode c.code pc = .ok (.lload k, 2)) (hl : Ls[k]? = some (.val (.long v))) (hp : pc + 2 = pc') (k : Run p.tables e below Φ T (mkF m pc' Ls (.long v :: rest))) : Run p.tables e below Φ T (mkF m pc Ls rest) := by
  subst hp
  exact k.back fun _ kt => XS.lload X.here hx rfl hd hl kt
theorem Run.lloadN (X : Stand p l e R s m args below meth c T locs cells slots) (hx : p.tables.exec = Jvm.exec) {k : Fin 4} {v : Int64} (hd : decode c.code pc = .ok (.lload_n k, 1)) (hl : Ls[k.val]? = some (.val (.long v))) (hp : pc + 1 = pc') (k : Run p.tables e below Φ T (mkF m pc' Ls (.long v :: rest))) : Run p.tables e below Φ T (mkF m pc Ls rest) := by
  subst hp
  exact k.back fun _ kt => XS.lloadN X.here hx rfl hd hl kt
theorem Run.lstore (X : Stand p l e R s m args below meth c T locs cells slots) (hx : p.tables.exec = Jvm.exec) {k : Nat} {v : Int64} {l' : Array Slot} (hd : decode c.code pc = .ok (.lstore k, 2)) (hl : storeLocals Ls k (.long v) = some l') (hp : pc + 2 = pc') (k : Run p.tables e below Φ T (mkF m pc' l' rest)) : Run p.tables e below Φ T (mkF m pc Ls (.long v :: rest)) := by
  subst hp
  exact k.back fun _ kt => XS.lstore X.here hx rfl hd rfl hl kt
theorem Run.lstoreN (X : Stand p l e R s m args below meth c T locs cells slots) (hx : p.tables.exec = Jvm.exec) {k : Fin 4} {v : Int64} {l' : Array Slot} (hd : decode c.code pc = .ok (.lstore_n k, 1)) (hl : storeLocals Ls k.val (.long v) = some l') (hp : pc + 1 = pc') (k : Run p.tables e below Φ T (mkF m pc' l' rest)) : Run p.tables e below Φ T (mkF m pc Ls (.long v :: rest)) := by
  subst hp
  exact k.back fun _ kt => XS.lstoreN X.here hx rfl hd rfl hl kt
theorem Run.aload (X : Stand p l e R s m args below meth c T locs cells slots) (hx : p.tables.exec = Jvm.exec) {k : Nat} {v : Addr} (hd : decode c.code pc = .ok (.aload k, 2)) (hl : Ls[k]? = some (.val (.ref v))) (hp : pc + 2 = pc') (k : Run p.tables e below Φ T (mkF m pc' Ls (.ref v :: rest))) : Run p.tables e below Φ T (mkF m pc Ls rest) := by
  subst hp
  exact k.back fun _ kt => XS.aload X.here hx rfl hd hl rfl kt
theorem Run.aloadN (X : Stand p l e R s m args below meth c T locs cells slots) (hx : p.tables.exec = Jvm.exec) {k : Fin 4} {v : Addr} (hd : decode c.code pc = .ok (.aload_n k, 1)) (hl : Ls[k.val]? = some (.val (.ref v))) (hp : pc + 1 = pc') (k : Run p.tables e below Φ T (mkF m pc' Ls (.ref v :: rest))) : Run p.tables e below Φ T (mkF m pc Ls rest) := by
  subst hp
  exact k.back fun _ kt => XS.aloadN X.here hx rfl hd hl rfl kt
theorem Run.astore (X : Stand p l e R s m args below meth c T locs cells slots) (hx : p.tables.exec = Jvm.exec) {k : Nat} {v : Addr} {l' : Array Slot} (hd : decode c.code pc = .ok (.astore k, 2)) (hl : storeLocals Ls k (.ref v) = some l') (hp : pc + 2 = pc') (k : Run p.tables e below Φ T (mkF m pc' l' rest)) : Run p.tables e below Φ T (mkF m pc Ls (.ref v :: rest)) := by
  subst hp
  exact k.back fun _ kt => XS.astore X.here hx rfl hd rfl rfl hl kt
theorem Run.astoreN (X : Stand p l e R s m args below meth c T locs cells slots) (hx : p.tables.exec = Jvm.exec) {k : Fin 4} {v : Addr} {l' : Array Slot} (hd : decode c.code pc = .ok (.astore_n k, 1)) (hl : storeLocals Ls k.val (.ref v) = some l') (hp : pc + 1 = pc') (k : Run p.tables e below Φ T (mkF m pc' l' rest)) : Run p.tables e below Φ T (mkF m pc Ls (.ref v :: rest)) := by
  subst hp
  exact k.back fun _ kt => XS.astoreN X.here hx rfl hd rfl rfl hl kt
theorem Run.iconst (X : Stand p l e R s m args below meth c T locs cells slots) (hx : p.tables.exec = Jvm.exec) {i : Int} {v : Int32} (hd : decode c.code pc = .ok (.iconst i, 1)) (hv : Int32.ofInt i = v) (hp : pc + 1 = pc') (k : Run p.tables e below Φ T (mkF m pc' Ls (.int v :: rest))) : Run p.tables e below Φ T (mkF m pc Ls rest) := by
  subst hp
  exact k.back fun _ kt => XS.iconst X.here hx rfl hd (by rw [hv]; exact kt)
theorem Run.bipush (X : Stand p l e R s m args below meth c T locs cells slots) (hx : p.tables.exec = Jvm.exec) {i : Int} {v : Int32} (hd : decode c.code pc = .ok (.bipush i, 2)) (hv : (Int8.ofInt i).toInt32 = v) (hp : pc + 2 = pc') (k : Run p.tables e below Φ T (mkF m pc' Ls (.int v :: rest))) : Run p.tables e below Φ T (mkF m pc Ls rest) := by
  subst hp
  exact k.back fun _ kt => XS.bipush X.here hx rfl hd (by rw [hv]; exact kt)
theorem Run.sipush (X : Stand p l e R s m args below meth c T locs cells slots) (hx : p.tables.exec = Jvm.exec) {i : Int} {v : Int32} (hd : decode c.code pc = .ok (.sipush i, 3)) (hv : (Int16.ofInt i).toInt32 = v) (hp : pc + 3 = pc') (k : Run p.tables e below Φ T (mkF m pc' Ls (.int v :: rest))) : Run p.tables e below Φ T (mkF m pc Ls rest) := by
  subst hp
  exact k.back fun _ kt => XS.sipush X.here hx rfl hd (by rw [hv]; exact kt)
theorem Run.lconst (X : Stand p l e R s m args below meth c T locs cells slots) (hx : p.tables.exec = Jvm.exec) {i : Fin 2} {v : Int64} (hd : decode c.code pc = .ok (.lconst i, 1)) (hv : Int64.ofNat i = v) (hp : pc + 1 = pc') (k : Run p.tables e below Φ T (mkF m pc' Ls (.long v :: rest))) : Run p.tables e below Φ T (mkF m pc Ls rest) := by
  subst hp
  exact k.back fun _ kt => XS.lconst X.here hx rfl hd (by first | (rw [hv]; exact kt) | (rw [← hv] at kt; exact kt))
theorem Run.aconstNull (X : Stand p l e R s m args below meth c T locs cells slots) (hx : p.tables.exec = Jvm.exec) (hd : decode c.code pc = .ok (.aconst_null, 1)) (hp : pc + 1 = pc') (k : Run p.tables e below Φ T (mkF m pc' Ls (.null :: rest))) : Run p.tables e below Φ T (mkF m pc Ls rest) := by
  subst hp
  exact k.back fun _ kt => XS.aconstNull X.here hx rfl hd kt
theorem Run.iadd (X : Stand p l e R s m args below meth c T locs cells slots) (hx : p.tables.exec = Jvm.exec) {x y : Int32} (hd : decode c.code pc = .ok (.iadd, 1)) (hp : pc + 1 = pc') (k : Run p.tables e below Φ T (mkF m pc' Ls (.int (x + y) :: rest))) : Run p.tables e below Φ T (mkF m pc Ls (.int y :: .int x :: rest)) := by
  subst hp
  exact k.back fun _ kt => XS.iadd X.here hx rfl hd rfl kt
theorem Run.isub (X : Stand p l e R s m args below meth c T locs cells slots) (hx : p.tables.exec = Jvm.exec) {x y : Int32} (hd : decode c.code pc = .ok (.isub, 1)) (hp : pc + 1 = pc') (k : Run p.tables e below Φ T (mkF m pc' Ls (.int (x - y) :: rest))) : Run p.tables e below Φ T (mkF m pc Ls (.int y :: .int x :: rest)) := by
  subst hp
  exact k.back fun _ kt => XS.isub X.here hx rfl hd rfl kt
theorem Run.imul (X : Stand p l e R s m args below meth c T locs cells slots) (hx : p.tables.exec = Jvm.exec) {x y : Int32} (hd : decode c.code pc = .ok (.imul, 1)) (hp : pc + 1 = pc') (k : Run p.tables e below Φ T (mkF m pc' Ls (.int (x * y) :: rest))) : Run p.tables e below Φ T (mkF m pc Ls (.int y :: .int x :: rest)) := by
  subst hp
  exact k.back fun _ kt => XS.imul X.here hx rfl hd rfl kt
theorem Run.iand (X : Stand p l e R s m args below meth c T locs cells slots) (hx : p.tables.exec = Jvm.exec) {x y : Int32} (hd : decode c.code pc = .ok (.iand, 1)) (hp : pc + 1 = pc') (k : Run p.tables e below Φ T (mkF m pc' Ls (.int (x &&& y) :: rest))) : Run p.tables e below Φ T (mkF m pc Ls (.int y :: .int x :: rest)) := by
  subst hp
  exact k.back fun _ kt => XS.iand X.here hx rfl hd rfl kt
theorem Run.ior (X : Stand p l e R s m args below meth c T locs cells slots) (hx : p.tables.exec = Jvm.exec) {x y : Int32} (hd : decode c.code pc = .ok (.ior, 1)) (hp : pc + 1 = pc') (k : Run p.tables e below Φ T (mkF m pc' Ls (.int (x ||| y) :: rest))) : Run p.tables e below Φ T (mkF m pc Ls (.int y :: .int x :: rest)) := by
  subst hp
  exact k.back fun _ kt => XS.ior X.here hx rfl hd rfl kt
theorem Run.ixor (X : Stand p l e R s m args below meth c T locs cells slots) (hx : p.tables.exec = Jvm.exec) {x y : Int32} (hd : decode c.code pc = .ok (.ixor, 1)) (hp : pc + 1 = pc') (k : Run p.tables e below Φ T (mkF m pc' Ls (.int (x ^^^ y) :: rest))) : Run p.tables e below Φ T (mkF m pc Ls (.int y :: .int x :: rest)) := by
  subst hp
  exact k.back fun _ kt => XS.ixor X.here hx rfl hd rfl kt
theorem Run.idiv (X : Stand p l e R s m args below meth c T locs cells slots) (hx : p.tables.exec = Jvm.exec) {x y : Int32} (hd : decode c.code pc = .ok (.idiv, 1)) (hy : y ≠ 0) (hp : pc + 1 = pc') (k : Run p.tables e below Φ T (mkF m pc' Ls (.int (x / y) :: rest))) : Run p.tables e below Φ T (mkF m pc Ls (.int y :: .int x :: rest)) := by
  subst hp
  exact k.back fun _ kt => XS.idiv X.here hx rfl hd rfl hy kt
theorem Run.ladd (X : Stand p l e R s m args below meth c T locs cells slots) (hx : p.tables.exec = Jvm.exec) {x y : Int64} (hd : decode c.code pc = .ok (.ladd, 1)) (hp : pc + 1 = pc') (k : Run p.tables e below Φ T (mkF m pc' Ls (.long (x + y) :: rest))) : Run p.tables e below Φ T (mkF m pc Ls (.long y :: .long x :: rest)) := by
  subst hp
  exact k.back fun _ kt => XS.ladd X.here hx rfl hd rfl kt
theorem Run.lsub (X : Stand p l e R s m args below meth c T locs cells slots) (hx : p.tables.exec = Jvm.exec) {x y : Int64} (hd : decode c.code pc = .ok (.lsub, 1)) (hp : pc + 1 = pc') (k : Run p.tables e below Φ T (mkF m pc' Ls (.long (x - y) :: rest))) : Run p.tables e below Φ T (mkF m pc Ls (.long y :: .long x :: rest)) := by
  subst hp
  exact k.back fun _ kt => XS.lsub X.here hx rfl hd rfl kt
theorem Run.lmul (X : Stand p l e R s m args below meth c T locs cells slots) (hx : p.tables.exec = Jvm.exec) {x y : Int64} (hd : decode c.code pc = .ok (.lmul, 1)) (hp : pc + 1 = pc') (k : Run p.tables e below Φ T (mkF m pc' Ls (.long (x * y) :: rest))) : Run p.tables e below Φ T (mkF m pc Ls (.long y :: .long x :: rest)) := by
  subst hp
  exact k.back fun _ kt => XS.lmul X.here hx rfl hd rfl kt
theorem Run.land (X : Stand p l e R s m args below meth c T locs cells slots) (hx : p.tables.exec = Jvm.exec) {x y : Int64} (hd : decode c.code pc = .ok (.land, 1)) (hp : pc + 1 = pc') (k : Run p.tables e below Φ T (mkF m pc' Ls (.long (x &&& y) :: rest))) : Run p.tables e below Φ T (mkF m pc Ls (.long y :: .long x :: rest)) := by
  subst hp
  exact k.back fun _ kt => XS.land X.here hx rfl hd rfl kt
theorem Run.lor (X : Stand p l e R s m args below meth c T locs cells slots) (hx : p.tables.exec = Jvm.exec) {x y : Int64} (hd : decode c.code pc = .ok (.lor, 1)) (hp : pc + 1 = pc') (k : Run p.tables e below Φ T (mkF m pc' Ls (.long (x ||| y) :: rest))) : Run p.tables e below Φ T (mkF m pc Ls (.long y :: .long x :: rest)) := by
  subst hp
  exact k.back fun _ kt => XS.lor X.here hx rfl hd rfl kt
theorem Run.lxor (X : Stand p l e R s m args below meth c T locs cells slots) (hx : p.tables.exec = Jvm.exec) {x y : Int64} (hd : decode c.code pc = .ok (.lxor, 1)) (hp : pc + 1 = pc') (k : Run p.tables e below Φ T (mkF m pc' Ls (.long (x ^^^ y) :: rest))) : Run p.tables e below Φ T (mkF m pc Ls (.long y :: .long x :: rest)) := by
  subst hp
  exact k.back fun _ kt => XS.lxor X.here hx rfl hd rfl kt
theorem Run.ldiv (X : Stand p l e R s m args below meth c T locs cells slots) (hx : p.tables.exec = Jvm.exec) {x y : Int64} (hd : decode c.code pc = .ok (.ldiv, 1)) (hy : y ≠ 0) (hp : pc + 1 = pc') (k : Run p.tables e below Φ T (mkF m pc' Ls (.long (x / y) :: rest))) : Run p.tables e below Φ T (mkF m pc Ls (.long y :: .long x :: rest)) := by
  subst hp
  exact k.back fun _ kt => XS.ldiv X.here hx rfl hd rfl hy kt
theorem Run.irem (X : Stand p l e R s m args below meth c T locs cells slots) (hx : p.tables.exec = Jvm.exec) {x y : Int32} (hd : decode c.code pc = .ok (.irem, 1)) (hy : y ≠ 0) (hp : pc + 1 = pc') (k : Run p.tables e below Φ T (mkF m pc' Ls (.int (x % y) :: rest))) : Run p.tables e below Φ T (mkF m pc Ls (.int y :: .int x :: rest)) := by
  subst hp
  exact k.back fun _ kt => iremM X hx rfl hd rfl hy kt
theorem Run.ishl (X : Stand p l e R s m args below meth c T locs cells slots) (hx : p.tables.exec = Jvm.exec) {x : Int32} {y : Int32} (hd : decode c.code pc = .ok (.ishl, 1)) (hp : pc + 1 = pc') (k : Run p.tables e below Φ T (mkF m pc' Ls (.int (x <<< (y &&& 31)) :: rest))) : Run p.tables e below Φ T (mkF m pc Ls (.int y :: .int x :: rest)) := by
  subst hp
  exact k.back fun _ kt => XS.ishl X.here hx rfl hd rfl kt
theorem Run.ishr (X : Stand p l e R s m args below meth c T locs cells slots) (hx : p.tables.exec = Jvm.exec) {x : Int32} {y : Int32} (hd : decode c.code pc = .ok (.ishr, 1)) (hp : pc + 1 = pc') (k : Run p.tables e below Φ T (mkF m pc' Ls (.int (x >>> (y &&& 31)) :: rest))) : Run p.tables e below Φ T (mkF m pc Ls (.int y :: .int x :: rest)) := by
  subst hp
  exact k.back fun _ kt => XS.ishr X.here hx rfl hd rfl kt
theorem Run.iushr (X : Stand p l e R s m args below meth c T locs cells slots) (hx : p.tables.exec = Jvm.exec) {x : Int32} {y : Int32} (hd : decode c.code pc = .ok (.iushr, 1)) (hp : pc + 1 = pc') (k : Run p.tables e below Φ T (mkF m pc' Ls (.int ((x.toUInt32 >>> (y &&& 31).toUInt32).toInt32) :: rest))) : Run p.tables e below Φ T (mkF m pc Ls (.int y :: .int x :: rest)) := by
  subst hp
  exact k.back fun _ kt => XS.iushr X.here hx rfl hd rfl kt
theorem Run.lshl (X : Stand p l e R s m args below meth c T locs cells slots) (hx : p.tables.exec = Jvm.exec) {x : Int64} {y : Int32} (hd : decode c.code pc = .ok (.lshl, 1)) (hp : pc + 1 = pc') (k : Run p.tables e below Φ T (mkF m pc' Ls (.long (x <<< (y &&& 0x3f).toInt64) :: rest))) : Run p.tables e below Φ T (mkF m pc Ls (.int y :: .long x :: rest)) := by
  subst hp
  exact k.back fun _ kt => XS.lshl X.here hx rfl hd rfl kt
theorem Run.lshr (X : Stand p l e R s m args below meth c T locs cells slots) (hx : p.tables.exec = Jvm.exec) {x : Int64} {y : Int32} (hd : decode c.code pc = .ok (.lshr, 1)) (hp : pc + 1 = pc') (k : Run p.tables e below Φ T (mkF m pc' Ls (.long (x >>> (y &&& 0x3f).toInt64) :: rest))) : Run p.tables e below Φ T (mkF m pc Ls (.int y :: .long x :: rest)) := by
  subst hp
  exact k.back fun _ kt => XS.lshr X.here hx rfl hd rfl kt
theorem Run.lushr (X : Stand p l e R s m args below meth c T locs cells slots) (hx : p.tables.exec = Jvm.exec) {x : Int64} {y : Int32} (hd : decode c.code pc = .ok (.lushr, 1)) (hp : pc + 1 = pc') (k : Run p.tables e below Φ T (mkF m pc' Ls (.long ((x.toUInt64 >>> (y &&& 0x3f).toInt64.toUInt64).toInt64) :: rest))) : Run p.tables e below Φ T (mkF m pc Ls (.int y :: .long x :: rest)) := by
  subst hp
  exact k.back fun _ kt => XS.lushr X.here hx rfl hd rfl kt
theorem Run.i2l (X : Stand p l e R s m args below meth c T locs cells slots) (hx : p.tables.exec = Jvm.exec) {x : Int32} (hd : decode c.code pc = .ok (.i2l, 1)) (hp : pc + 1 = pc') (k : Run p.tables e below Φ T (mkF m pc' Ls (.long (x.toInt64) :: rest))) : Run p.tables e below Φ T (mkF m pc Ls (.int x :: rest)) := by
  subst hp
  exact k.back fun _ kt => XS.i2l X.here hx rfl hd rfl kt
theorem Run.l2i (X : Stand p l e R s m args below meth c T locs cells slots) (hx : p.tables.exec = Jvm.exec) {x : Int64} (hd : decode c.code pc = .ok (.l2i, 1)) (hp : pc + 1 = pc') (k : Run p.tables e below Φ T (mkF m pc' Ls (.int (x.toInt32) :: rest))) : Run p.tables e below Φ T (mkF m pc Ls (.long x :: rest)) := by
  subst hp
  exact k.back fun _ kt => XS.l2i X.here hx rfl hd rfl kt
theorem Run.i2b (X : Stand p l e R s m args below meth c T locs cells slots) (hx : p.tables.exec = Jvm.exec) {x : Int32} (hd : decode c.code pc = .ok (.i2b, 1)) (hp : pc + 1 = pc') (k : Run p.tables e below Φ T (mkF m pc' Ls (.int (x.toInt8.toInt32) :: rest))) : Run p.tables e below Φ T (mkF m pc Ls (.int x :: rest)) := by
  subst hp
  exact k.back fun _ kt => XS.i2b X.here hx rfl hd rfl kt
theorem Run.i2s (X : Stand p l e R s m args below meth c T locs cells slots) (hx : p.tables.exec = Jvm.exec) {x : Int32} (hd : decode c.code pc = .ok (.i2s, 1)) (hp : pc + 1 = pc') (k : Run p.tables e below Φ T (mkF m pc' Ls (.int (x.toInt16.toInt32) :: rest))) : Run p.tables e below Φ T (mkF m pc Ls (.int x :: rest)) := by
  subst hp
  exact k.back fun _ kt => XS.i2s X.here hx rfl hd rfl kt
theorem Run.i2c (X : Stand p l e R s m args below meth c T locs cells slots) (hx : p.tables.exec = Jvm.exec) {x : Int32} (hd : decode c.code pc = .ok (.i2c, 1)) (hp : pc + 1 = pc') (k : Run p.tables e below Φ T (mkF m pc' Ls (.int (x.toUInt32.toUInt16.toUInt32.toInt32) :: rest))) : Run p.tables e below Φ T (mkF m pc Ls (.int x :: rest)) := by
  subst hp
  exact k.back fun _ kt => XS.i2c X.here hx rfl hd rfl kt
theorem Run.ineg (X : Stand p l e R s m args below meth c T locs cells slots) (hx : p.tables.exec = Jvm.exec) {x : Int32} (hd : decode c.code pc = .ok (.ineg, 1)) (hp : pc + 1 = pc') (k : Run p.tables e below Φ T (mkF m pc' Ls (.int (-x) :: rest))) : Run p.tables e below Φ T (mkF m pc Ls (.int x :: rest)) := by
  subst hp
  exact k.back fun _ kt => XS.ineg X.here hx rfl hd rfl kt
theorem Run.lcmp (X : Stand p l e R s m args below meth c T locs cells slots) (hx : p.tables.exec = Jvm.exec) {x y : Int64} (hd : decode c.code pc = .ok (.lcmp, 1)) (hp : pc + 1 = pc') (k : Run p.tables e below Φ T (mkF m pc' Ls (.int (lcmpW x y) :: rest))) : Run p.tables e below Φ T (mkF m pc Ls (.long y :: .long x :: rest)) := by
  subst hp
  exact k.back fun _ kt => XS.lcmp X.here hx rfl hd rfl kt
theorem Run.dup (X : Stand p l e R s m args below meth c T locs cells slots) (hx : p.tables.exec = Jvm.exec) {x : Value} (hd : decode c.code pc = .ok (.dup, 1)) (hc : x.category = 1) (hp : pc + 1 = pc') (k : Run p.tables e below Φ T (mkF m pc' Ls (x :: x :: rest))) : Run p.tables e below Φ T (mkF m pc Ls (x :: rest)) := by
  subst hp
  exact k.back fun _ kt => XS.dup X.here hx rfl hd rfl hc kt
theorem Run.dupX1 (X : Stand p l e R s m args below meth c T locs cells slots) (hx : p.tables.exec = Jvm.exec) {x y : Value} (hd : decode c.code pc = .ok (.dup_x1, 1)) (hc : x.category = 1) (hc2 : y.category = 1) (hp : pc + 1 = pc') (k : Run p.tables e below Φ T (mkF m pc' Ls (x :: y :: x :: rest))) : Run p.tables e below Φ T (mkF m pc Ls (x :: y :: rest)) := by
  subst hp
  exact k.back fun _ kt => XS.dupX1 X.here hx rfl hd rfl hc hc2 kt
theorem Run.pop (X : Stand p l e R s m args below meth c T locs cells slots) (hx : p.tables.exec = Jvm.exec) {x : Value} (hd : decode c.code pc = .ok (.pop, 1)) (hc : x.category = 1) (hp : pc + 1 = pc') (k : Run p.tables e below Φ T (mkF m pc' Ls rest)) : Run p.tables e below Φ T (mkF m pc Ls (x :: rest)) := by
  subst hp
  exact k.back fun _ kt => XS.pop X.here hx rfl hd rfl hc kt
theorem Run.iinc (X : Stand p l e R s m args below meth c T locs cells slots) (hx : p.tables.exec = Jvm.exec) {n : Nat} {i : Int} {v w : Int32} {l' : Array Slot} (hd : decode c.code pc = .ok (.iinc n i, 3)) (hl : Ls[n]? = some (.val (.int v))) (hv : Int32.ofInt i = w) (hl' : storeLocals Ls n (.int (v + w)) = some l') (hp : pc + 3 = pc') (k : Run p.tables e below Φ T (mkF m pc' l' rest)) : Run p.tables e below Φ T (mkF m pc Ls rest) := by
  subst hp
  exact k.back fun _ kt => XS.iinc X.here hx rfl hd hl (by rw [hv]; exact hl') kt
theorem Run.goto (X : Stand p l e R s m args below meth c T locs cells slots) (hx : p.tables.exec = Jvm.exec) {o : Int} (hd : decode c.code pc = .ok (.goto o, 3)) (ho : 0 ≤ (pc : Int) + o) (hp : ((pc : Int) + o).toNat = pc') (k : Run p.tables e below Φ T (mkF m pc' Ls rest)) : Run p.tables e below Φ T (mkF m pc Ls rest) := k.back fun _ kt => XS.goto X.here hx rfl rfl hd ho hp kt
theorem Run.ifYes (X : Stand p l e R s m args below meth c T locs cells slots) (hx : p.tables.exec = Jvm.exec) {cd : ClassFile.Cond} {o : Int} {x : Int32} (hd : decode c.code pc = .ok (.ifCond cd o, 3)) (hc : ifCond.holds cd x = true) (ho : 0 ≤ (pc : Int) + o) (hp : ((pc : Int) + o).toNat = pc') (k : Run p.tables e below Φ T (mkF m pc' Ls rest)) : Run p.tables e below Φ T (mkF m pc Ls (.int x :: rest)) := k.back fun _ kt => XS.ifYes X.here hx rfl rfl hd rfl hc ho hp kt
theorem Run.ifNo (X : Stand p l e R s m args below meth c T locs cells slots) (hx : p.tables.exec = Jvm.exec) {cd : ClassFile.Cond} {o : Int} {x : Int32} (hd : decode c.code pc = .ok (.ifCond cd o, 3)) (hc : ifCond.holds cd x = false) (hp : pc + 3 = pc') (k : Run p.tables e below Φ T (mkF m pc' Ls rest)) : Run p.tables e below Φ T (mkF m pc Ls (.int x :: rest)) := by
  subst hp
  exact k.back fun _ kt => XS.ifNo X.here hx rfl hd rfl hc kt
theorem Run.icmpYes (X : Stand p l e R s m args below meth c T locs cells slots) (hx : p.tables.exec = Jvm.exec) {cd : ClassFile.Cond} {o : Int} {x y : Int32} (hd : decode c.code pc = .ok (.if_icmp cd o, 3)) (hc : if_icmp.holds cd x y = true) (ho : 0 ≤ (pc : Int) + o) (hp : ((pc : Int) + o).toNat = pc') (k : Run p.tables e below Φ T (mkF m pc' Ls rest)) : Run p.tables e below Φ T (mkF m pc Ls (.int y :: .int x :: rest)) := k.back fun _ kt => XS.icmpYes X.here hx rfl rfl hd rfl hc ho hp kt
theorem Run.icmpNo (X : Stand p l e R s m args below meth c T locs cells slots) (hx : p.tables.exec = Jvm.exec) {cd : ClassFile.Cond} {o : Int} {x y : Int32} (hd : decode c.code pc = .ok (.if_icmp cd o, 3)) (hc : if_icmp.holds cd x y = false) (hp : pc + 3 = pc') (k : Run p.tables e below Φ T (mkF m pc' Ls rest)) : Run p.tables e below Φ T (mkF m pc Ls (.int y :: .int x :: rest)) := by
  subst hp
  exact k.back fun _ kt => XS.icmpNo X.here hx rfl hd rfl hc kt
theorem Run.acmpYes (X : Stand p l e R s m args below meth c T locs cells slots) (hx : p.tables.exec = Jvm.exec) {cd : ACond} {o : Int} {a b : Addr} (hd : decode c.code pc = .ok (.if_acmp cd o, 3)) (hc : if_acmp.holds cd (some a) (some b) = true) (ho : 0 ≤ (pc : Int) + o) (hp : ((pc : Int) + o).toNat = pc') (k : Run p.tables e below Φ T (mkF m pc' Ls rest)) : Run p.tables e below Φ T (mkF m pc Ls (.ref b :: .ref a :: rest)) := k.back fun _ kt => XS.acmpYes X.here hx rfl rfl hd rfl hc ho hp kt
theorem Run.acmpNo (X : Stand p l e R s m args below meth c T locs cells slots) (hx : p.tables.exec = Jvm.exec) {cd : ACond} {o : Int} {a b : Addr} (hd : decode c.code pc = .ok (.if_acmp cd o, 3)) (hc : if_acmp.holds cd (some a) (some b) = false) (hp : pc + 3 = pc') (k : Run p.tables e below Φ T (mkF m pc' Ls rest)) : Run p.tables e below Φ T (mkF m pc Ls (.ref b :: .ref a :: rest)) := by
  subst hp
  exact k.back fun _ kt => XS.acmpNo X.here hx rfl hd rfl hc kt
theorem own_acmpEqT {a b : Addr} (h : a = b) : if_acmp.holds .eq (some a) (some b) = true := by subst h; simp [if_acmp.holds]
theorem own_acmpEqF {a b : Addr} (h : ¬ a = b) : if_acmp.holds .eq (some a) (some b) = false := by simp [if_acmp.holds, h]
theorem own_acmpNeT {a b : Addr} (h : a = b) : if_acmp.holds .ne (some a) (some b) = false := by subst h; simp [if_acmp.holds]
theorem own_acmpNeF {a b : Addr} (h : ¬ a = b) : if_acmp.holds .ne (some a) (some b) = true := by simp [if_acmp.holds, h]
theorem Run.ldcInt (X : Stand p l e R s m args below meth c T locs cells slots) (hx : p.tables.exec = Jvm.exec) {own : String} {index : Nat} {v : Int32} (hown : s.vm.findClass own = some m.cls) (hconst : (Cond.constant own index v).before args s = true) (hd : decode c.code pc = .ok (.ldc index, 2)) (hp : pc + 2 = pc') (k : Run p.tables e below Φ T (mkF m pc' Ls (.int v :: rest))) : Run p.tables e below Φ T (mkF m pc Ls rest) := by
  subst hp
  exact k.back fun _ kt => X.ldcInt hx hown hconst (g := mkF m pc Ls rest) rfl hd _ kt
theorem Run.ldc2Long (X : Stand p l e R s m args below meth c T locs cells slots) (hx : p.tables.exec = Jvm.exec) {own : String} {index : Nat} {v : Int64} (hown : s.vm.findClass own = some m.cls) (hconst : (Cond.constantLong own index v).before args s = true) (hd : decode c.code pc = .ok (.ldc2_w index, 3)) (hp : pc + 3 = pc') (k : Run p.tables e below Φ T (mkF m pc' Ls (.long v :: rest))) : Run p.tables e below Φ T (mkF m pc Ls rest) := by
  subst hp
  exact k.back fun _ kt => X.ldc2Long hx hown hconst (g := mkF m pc Ls rest) rfl hd _ kt
theorem Run.switchHit (X : Stand p l e R s m args below meth c T locs cells slots) (hx : p.tables.exec = Jvm.exec) {default : Int} {pairs : Array (Int × Int)} {len : Nat} {a off : Int} {z : Int32} (hd : decode c.code pc = .ok (.lookupswitch default pairs, len)) (hs : (pairs.toList.zip (pairs.toList.drop 1)).all (fun (a, next) => a.1 < next.1) = true) (hf : pairs.find? (·.1 == z.toInt) = some (a, off)) (ho : 0 ≤ (pc : Int) + off) (hp : ((pc : Int) + off).toNat = pc') (k : Run p.tables e below Φ T (mkF m pc' Ls rest)) : Run p.tables e below Φ T (mkF m pc Ls (.int z :: rest)) := by
  subst hp
  exact k.back fun _ kt => X.lookupswitchHit hx (g := mkF m pc Ls (.int z :: rest)) rfl rfl hd hs hf ho _ kt
theorem Run.switchMiss (X : Stand p l e R s m args below meth c T locs cells slots) (hx : p.tables.exec = Jvm.exec) {default : Int} {pairs : Array (Int × Int)} {len : Nat} {z : Int32} (hd : decode c.code pc = .ok (.lookupswitch default pairs, len)) (hs : (pairs.toList.zip (pairs.toList.drop 1)).all (fun (a, next) => a.1 < next.1) = true) (hf : pairs.find? (·.1 == z.toInt) = none) (ho : 0 ≤ (pc : Int) + default) (hp : ((pc : Int) + default).toNat = pc') (k : Run p.tables e below Φ T (mkF m pc' Ls rest)) : Run p.tables e below Φ T (mkF m pc Ls (.int z :: rest)) := by
  subst hp
  exact k.back fun _ kt => X.lookupswitchMiss hx (g := mkF m pc Ls (.int z :: rest)) rfl rfl hd hs hf ho _ kt
/-- a body that writes nothing returns r -/
abbrev QPure (n0 : Nat) (h0 : Heap) (r : Value) : Option Value → Heap → List Loc → Prop := fun v h L => v = some r ∧ Fr n0 L ∧ h = h0
theorem Run.retInt (X : Stand p l e R s m args below meth c T locs cells slots) (hx : p.tables.exec = Jvm.exec) {K N : Nat} {Q : Option Value → Heap → List Loc → Prop} {z : Int32} (hlk : meth.locks = false) (hret : meth.sig.returnType = some .int) (hd : decode c.code pc = .ok (.ireturn, 1)) (hQ : Q (some (.int z)) T.heap locs) (hc : cells ≤ K) (hn : slots ≤ N) : Run p.tables e below (FinR s K N Q) T (mkF m pc Ls (.int z :: rest)) := by
  obtain ⟨fs, hr, hrun, hended, hW, hsame⟩ := X.leave (v := (some (.int z))) (fun h => by rw [hret] at h; cases h) hlk
  exact ⟨_, _, retOut X hx hret rfl (Or.inl ⟨rfl, Or.inl rfl, z, rfl⟩) hd hr, hrun, hended, _, _, rfl, hQ, ⟨_, rfl⟩, hW, hsame.mono hc hn⟩
theorem Run.retLong (X : Stand p l e R s m args below meth c T locs cells slots) (hx : p.tables.exec = Jvm.exec) {K N : Nat} {Q : Option Value → Heap → List Loc → Prop} {z : Int64} (hlk : meth.locks = false) (hret : meth.sig.returnType = some .long) (hd : decode c.code pc = .ok (.lreturn, 1)) (hQ : Q (some (.long z)) T.heap locs) (hc : cells ≤ K) (hn : slots ≤ N) : Run p.tables e below (FinR s K N Q) T (mkF m pc Ls (.long z :: rest)) := by
  obtain ⟨fs, hr, hrun, hended, hW, hsame⟩ := X.leave (v := (some (.long z))) (fun h => by rw [hret] at h; cases h) hlk
  exact ⟨_, _, retOut X hx hret rfl (Or.inr (Or.inl ⟨rfl, rfl, z, rfl⟩)) hd hr, hrun, hended, _, _, rfl, hQ, ⟨_, rfl⟩, hW, hsame.mono hc hn⟩
theorem Run.retRef (X : Stand p l e R s m args below meth c T locs cells slots) (hx : p.tables.exec = Jvm.exec) {K N : Nat} {Q : Option Value → Heap → List Loc → Prop} {z : Addr} {t : FieldType} (hlk : meth.locks = false) (hret : meth.sig.returnType = some t) (ht : t.isReference = true) (hnr : narrow t (.ref z) = .ref z) (hd : decode c.code pc = .ok (.areturn, 1)) (hQ : Q (some (.ref z)) T.heap locs) (hc : cells ≤ K) (hn : slots ≤ N) : Run p.tables e below (FinR s K N Q) T (mkF m pc Ls (.ref z :: rest)) := by
  obtain ⟨fs, hr, hrun, hended, hW, hsame⟩ := X.leave (v := (some (.ref z))) (fun h => by rw [hret] at h; cases h) hlk
  exact ⟨_, _, retOut X hx hret hnr (Or.inr (Or.inr (Or.inr (Or.inr ⟨rfl, ht, rfl⟩)))) hd hr, hrun, hended, _, _, rfl, hQ, ⟨_, rfl⟩, hW, hsame.mono hc hn⟩
theorem Run.retSmall (X : Stand p l e R s m args below meth c T locs cells slots) (hx : p.tables.exec = Jvm.exec) {K N : Nat} {Q : Option Value → Heap → List Loc → Prop} {z z' : Int32} {t : FieldType} (hlk : meth.locks = false) (hret : meth.sig.returnType = some t) (ht : t = .boolean ∨ t = .byte ∨ t = .char ∨ t = .short) (hz : nar t z = z') (hd : decode c.code pc = .ok (.ireturn, 1)) (hQ : Q (some (.int z')) T.heap locs) (hc : cells ≤ K) (hn : slots ≤ N) : Run p.tables e below (FinR s K N Q) T (mkF m pc Ls (.int z :: rest)) := by
  obtain ⟨fs, hr, hrun, hended, hW, hsame⟩ := X.leave (v := (some (.int z'))) (fun h => by rw [hret] at h; cases h) hlk
  exact ⟨_, _, RoadKit.retN X hx hret ht hd (by rw [hz]; exact hr), hrun, hended, _, _, rfl, hQ, ⟨_, rfl⟩, hW, hsame.mono hc hn⟩
theorem Run.retVoid (X : Stand p l e R s m args below meth c T locs cells slots) (hx : p.tables.exec = Jvm.exec) {K N : Nat} {Q : Option Value → Heap → List Loc → Prop} (hlk : meth.locks = false) (hret : meth.sig.returnType = none) (hd : decode c.code pc = .ok (.return_, 1)) (hQ : Q none T.heap locs) (hc : cells ≤ K) (hn : slots ≤ N) : Run p.tables e below (FinR s K N Q) T (mkF m pc Ls []) := by
  obtain ⟨fs, hr, hrun, hended, hW, hsame⟩ := X.leave (v := none) (fun _ => rfl) hlk
  exact ⟨_, _, X.returnOut hx hret hd hr, hrun, hended, _, _, rfl, hQ, ⟨_, rfl⟩, hW, hsame.mono hc hn⟩
theorem callStatic (X : Stand p l e R s m args below meth c T locs cells slots) (hx : p.tables.exec = Jvm.exec) {a0 : Array Value} {Z : State} {h : Heap} {own : String} {index : Nat} {bytes : ByteArray} {maxL : Nat} {ret : Option FieldType} {rm : Room} {W : Nat} {Qc : Option Value → Heap → List Loc → Prop} {y : MethodName} {argsL : List Value} (hZ : Z.Warmed39 s.vm) (hown : s.vm.findClass own = some m.cls) (w1 : (Cond.methodLink own index y).before a0 Z = true) (w2 : (Cond.static y).before a0 Z = true) (w3 : (Cond.initialized y.cls).before a0 Z = true) (w4 : (Cond.code y bytes maxL ret).before a0 Z = true) (hy : y.cls ≠ "java/lang/invoke/MethodHandle" ∧ y.cls ≠ "java/lang/invoke/VarHandle") (eT : T.heap = h) (hM : MetFree l y (head1 [Cond.code y bytes maxL ret] rm) (fun av U => av = argsL.toArray ∧ Z.Warmed39 U.vm ∧ U.heap = h) (fun _ _ _ _ _ => True) (fun _ U o U' => ∃ v L, o = .returned v ∧ Qc v U'.heap L ∧ FrameEnd U o U' L rm.cells rm.slots)) (hd : decode c.code pc = .ok (.invokestatic index, 3)) (hlen : ∀ sig, parseMethodDescriptor y.desc = some sig → argsL.length = sig.parameters.length) (hf : rm.frames + 1 ≤ R.frames) (hl : W + (maxL + 11) + rm.locals ≤ R.locals) (hsize : Ls.size = c.maxLocals) (hW : (rest.map fun v => v.category).sum ≤ W) (hcs : cells + rm.cells ≤ R.cells) (hss : slots + rm.slots ≤ R.slots) :
    ∃ (T' : State) (L : List Loc) (v : Option Value), Stand p l e R s m args below meth c T' (locs ++ L) (cells + rm.cells) (slots + rm.slots) ∧ Qc v T'.heap L ∧ ∀ t, Steps p.tables e below (T'.setTop (mkF m (pc + 3) Ls (v.toList ++ rest))) t → Steps p.tables e below (T.setTop (mkF m pc Ls (argsL.reverse ++ rest))) t := by
  obtain ⟨v, vm, ⟨T', L', k', n'⟩, -, X', ⟨L, hQ, l1, l2, l3⟩, st⟩ := Jvm.LawKit.callS X hx (y := y) hown (mvT hZ w1) (mvT hZ w2) (mvT hZ w3) (mvT hZ w4) hy (backOf (W := W) hM hZ w4 w3 hf hl) (g := mkF m pc Ls (argsL.reverse ++ rest)) rfl hsize (argsL := argsL) (rest := rest) hlen rfl (by show 2 * 0 + _ ≤ _; omega) hd (fun _ _ => ⟨rfl, eT, hcs, hss⟩)
  dsimp only [Pt.U, Pt.locs, Pt.cells, Pt.slots] at X' hQ l1 l2 l3 st
  subst l1 l2 l3
  exact ⟨T', L, v, X', hQ, st⟩
theorem callSpecial (X : Stand p l e R s m args below meth c T locs cells slots) (hx : p.tables.exec = Jvm.exec) {a0 : Array Value} {Z : State} {h : Heap} {own : String} {index : Nat} {bytes : ByteArray} {maxL : Nat} {ret : Option FieldType} {rm : Room} {W : Nat} {Qc : Option Value → Heap → List Loc → Prop} {y : MethodName} {a : Addr} {argsL : List Value} (hy1 : y.name = "<init>") (hZ : Z.Warmed39 s.vm) (hown : s.vm.findClass own = some m.cls) (w1 : (Cond.methodLink own index y).before a0 Z = true) (w2 : (Cond.instanceMethod y).before a0 Z = true) (w3 : (Cond.initialized y.cls).before a0 Z = true) (w4 : (Cond.code y bytes maxL none).before a0 Z = true) (hy : y.cls ≠ "java/lang/invoke/MethodHandle" ∧ y.cls ≠ "java/lang/invoke/VarHandle") (eT : T.heap = h) (hM : MetFree l y (head1 [Cond.code y bytes maxL none] rm) (fun av U => av = (.ref a :: argsL).toArray ∧ Z.Warmed39 U.vm ∧ U.heap = h) (fun _ _ _ _ _ => True) (fun _ U o U' => ∃ v L, o = .returned v ∧ Qc v U'.heap L ∧ FrameEnd U o U' L rm.cells rm.slots)) (hd : decode c.code pc = .ok (.invokespecial index, 3)) (hlen : ∀ sig, parseMethodDescriptor y.desc = some sig → argsL.length = sig.parameters.length) (hf : rm.frames + 1 ≤ R.frames) (hl : W + (maxL + 11) + rm.locals ≤ R.locals) (hsize : Ls.size = c.maxLocals) (hW : (rest.map fun v => v.category).sum ≤ W) (hcs : cells + rm.cells ≤ R.cells) (hss : slots + rm.slots ≤ R.slots) :
    ∃ (T' : State) (L : List Loc) (v : Option Value), Stand p l e R s m args below meth c T' (locs ++ L) (cells + rm.cells) (slots + rm.slots) ∧ Qc v T'.heap L ∧ ∀ t, Steps p.tables e below (T'.setTop (mkF m (pc + 3) Ls (v.toList ++ rest))) t → Steps p.tables e below (T.setTop (mkF m pc Ls (argsL.reverse ++ .ref a :: rest))) t := by
  obtain ⟨v, vm, ⟨T', L', k', n'⟩, -, X', ⟨L, hQ, l1, l2, l3⟩, st⟩ := X.specialBack hx (y := y) hy1 hown (mvT hZ w1) (mvT hZ w2) (mvT hZ w4) hy (backOf (W := W) hM hZ w4 w3 hf hl) (g := mkF m pc Ls (argsL.reverse ++ .ref a :: rest)) rfl hsize (Steps.refl _) (a := a) (argsL := argsL) (rest := rest) hlen rfl (by show 2 * 0 + _ ≤ _; omega) hd (fun _ _ => ⟨rfl, eT, hcs, hss⟩)
  dsimp only [Pt.U, Pt.locs, Pt.cells, Pt.slots] at X' hQ l1 l2 l3 st
  subst l1 l2 l3
  exact ⟨T', L, v, X', hQ, fun t kt => st.trans kt⟩
theorem callVirtual (X : Stand p l e R s m args below meth c T locs cells slots) (hx : p.tables.exec = Jvm.exec) {a0 : Array Value} {Z : State} {h : Heap} {own : String} {index : Nat} {bytes : ByteArray} {maxL : Nat} {ret : Option FieldType} {rm : Room} {W : Nat} {Qc : Option Value → Heap → List Loc → Prop} {y z : MethodName} {C : String} {a : Addr} {argsL : List Value} (hZ : Z.Warmed39 s.vm) (hown : s.vm.findClass own = some m.cls) (w1 : (Cond.methodLink own index y).before a0 Z = true) (w2 : (Cond.declares y).before a0 Z = true) (hnf : NotFace s y) (w5 : (Cond.selects C y z).before a0 Z = true) (w6 : (Cond.instanceMethod z).before a0 Z = true) (w3 : (Cond.initialized z.cls).before a0 Z = true) (w4 : (Cond.code z bytes maxL ret).before a0 Z = true) (hy : y.cls ≠ "java/lang/invoke/MethodHandle" ∧ y.cls ≠ "java/lang/invoke/VarHandle") (eT : T.heap = h) (E : Exa Z h a C) (hM : MetFree l z (head1 [Cond.code z bytes maxL ret] rm) (fun av U => av = (.ref a :: argsL).toArray ∧ Z.Warmed39 U.vm ∧ U.heap = h) (fun _ _ _ _ _ => True) (fun _ U o U' => ∃ v L, o = .returned v ∧ Qc v U'.heap L ∧ FrameEnd U o U' L rm.cells rm.slots)) (hd : decode c.code pc = .ok (.invokevirtual index, 3)) (hlen : ∀ sig, parseMethodDescriptor y.desc = some sig → argsL.length = sig.parameters.length) (hf : rm.frames + 1 ≤ R.frames) (hl : W + (maxL + 11) + rm.locals ≤ R.locals) (hsize : Ls.size = c.maxLocals) (hW : (rest.map fun v => v.category).sum ≤ W) (hcs : cells + rm.cells ≤ R.cells) (hss : slots + rm.slots ≤ R.slots) :
    ∃ (T' : State) (L : List Loc) (v : Option Value), Stand p l e R s m args below meth c T' (locs ++ L) (cells + rm.cells) (slots + rm.slots) ∧ Qc v T'.heap L ∧ ∀ t, Steps p.tables e below (T'.setTop (mkF m (pc + 3) Ls (v.toList ++ rest))) t → Steps p.tables e below (T.setTop (mkF m pc Ls (argsL.reverse ++ .ref a :: rest))) t := by
  obtain ⟨cB, kB, qa, -, qc⟩ := isOf hZ eT E
  obtain ⟨v, vm, ⟨T', L', k', n'⟩, -, X', ⟨L, hQ, l1, l2, l3⟩, st⟩ := X.virtualBack hx (y := y) (z := z) hown (mvT hZ w1) (mvT hZ w2) hnf (mvT hZ w5) (mvT hZ w6) hy (backOf (W := W) hM hZ w4 w3 hf hl) qa qc (g := mkF m pc Ls (argsL.reverse ++ .ref a :: rest)) rfl hsize (Steps.refl _) (argsL := argsL) (rest := rest) hlen rfl (by show 2 * 0 + _ ≤ _; omega) hd (fun _ _ => ⟨rfl, eT, hcs, hss⟩)
  dsimp only [Pt.U, Pt.locs, Pt.cells, Pt.slots] at X' hQ l1 l2 l3 st
  subst l1 l2 l3
  exact ⟨T', L, v, X', hQ, fun t kt => st.trans kt⟩
end Steps
section Arrays
variable {Z : State} {h h' : Heap} {a b : Addr} {ty : FieldType} {n : Int32} {f : Int32 → Int32} {sl : Nat} {v : Value} {ws : List Addr}
/-- the array at a: of kind ty, n places, the place j holds the int f j -/
def Ints (Z : State) (h : Heap) (a : Addr) (ty : FieldType) (n : Int32) (f : Int32 → Int32) : Prop := ∃ cl : Cell, Arr Z h a cl ty ∧ cl.slots.size = n.toNatClampNeg ∧ ¬ n < 0 ∧ ∀ j : Int32, ¬ j < 0 → j < n → cl.slots[j.toNatClampNeg]? = some (.int (f j))
theorem Ints.lt (F : Ints Z h a ty n f) : a < h.size := by obtain ⟨_, A, -⟩ := F; exact A.lt
theorem Ints.ext (E : Ext h h') (F : Ints Z h a ty n f) : Ints Z h' a ty n f := by obtain ⟨c, A, r⟩ := F; exact ⟨c, A.ext E, r⟩
theorem Ints.other (W : Wr h h' b sl v) (F : Ints Z h a ty n f) (q : a ≠ b) : Ints Z h' a ty n f := by obtain ⟨c, A, r⟩ := F; exact ⟨c, A.other W q, r⟩
theorem Ints.keep (F : Ints Z h a ty n f) (K : Keep h h' ws) (q : a ∉ ws) : Ints Z h' a ty n f := by obtain ⟨c, A, r⟩ := F; exact ⟨c, ⟨K.2.1 a c A.1 q, A.2⟩, r⟩
theorem Ints.inb {cl : Cell} (S : cl.slots.size = n.toNatClampNeg) {j : Int32} (h1 : ¬ j < 0) (h2 : j < n) : ¬ (j < 0 ∨ cl.slots.size ≤ j.toNatClampNeg) := inb_of S ⟨h1, h2⟩
theorem nat_inj {i j : Int32} (hi : ¬ i < 0) (hj : ¬ j < 0) (q : i.toNatClampNeg = j.toNatClampNeg) : i = j := Int32.toInt_inj.mp (by rw [nat_of hi, nat_of hj, q])
theorem Ints.set {j : Int32} {x : Int32} {cl : Cell} (A : Arr Z h a cl ty) (S : cl.slots.size = n.toNatClampNeg) (hn : ¬ n < 0) (H : ∀ j : Int32, ¬ j < 0 → j < n → cl.slots[j.toNatClampNeg]? = some (.int (f j))) (h1 : ¬ j < 0) (h2 : j < n) (W : Wr h h' a j.toNatClampNeg (.int x)) : Ints Z h' a ty n (fun i => if i = j then x else f i) := by
  refine ⟨_, A.same W, by rw [← S]; simp [Cell.setSlot], hn, fun i hi hi2 => ?_⟩
  have hlt : i.toNatClampNeg < cl.slots.size := Nat.lt_of_not_le fun q => inb_of S ⟨hi, hi2⟩ (Or.inr q)
  by_cases e : i = j
  · subst e; simp [Cell.setSlot, hlt]
  · have hne : j.toNatClampNeg ≠ i.toNatClampNeg := fun q => e (nat_inj hi h1 q.symm)
    simp only [if_neg e]
    rw [← H i hi hi2]
    simp [Cell.setSlot, Array.getElem?_setIfInBounds_ne hne]
theorem Ints.new {k : ClassId} (A : Arr Z h a (newA k ty n) ty) (hn : ¬ n < 0) (hd : defaultValue ty = .int 0) : Ints Z h a ty n (fun _ => 0) := by
  obtain ⟨cl, A', -, S, -, H, -⟩ := Arv.new A hn
  exact ⟨cl, A', S, hn, fun j h1 h2 => by rw [H _ (Nat.lt_of_not_le fun q => inb_of S ⟨h1, h2⟩ (Or.inr q))]; simp [hd]⟩
theorem Ints.congr {g : Int32 → Int32} (F : Ints Z h a ty n f) (q : ∀ j : Int32, ¬ j < 0 → j < n → f j = g j) : Ints Z h a ty n g := by
  obtain ⟨cl, A, S, hn, H⟩ := F
  exact ⟨cl, A, S, hn, fun j h1 h2 => by rw [← q j h1 h2]; exact H j h1 h2⟩
end Arrays
section ArraySteps
variable {p : Program} {l : Launch} {e : Env} {R : Room} {s : State} {m : MethodId} {args : Array Value} {below : List Frame} {meth : Method} {c : Code} {T : State} {locs : List Loc} {cells slots : Nat} {Φ : Outcome → State → Prop} {pc pc' : Nat} {Ls : Array Slot} {rest : List Value} {Z : State} {h : Heap} {a : Addr} {n j : Int32} {f : Int32 → Int32}
theorem Run.iaload (X : Stand p l e R s m args below meth c T locs cells slots) (hx : p.tables.exec = Jvm.exec) (hZ : Z.Warmed39 s.vm) (eT : T.heap = h) (F : Ints Z h a .int n f) (h1 : ¬ j < 0) (h2 : j < n) (hd : decode c.code pc = .ok (.iaload, 1)) (hp : pc + 1 = pc') (k : Run p.tables e below Φ T (mkF m pc' Ls (.int (f j) :: rest))) : Run p.tables e below Φ T (mkF m pc Ls (.int j :: .ref a :: rest)) := by
  subst hp
  obtain ⟨cl, A, S, hn, H⟩ := F
  exact k.back fun _ kt => X.iaload hx (by rw [eT]; exact A.1) (State.isArrayOf_alike hZ.alike A.2.1) A.2.2 (inb_of S ⟨h1, h2⟩) (H j h1 h2) (g := mkF m pc Ls (.int j :: .ref a :: rest)) rfl rfl hd _ kt
theorem Run.baload (X : Stand p l e R s m args below meth c T locs cells slots) (hx : p.tables.exec = Jvm.exec) (hZ : Z.Warmed39 s.vm) (eT : T.heap = h) (F : Ints Z h a .byte n f) (h1 : ¬ j < 0) (h2 : j < n) (hd : decode c.code pc = .ok (.baload, 1)) (hp : pc + 1 = pc') (k : Run p.tables e below Φ T (mkF m pc' Ls (.int (f j) :: rest))) : Run p.tables e below Φ T (mkF m pc Ls (.int j :: .ref a :: rest)) := by
  subst hp
  obtain ⟨cl, A, S, hn, H⟩ := F
  exact k.back fun _ kt => X.baloadBytes hx (by rw [eT]; exact A.1) (State.isArrayOf_alike hZ.alike A.2.1) A.2.2 (inb_of S ⟨h1, h2⟩) (H j h1 h2) (g := mkF m pc Ls (.int j :: .ref a :: rest)) rfl rfl hd _ kt
theorem Run.zaload (X : Stand p l e R s m args below meth c T locs cells slots) (hx : p.tables.exec = Jvm.exec) (hZ : Z.Warmed39 s.vm) (eT : T.heap = h) (F : Ints Z h a .boolean n f) (h1 : ¬ j < 0) (h2 : j < n) (hd : decode c.code pc = .ok (.baload, 1)) (hp : pc + 1 = pc') (k : Run p.tables e below Φ T (mkF m pc' Ls (.int (f j) :: rest))) : Run p.tables e below Φ T (mkF m pc Ls (.int j :: .ref a :: rest)) := by
  subst hp
  obtain ⟨cl, A, S, hn, H⟩ := F
  exact k.back fun _ kt => X.baloadBooleans hx (by rw [eT]; exact A.1) (State.isArrayOf_alike hZ.alike A.2.1) A.2.2 (inb_of S ⟨h1, h2⟩) (H j h1 h2) (g := mkF m pc Ls (.int j :: .ref a :: rest)) rfl rfl hd _ kt
theorem Run.arraylength (X : Stand p l e R s m args below meth c T locs cells slots) (hx : p.tables.exec = Jvm.exec) {ty : FieldType} (hZ : Z.Warmed39 s.vm) (eT : T.heap = h) (F : Ints Z h a ty n f) (hd : decode c.code pc = .ok (.arraylength, 1)) (hp : pc + 1 = pc') (k : Run p.tables e below Φ T (mkF m pc' Ls (.int n :: rest))) : Run p.tables e below Φ T (mkF m pc Ls (.ref a :: rest)) := by
  subst hp
  obtain ⟨cl, A, S, hn, H⟩ := F
  rw [← len_of S hn] at k
  exact k.back fun _ kt => X.arraylength hx (by rw [eT]; exact A.1) (State.isArrayOf_alike hZ.alike A.2.1) (g := mkF m pc Ls (.ref a :: rest)) rfl rfl hd _ kt
theorem st_iastore (X : Stand p l e R s m args below meth c T locs cells slots) (hx : p.tables.exec = Jvm.exec) {x : Int32} (hZ : Z.Warmed39 s.vm) (eT : T.heap = h) (F : Ints Z h a .int n f) (h1 : ¬ j < 0) (h2 : j < n) (hd : decode c.code pc = .ok (.iastore, 1)) : ∃ T' h' sl v, Stand p l e R s m args below meth c T' (locs ++ [⟨a, sl⟩]) cells slots ∧ T'.heap = h' ∧ Wr h h' a sl v ∧ Ints Z h' a .int n (fun i => if i = j then x else f i) ∧ ∀ t, Steps p.tables e below (T'.setTop (mkF m (pc + 1) Ls rest)) t → Steps p.tables e below (T.setTop (mkF m pc Ls (.int x :: .int j :: .ref a :: rest))) t := by
  obtain ⟨cl, A, S, hn, H⟩ := F
  obtain ⟨T', h', X', e', W, st⟩ := stI X hx hZ eT A (j := j) (x := x) (inb_of S ⟨h1, h2⟩) (g := mkF m pc Ls (.int x :: .int j :: .ref a :: rest)) rfl rfl hd
  exact ⟨T', h', _, _, X', e', W, Ints.set A S hn H h1 h2 W, st⟩
theorem st_bastore (X : Stand p l e R s m args below meth c T locs cells slots) (hx : p.tables.exec = Jvm.exec) {x : Int32} (hZ : Z.Warmed39 s.vm) (eT : T.heap = h) (F : Ints Z h a .byte n f) (h1 : ¬ j < 0) (h2 : j < n) (hd : decode c.code pc = .ok (.bastore, 1)) : ∃ T' h' sl v, Stand p l e R s m args below meth c T' (locs ++ [⟨a, sl⟩]) cells slots ∧ T'.heap = h' ∧ Wr h h' a sl v ∧ Ints Z h' a .byte n (fun i => if i = j then x.toInt8.toInt32 else f i) ∧ ∀ t, Steps p.tables e below (T'.setTop (mkF m (pc + 1) Ls rest)) t → Steps p.tables e below (T.setTop (mkF m pc Ls (.int x :: .int j :: .ref a :: rest))) t := by
  obtain ⟨cl, A, S, hn, H⟩ := F
  obtain ⟨T', h', X', e', W, st⟩ := stB X hx hZ eT A (j := j) (x := x) (inb_of S ⟨h1, h2⟩) (g := mkF m pc Ls (.int x :: .int j :: .ref a :: rest)) rfl rfl hd
  exact ⟨T', h', _, _, X', e', W, Ints.set A S hn H h1 h2 W, st⟩
theorem st_zastore (X : Stand p l e R s m args below meth c T locs cells slots) (hx : p.tables.exec = Jvm.exec) {x : Int32} (hZ : Z.Warmed39 s.vm) (eT : T.heap = h) (F : Ints Z h a .boolean n f) (h1 : ¬ j < 0) (h2 : j < n) (hd : decode c.code pc = .ok (.bastore, 1)) : ∃ T' h' sl v, Stand p l e R s m args below meth c T' (locs ++ [⟨a, sl⟩]) cells slots ∧ T'.heap = h' ∧ Wr h h' a sl v ∧ Ints Z h' a .boolean n (fun i => if i = j then x &&& 1 else f i) ∧ ∀ t, Steps p.tables e below (T'.setTop (mkF m (pc + 1) Ls rest)) t → Steps p.tables e below (T.setTop (mkF m pc Ls (.int x :: .int j :: .ref a :: rest))) t := by
  obtain ⟨cl, A, S, hn, H⟩ := F
  obtain ⟨T', h', X', e', W, st⟩ := stZ X hx hZ eT A (j := j) (x := x) (inb_of S ⟨h1, h2⟩) (g := mkF m pc Ls (.int x :: .int j :: .ref a :: rest)) rfl rfl hd
  exact ⟨T', h', _, _, X', e', W, Ints.set A S hn H h1 h2 W, st⟩
theorem st_newarray (X : Stand p l e R s m args below meth c T locs cells slots) (hx : p.tables.exec = Jvm.exec) {aty : ArrayType} {a0 : Array Value} (hZ : Z.Warmed39 s.vm) (w : (Cond.arrayClass (newarray.typeOf aty)).before a0 Z = true) (eT : T.heap = h) (hd : decode c.code pc = .ok (.newarray aty, 2)) (hn : ¬ n < 0) {cap : Nat} (hcap : n.toNatClampNeg ≤ cap) (hb : cap * 8 ≤ 536870912) (hc : cells + 1 ≤ R.cells) (hl : slots + cap ≤ R.slots) (hdef : defaultValue (newarray.typeOf aty) = .int 0) : ∃ T' h' b, Stand p l e R s m args below meth c T' locs (cells + 1) (slots + cap) ∧ T'.heap = h' ∧ Ext h h' ∧ b = h.size ∧ Ints Z h' b (newarray.typeOf aty) n (fun _ => 0) ∧ ∀ t, Steps p.tables e below (T'.setTop (mkF m (pc + 2) Ls (.ref b :: rest))) t → Steps p.tables e below (T.setTop (mkF m pc Ls (.int n :: rest))) t := by
  obtain ⟨T', h', cA, X', e', E, A, st⟩ := newP X hx hZ w eT (g := mkF m pc Ls (.int n :: rest)) rfl hd rfl hn hcap hb hc hl
  exact ⟨T', h', _, X', e', E, rfl, Ints.new A hn hdef, st⟩
end ArraySteps
section Table
variable {Z : State} {args : Array Value} {t : Term} {a : Addr} {c : Cell} {ty : FieldType} {n j : Int32}
theorem tab_ints {h : Heap} (F : Tab Z h a c ty n) : Ints Z h a ty n (atv c) := ⟨c, F.1, F.2.1, F.2.2.1, fun j h1 h2 => F.2.2.2 j (inb_of F.2.1 ⟨h1, h2⟩)⟩
theorem tab_all {q : Jvm.Cond} (et : ∀ idx, t.eval args Z none idx Z = some (.ref a)) (F : Tab Z Z.heap a c ty n) (h : (Jvm.Cond.all t q).value args Z none Z [] = some true) (h1 : ¬ j < 0) (h2 : j < n) : q.value args Z none Z [j.toNatClampNeg] = some true :=
  Jvm.Cond.all_elim (et []) (F.1.fin (Vm.Alike.refl _)) h _ (Nat.lt_of_not_le fun y => inb_of F.2.1 ⟨h1, h2⟩ (Or.inr y))
theorem tab_elem (et : ∀ idx, t.eval args Z none idx Z = some (.ref a)) (F : Tab Z Z.heap a c ty n) (h1 : ¬ j < 0) (h2 : j < n) : (Term.elem t (.index 0)).eval args Z none [j.toNatClampNeg] Z = some (.int (atv c j)) :=
  (elem_f (et _) (idx_at h1) (F.1.fin (Vm.Alike.refl _)) h1).trans (F.2.2.2 j (inb_of F.2.1 ⟨h1, h2⟩))
theorem tab_le {x v : Int32} (et : ∀ idx, t.eval args Z none idx Z = some (.ref a)) (F : Tab Z Z.heap a c ty n) (h : (Jvm.Cond.all t (.or (.le (.int x) (.index 0)) (.eq (.elem t (.index 0)) (.int v)))).value args Z none Z [] = some true) (j : Int32) (h1 : ¬ j < 0) (h2 : j < n) : x ≤ j ∨ atv c j = v :=
  or_e2 (Jvm.Cond.le_ints (Term.int_eval x) (idx_at h1)) (Jvm.Cond.eq_ints (tab_elem et F h1 h2) (Term.int_eval v)) (tab_all et F h h1 h2)
theorem tab_in {x y v : Int32} (et : ∀ idx, t.eval args Z none idx Z = some (.ref a)) (F : Tab Z Z.heap a c ty n) (h : (Jvm.Cond.all t (.or (.lt (.index 0) (.int x)) (.or (.le (.int y) (.index 0)) (.eq (.elem t (.index 0)) (.int v))))).value args Z none Z [] = some true) (j : Int32) (h1 : ¬ j < 0) (h2 : j < n) : j < x ∨ ¬ j < y ∨ atv c j = v :=
  or3 (tab_all et F h h1 h2) (Jvm.Cond.lt_ints (idx_at h1) (Term.int_eval x)) (Jvm.Cond.le_ints (Term.int_eval y) (idx_at h1)) (Jvm.Cond.eq_ints (tab_elem et F h1 h2) (Term.int_eval v))
theorem tab_one {k v : Int32} (et : ∀ idx, t.eval args Z none idx Z = some (.ref a)) (F : Tab Z Z.heap a c ty n) (h1 : ¬ k < 0) (h2 : k < n) (h : (Jvm.Cond.eq (.elem t (.int k)) (.int v)).value args Z none Z [] = some true) : atv c k = v := by
  have e := (elem_f (et []) (Term.int_eval (args := args) (first := Z) (o := none) (idx := []) (s := Z) k) (F.1.fin (Vm.Alike.refl _)) h1).trans (F.2.2.2 k (inb_of F.2.1 ⟨h1, h2⟩))
  have q := (Jvm.Cond.eq_ints e (Term.int_eval v)).symm.trans h
  simpa using q
theorem tab_ge {x v : Int32} (et : ∀ idx, t.eval args Z none idx Z = some (.ref a)) (F : Tab Z Z.heap a c ty n) (h : (Jvm.Cond.all t (.or (.lt (.index 0) (.int x)) (.eq (.elem t (.index 0)) (.int v)))).value args Z none Z [] = some true) (j : Int32) (h1 : ¬ j < 0) (h2 : j < n) : j < x ∨ atv c j = v :=
  or_e2 (Jvm.Cond.lt_ints (idx_at h1) (Term.int_eval x)) (Jvm.Cond.eq_ints (tab_elem et F h1 h2) (Term.int_eval v)) (tab_all et F h h1 h2)
theorem tab_start (hf : Fit Z) (et : t.eval args Z none [] Z = some (.ref a)) (A : Arr Z Z.heap a c ty) (hl : (Jvm.Cond.eq (Term.length t) (.int n)).value args Z none Z [] = some true) (ht : ty = .int ∨ ty = .boolean ∨ ty = .byte ∨ ty = .char ∨ ty = .short) (hn : ¬ n < 0) : Tab Z Z.heap a c ty n := by
  have e := eqv_i (Term.int_eval n) hl
  have ha : Z.arrayAt? a = some c := A.fin (Vm.Alike.refl _)
  by_cases q : c.slots.size < 2 ^ 31
  · have e2 := len_f et ha q
    exact Tab.start hf A ht q (by simpa using Option.some.inj (e2.symm.trans e)) hn
  · simp [Term.eval, et, ha, q] at e
theorem small_int (N : Nat) (hN : N < 2147483648) (P : Int32 → Prop) (H : ∀ k : Fin N, P (Int32.ofNat k.val)) (c : Int32) (h1 : ¬ c < 0) (h2 : c < Int32.ofNat N) : P c := by
  have e : c.toInt = (c.toNatClampNeg : Int) := nat_of h1
  have hc : Int32.ofNat c.toNatClampNeg = c := by
    apply Int32.toInt_inj.mp
    rw [Int32.toInt_ofNat_of_lt (by have := c.toInt_lt; omega), e]
  have h3 : c.toInt < (Int32.ofNat N).toInt := Int32.lt_iff_toInt_lt.mp h2
  rw [Int32.toInt_ofNat_of_lt (by omega)] at h3
  rw [← hc]
  exact H ⟨c.toNatClampNeg, by omega⟩
end Table
end Jvm.OwnRun

namespace Jvm.Pilot.@@N@@
open Jvm Jvm.ClassFile Sem Op Lib Jvm.Free Jvm.Stand Jvm.LawKit Jvm.RoadKit Jvm.OwnRun Bundle Jvm.Pilot.@@N@@.Jvm.D
theorem own_pd0 : parseMethodDescriptor "(I)Z" = some ⟨[.int], some .boolean⟩ := by decide +kernel
theorem own_pd1 : parseMethodDescriptor "(II)I" = some ⟨[.int, .int], some .int⟩ := by decide +kernel
theorem own_pn0 : plainName "com/example/traceloom/traceloom/io/xes/XmlCharacters" = true := by first | (simp [plainName, overriddenIn]; done) | decide +kernel
theorem own_pn1 : plainName "com/example/traceloom/traceloom/io/xes/XmlCharactersIsNameStartPinLaw" = true := by first | (simp [plainName, overriddenIn]; done) | decide +kernel
def own_f1_189 (p0 : Int32) (f : Int32 → Int32) (y189_0 : Int32) : Int32 := (y189_0 &&& 1)
def own_f1_188 (p0 : Int32) (f : Int32 → Int32) : Int32 := (own_f1_189 p0 f (0 : Int32))
def own_f1_184 (p0 : Int32) (f : Int32 → Int32) : Int32 := (own_f1_189 p0 f (1 : Int32))
def own_f1_172 (p0 : Int32) (f : Int32 → Int32) : Int32 := (if p0 < (65536 : Int32) then (own_f1_188 p0 f) else (if (983039 : Int32) < p0 then (own_f1_188 p0 f) else (own_f1_184 p0 f)))
def own_f1_160 (p0 : Int32) (f : Int32 → Int32) : Int32 := (if p0 < (65008 : Int32) then (own_f1_172 p0 f) else (if (65533 : Int32) < p0 then (own_f1_172 p0 f) else (own_f1_184 p0 f)))
def own_f1_148 (p0 : Int32) (f : Int32 → Int32) : Int32 := (if p0 < (63744 : Int32) then (own_f1_160 p0 f) else (if (64975 : Int32) < p0 then (own_f1_160 p0 f) else (own_f1_184 p0 f)))
def own_f1_135 (p0 : Int32) (f : Int32 → Int32) : Int32 := (if p0 < (12289 : Int32) then (own_f1_148 p0 f) else (if (55295 : Int32) < p0 then (own_f1_148 p0 f) else (own_f1_184 p0 f)))
def own_f1_121 (p0 : Int32) (f : Int32 → Int32) : Int32 := (if p0 < (11264 : Int32) then (own_f1_135 p0 f) else (if (12271 : Int32) < p0 then (own_f1_135 p0 f) else (own_f1_184 p0 f)))
def own_f1_93 (p0 : Int32) (f : Int32 → Int32) : Int32 := (if p0 = (8204 : Int32) then (own_f1_184 p0 f) else (if p0 = (8205 : Int32) then (own_f1_184 p0 f) else (if p0 < (8304 : Int32) then (own_f1_121 p0 f) else (if (8591 : Int32) < p0 then (own_f1_121 p0 f) else (own_f1_184 p0 f)))))
def own_f1_79 (p0 : Int32) (f : Int32 → Int32) : Int32 := (if p0 < (895 : Int32) then (own_f1_93 p0 f) else (if (8191 : Int32) < p0 then (own_f1_93 p0 f) else (own_f1_184 p0 f)))
def own_f1_65 (p0 : Int32) (f : Int32 → Int32) : Int32 := (if p0 < (880 : Int32) then (own_f1_79 p0 f) else (if (893 : Int32) < p0 then (own_f1_79 p0 f) else (own_f1_184 p0 f)))
def own_f1_51 (p0 : Int32) (f : Int32 → Int32) : Int32 := (if p0 < (248 : Int32) then (own_f1_65 p0 f) else (if (767 : Int32) < p0 then (own_f1_65 p0 f) else (own_f1_184 p0 f)))
def own_f1_37 (p0 : Int32) (f : Int32 → Int32) : Int32 := (if p0 < (216 : Int32) then (own_f1_51 p0 f) else (if (246 : Int32) < p0 then (own_f1_51 p0 f) else (own_f1_184 p0 f)))
def own_f1_22 (p0 : Int32) (f : Int32 → Int32) (y22_0 : Int32) : Int32 := (y22_0 &&& 1)
def own_F1 (p0 : Int32) (f : Int32 → Int32) : Int32 := (if p0 < (128 : Int32) then (if ((f p0) &&& (2 : Int32)) = (0 : Int32) then (own_f1_22 p0 f (0 : Int32)) else (own_f1_22 p0 f (1 : Int32))) else (if p0 < (192 : Int32) then (own_f1_37 p0 f) else (if (214 : Int32) < p0 then (own_f1_37 p0 f) else (own_f1_184 p0 f))))
theorem own_d1_0 : decode prog_78_method_3_code 0 = .ok (.iload_n 0, 1) := by decide +kernel
theorem own_d1_1 : decode prog_78_method_3_code 1 = .ok (.sipush 128, 3) := by decide +kernel
theorem own_d1_4 : decode prog_78_method_3_code 4 = .ok (.if_icmp .ge 19, 3) := by decide +kernel
theorem own_d1_7 : decode prog_78_method_3_code 7 = .ok (.getstatic 14, 3) := by decide +kernel
theorem own_d1_10 : decode prog_78_method_3_code 10 = .ok (.iload_n 0, 1) := by decide +kernel
theorem own_d1_11 : decode prog_78_method_3_code 11 = .ok (.baload, 1) := by decide +kernel
theorem own_d1_12 : decode prog_78_method_3_code 12 = .ok (.iconst 2, 1) := by decide +kernel
theorem own_d1_13 : decode prog_78_method_3_code 13 = .ok (.iand, 1) := by decide +kernel
theorem own_d1_14 : decode prog_78_method_3_code 14 = .ok (.ifCond .eq 7, 3) := by decide +kernel
theorem own_d1_17 : decode prog_78_method_3_code 17 = .ok (.iconst 1, 1) := by decide +kernel
theorem own_d1_18 : decode prog_78_method_3_code 18 = .ok (.goto 4, 3) := by decide +kernel
theorem own_d1_21 : decode prog_78_method_3_code 21 = .ok (.iconst 0, 1) := by decide +kernel
theorem own_d1_22 : decode prog_78_method_3_code 22 = .ok (.ireturn, 1) := by decide +kernel
theorem own_d1_23 : decode prog_78_method_3_code 23 = .ok (.iload_n 0, 1) := by decide +kernel
theorem own_d1_24 : decode prog_78_method_3_code 24 = .ok (.sipush 192, 3) := by decide +kernel
theorem own_d1_27 : decode prog_78_method_3_code 27 = .ok (.if_icmp .lt 10, 3) := by decide +kernel
theorem own_d1_30 : decode prog_78_method_3_code 30 = .ok (.iload_n 0, 1) := by decide +kernel
theorem own_d1_31 : decode prog_78_method_3_code 31 = .ok (.sipush 214, 3) := by decide +kernel
theorem own_d1_34 : decode prog_78_method_3_code 34 = .ok (.if_icmp .le 150, 3) := by decide +kernel
theorem own_d1_37 : decode prog_78_method_3_code 37 = .ok (.iload_n 0, 1) := by decide +kernel
theorem own_d1_38 : decode prog_78_method_3_code 38 = .ok (.sipush 216, 3) := by decide +kernel
theorem own_d1_41 : decode prog_78_method_3_code 41 = .ok (.if_icmp .lt 10, 3) := by decide +kernel
theorem own_d1_44 : decode prog_78_method_3_code 44 = .ok (.iload_n 0, 1) := by decide +kernel
theorem own_d1_45 : decode prog_78_method_3_code 45 = .ok (.sipush 246, 3) := by decide +kernel
theorem own_d1_48 : decode prog_78_method_3_code 48 = .ok (.if_icmp .le 136, 3) := by decide +kernel
theorem own_d1_51 : decode prog_78_method_3_code 51 = .ok (.iload_n 0, 1) := by decide +kernel
theorem own_d1_52 : decode prog_78_method_3_code 52 = .ok (.sipush 248, 3) := by decide +kernel
theorem own_d1_55 : decode prog_78_method_3_code 55 = .ok (.if_icmp .lt 10, 3) := by decide +kernel
theorem own_d1_58 : decode prog_78_method_3_code 58 = .ok (.iload_n 0, 1) := by decide +kernel
theorem own_d1_59 : decode prog_78_method_3_code 59 = .ok (.sipush 767, 3) := by decide +kernel
theorem own_d1_62 : decode prog_78_method_3_code 62 = .ok (.if_icmp .le 122, 3) := by decide +kernel
theorem own_d1_65 : decode prog_78_method_3_code 65 = .ok (.iload_n 0, 1) := by decide +kernel
theorem own_d1_66 : decode prog_78_method_3_code 66 = .ok (.sipush 880, 3) := by decide +kernel
theorem own_d1_69 : decode prog_78_method_3_code 69 = .ok (.if_icmp .lt 10, 3) := by decide +kernel
theorem own_d1_72 : decode prog_78_method_3_code 72 = .ok (.iload_n 0, 1) := by decide +kernel
theorem own_d1_73 : decode prog_78_method_3_code 73 = .ok (.sipush 893, 3) := by decide +kernel
theorem own_d1_76 : decode prog_78_method_3_code 76 = .ok (.if_icmp .le 108, 3) := by decide +kernel
theorem own_d1_79 : decode prog_78_method_3_code 79 = .ok (.iload_n 0, 1) := by decide +kernel
theorem own_d1_80 : decode prog_78_method_3_code 80 = .ok (.sipush 895, 3) := by decide +kernel
theorem own_d1_83 : decode prog_78_method_3_code 83 = .ok (.if_icmp .lt 10, 3) := by decide +kernel
theorem own_d1_86 : decode prog_78_method_3_code 86 = .ok (.iload_n 0, 1) := by decide +kernel
theorem own_d1_87 : decode prog_78_method_3_code 87 = .ok (.sipush 8191, 3) := by decide +kernel
theorem own_d1_90 : decode prog_78_method_3_code 90 = .ok (.if_icmp .le 94, 3) := by decide +kernel
theorem own_d1_93 : decode prog_78_method_3_code 93 = .ok (.iload_n 0, 1) := by decide +kernel
theorem own_d1_94 : decode prog_78_method_3_code 94 = .ok (.sipush 8204, 3) := by decide +kernel
theorem own_d1_97 : decode prog_78_method_3_code 97 = .ok (.if_icmp .eq 87, 3) := by decide +kernel
theorem own_d1_100 : decode prog_78_method_3_code 100 = .ok (.iload_n 0, 1) := by decide +kernel
theorem own_d1_101 : decode prog_78_method_3_code 101 = .ok (.sipush 8205, 3) := by decide +kernel
theorem own_d1_104 : decode prog_78_method_3_code 104 = .ok (.if_icmp .eq 80, 3) := by decide +kernel
theorem own_d1_107 : decode prog_78_method_3_code 107 = .ok (.iload_n 0, 1) := by decide +kernel
theorem own_d1_108 : decode prog_78_method_3_code 108 = .ok (.sipush 8304, 3) := by decide +kernel
theorem own_d1_111 : decode prog_78_method_3_code 111 = .ok (.if_icmp .lt 10, 3) := by decide +kernel
theorem own_d1_114 : decode prog_78_method_3_code 114 = .ok (.iload_n 0, 1) := by decide +kernel
theorem own_d1_115 : decode prog_78_method_3_code 115 = .ok (.sipush 8591, 3) := by decide +kernel
theorem own_d1_118 : decode prog_78_method_3_code 118 = .ok (.if_icmp .le 66, 3) := by decide +kernel
theorem own_d1_121 : decode prog_78_method_3_code 121 = .ok (.iload_n 0, 1) := by decide +kernel
theorem own_d1_122 : decode prog_78_method_3_code 122 = .ok (.sipush 11264, 3) := by decide +kernel
theorem own_d1_125 : decode prog_78_method_3_code 125 = .ok (.if_icmp .lt 10, 3) := by decide +kernel
theorem own_d1_128 : decode prog_78_method_3_code 128 = .ok (.iload_n 0, 1) := by decide +kernel
theorem own_d1_129 : decode prog_78_method_3_code 129 = .ok (.sipush 12271, 3) := by decide +kernel
theorem own_d1_132 : decode prog_78_method_3_code 132 = .ok (.if_icmp .le 52, 3) := by decide +kernel
theorem own_d1_135 : decode prog_78_method_3_code 135 = .ok (.iload_n 0, 1) := by decide +kernel
theorem own_d1_136 : decode prog_78_method_3_code 136 = .ok (.sipush 12289, 3) := by decide +kernel
theorem own_d1_139 : decode prog_78_method_3_code 139 = .ok (.if_icmp .lt 9, 3) := by decide +kernel
theorem own_d1_142 : decode prog_78_method_3_code 142 = .ok (.iload_n 0, 1) := by decide +kernel
theorem own_d1_143 : decode prog_78_method_3_code 143 = .ok (.ldc 7, 2) := by decide +kernel
theorem own_d1_145 : decode prog_78_method_3_code 145 = .ok (.if_icmp .le 39, 3) := by decide +kernel
theorem own_d1_148 : decode prog_78_method_3_code 148 = .ok (.iload_n 0, 1) := by decide +kernel
theorem own_d1_149 : decode prog_78_method_3_code 149 = .ok (.ldc 20, 2) := by decide +kernel
theorem own_d1_151 : decode prog_78_method_3_code 151 = .ok (.if_icmp .lt 9, 3) := by decide +kernel
theorem own_d1_154 : decode prog_78_method_3_code 154 = .ok (.iload_n 0, 1) := by decide +kernel
theorem own_d1_155 : decode prog_78_method_3_code 155 = .ok (.ldc 21, 2) := by decide +kernel
theorem own_d1_157 : decode prog_78_method_3_code 157 = .ok (.if_icmp .le 27, 3) := by decide +kernel
theorem own_d1_160 : decode prog_78_method_3_code 160 = .ok (.iload_n 0, 1) := by decide +kernel
theorem own_d1_161 : decode prog_78_method_3_code 161 = .ok (.ldc 22, 2) := by decide +kernel
theorem own_d1_163 : decode prog_78_method_3_code 163 = .ok (.if_icmp .lt 9, 3) := by decide +kernel
theorem own_d1_166 : decode prog_78_method_3_code 166 = .ok (.iload_n 0, 1) := by decide +kernel
theorem own_d1_167 : decode prog_78_method_3_code 167 = .ok (.ldc 9, 2) := by decide +kernel
theorem own_d1_169 : decode prog_78_method_3_code 169 = .ok (.if_icmp .le 15, 3) := by decide +kernel
theorem own_d1_172 : decode prog_78_method_3_code 172 = .ok (.iload_n 0, 1) := by decide +kernel
theorem own_d1_173 : decode prog_78_method_3_code 173 = .ok (.ldc 10, 2) := by decide +kernel
theorem own_d1_175 : decode prog_78_method_3_code 175 = .ok (.if_icmp .lt 13, 3) := by decide +kernel
theorem own_d1_178 : decode prog_78_method_3_code 178 = .ok (.iload_n 0, 1) := by decide +kernel
theorem own_d1_179 : decode prog_78_method_3_code 179 = .ok (.ldc 23, 2) := by decide +kernel
theorem own_d1_181 : decode prog_78_method_3_code 181 = .ok (.if_icmp .gt 7, 3) := by decide +kernel
theorem own_d1_184 : decode prog_78_method_3_code 184 = .ok (.iconst 1, 1) := by decide +kernel
theorem own_d1_185 : decode prog_78_method_3_code 185 = .ok (.goto 4, 3) := by decide +kernel
theorem own_d1_188 : decode prog_78_method_3_code 188 = .ok (.iconst 0, 1) := by decide +kernel
theorem own_d1_189 : decode prog_78_method_3_code 189 = .ok (.ireturn, 1) := by decide +kernel
theorem own_ef1 (m : MethodId) (x0 : Int32) : entryFrame m #[(.int x0)] 1 = mkF m 0 #[.val (.int x0)] [] := by first | (simp [entryFrame, mkF, argsToLocals, Value.category]; done) | rfl
set_option maxRecDepth 65536 in
set_option maxHeartbeats 40000000 in
theorem rm1 (l : Launch) (Z : State) (a0 : Array Value) (hw : ∀ d ∈ tables_1, d.before a0 Z = true) (ws : List Jvm.Cond) (p0 : Int32) (ta : Addr) (f : Int32 → Int32) (h0 : Heap) (n0 : Nat) (Z0 : n0 ≤ h0.size) (S_t : Sta Z h0 "com/example/traceloom/traceloom/io/xes/XmlCharacters" "NAME_BYTES" "[B" (.ref ta)) (A_t : Ints Z h0 ta .byte (128 : Int32) f) (hp : ¬ p0 < 0) :
    MetFree l (⟨"com/example/traceloom/traceloom/io/xes/XmlCharacters", "isNameStart", "(I)Z"⟩ : MethodName) (head1 (Jvm.Cond.code (⟨"com/example/traceloom/traceloom/io/xes/XmlCharacters", "isNameStart", "(I)Z"⟩ : MethodName) prog_78_method_3_code 1 (some .boolean) :: ws) ({ frames := 0, cells := 0, slots := 0, locals := 0 } : Room)) (fun a U => a = #[(.int p0)] ∧ Z.Warmed39 U.vm ∧ U.heap = h0) (fun _ _ _ _ _ => True) (fun _ U o U' => ∃ v L, o = .returned v ∧ (QPure n0 h0 (.int (own_F1 p0 f))) v U'.heap L ∧ FrameEnd U o U' L ({ frames := 0, cells := 0, slots := 0, locals := 0 } : Room).cells ({ frames := 0, cells := 0, slots := 0, locals := 0 } : Room).slots) := by
  refine MetFree.of_bodySF (plainFor_of_name own_pn0) hisR ?_
  intro p e s m args below meth c s₁ Bd hml0 hP hK
  obtain ⟨rfl, hZ, hh⟩ := hP
  have hx := Bd.exec
  have hby := Bd.bytes
  have hml : c.maxLocals = 1 := hml0
  have hown : s.vm.findClass "com/example/traceloom/traceloom/io/xes/XmlCharacters" = some m.cls := findClass_of_methodNamed Bd.named
  have hnm := (name_of_methodNamed Bd.named Bd.method).1
  have X0 : Stand p l e ({ frames := 0, cells := 0, slots := 0, locals := 0 } : Room) s m #[(.int p0)] below meth c s₁ [] 0 0 := Stand.of_body Bd
  have e0 : s₁.heap = h0 := by rw [← hh, Bd.state]; rfl
  have N0 := Fr.nil n0
  suffices H : Run p.tables e below (FinR s ({ frames := 0, cells := 0, slots := 0, locals := 0 } : Room).cells ({ frames := 0, cells := 0, slots := 0, locals := 0 } : Room).slots (QPure n0 h0 (.int (own_F1 p0 f)))) s₁ (mkF m 0 #[.val (.int p0)] []) by
    obtain ⟨s₂, o, k1, k2, k3, k4⟩ := H
    exact ⟨s₂, o, castTop (own_ef1 m p0) k1, k2, k3, k4⟩
  obtain ⟨r, hr⟩ : ∃ r, r = own_F1 p0 f := ⟨_, rfl⟩
  rw [← hr]
  have J189 : ∀ (y189_0 : Int32) (r : Int32), r = (own_f1_189 p0 f y189_0) → ∀ (T : State) (locs : List Loc), Stand p l e ({ frames := 0, cells := 0, slots := 0, locals := 0 } : Room) s m #[(.int p0)] below meth c T locs 0 0 → T.heap = h0 → Fr n0 locs → Run p.tables e below (FinR s ({ frames := 0, cells := 0, slots := 0, locals := 0 } : Room).cells ({ frames := 0, cells := 0, slots := 0, locals := 0 } : Room).slots (QPure n0 h0 (.int r))) T (mkF m 189 #[.val (.int p0)] [(.int y189_0)]) := by
    clear hr
    intro y189_0 r hr T locs X eT N
    rw [own_f1_189] at hr
    exact Run.retSmall X hx (t := .boolean) (z' := (y189_0 &&& 1)) Bd.notSynchronized Bd.returns (by simp) rfl (hb hby own_d1_189) ⟨by rw [hr], N, eT⟩ (by decide) (by decide)
  have J188 : ∀  (r : Int32), r = (own_f1_188 p0 f) → ∀ (T : State) (locs : List Loc), Stand p l e ({ frames := 0, cells := 0, slots := 0, locals := 0 } : Room) s m #[(.int p0)] below meth c T locs 0 0 → T.heap = h0 → Fr n0 locs → Run p.tables e below (FinR s ({ frames := 0, cells := 0, slots := 0, locals := 0 } : Room).cells ({ frames := 0, cells := 0, slots := 0, locals := 0 } : Room).slots (QPure n0 h0 (.int r))) T (mkF m 188 #[.val (.int p0)] []) := by
    clear hr
    intro  r hr T locs X eT N
    rw [own_f1_188] at hr
    refine Run.iconst (pc' := 189) (v := (0 : Int32)) X hx (hb hby own_d1_188) rfl rfl ?_
    exact J189 (0 : Int32) _ hr _ _ X eT N
  have J184 : ∀  (r : Int32), r = (own_f1_184 p0 f) → ∀ (T : State) (locs : List Loc), Stand p l e ({ frames := 0, cells := 0, slots := 0, locals := 0 } : Room) s m #[(.int p0)] below meth c T locs 0 0 → T.heap = h0 → Fr n0 locs → Run p.tables e below (FinR s ({ frames := 0, cells := 0, slots := 0, locals := 0 } : Room).cells ({ frames := 0, cells := 0, slots := 0, locals := 0 } : Room).slots (QPure n0 h0 (.int r))) T (mkF m 184 #[.val (.int p0)] []) := by
    clear hr
    intro  r hr T locs X eT N
    rw [own_f1_184] at hr
    refine Run.iconst (pc' := 185) (v := (1 : Int32)) X hx (hb hby own_d1_184) rfl rfl ?_
    refine Run.goto (pc' := 189) X hx (hb hby own_d1_185) (by decide) (by decide) ?_
    exact J189 (1 : Int32) _ hr _ _ X eT N
  have J172 : ∀  (r : Int32), r = (own_f1_172 p0 f) → ∀ (T : State) (locs : List Loc), Stand p l e ({ frames := 0, cells := 0, slots := 0, locals := 0 } : Room) s m #[(.int p0)] below meth c T locs 0 0 → T.heap = h0 → Fr n0 locs → Run p.tables e below (FinR s ({ frames := 0, cells := 0, slots := 0, locals := 0 } : Room).cells ({ frames := 0, cells := 0, slots := 0, locals := 0 } : Room).slots (QPure n0 h0 (.int r))) T (mkF m 172 #[.val (.int p0)] []) := by
    clear hr
    intro  r hr T locs X eT N
    rw [own_f1_172] at hr
    refine Run.iloadN (pc' := 173) X hx (hb hby own_d1_172) rfl rfl ?_
    refine Run.ldcInt (pc' := 175) (v := (65536 : Int32)) X hx hown (mvT hZ (hw _ (List.mem_of_getElem? (i := 33) rfl))) (hb hby own_d1_173) rfl ?_
    by_cases hc175 : p0 < (65536 : Int32)
    · rw [if_pos hc175] at hr
      refine Run.icmpYes (pc' := 188) X hx (hb hby own_d1_175) (tlt hc175).1 (by decide) (by decide) ?_
      exact J188  _ hr _ _ X eT N
    · rw [if_neg hc175] at hr
      refine Run.icmpNo (pc' := 178) X hx (hb hby own_d1_175) (flt hc175).1 rfl ?_
      refine Run.iloadN (pc' := 179) X hx (hb hby own_d1_178) rfl rfl ?_
      refine Run.ldcInt (pc' := 181) (v := (983039 : Int32)) X hx hown (mvT hZ (hw _ (List.mem_of_getElem? (i := 34) rfl))) (hb hby own_d1_179) rfl ?_
      by_cases hc181 : (983039 : Int32) < p0
      · rw [if_pos hc181] at hr
        refine Run.icmpYes (pc' := 188) X hx (hb hby own_d1_181) (tlt hc181).2.2.1 (by decide) (by decide) ?_
        exact J188  _ hr _ _ X eT N
      · rw [if_neg hc181] at hr
        refine Run.icmpNo (pc' := 184) X hx (hb hby own_d1_181) (flt hc181).2.2.1 rfl ?_
        exact J184  _ hr _ _ X eT N
  have J160 : ∀  (r : Int32), r = (own_f1_160 p0 f) → ∀ (T : State) (locs : List Loc), Stand p l e ({ frames := 0, cells := 0, slots := 0, locals := 0 } : Room) s m #[(.int p0)] below meth c T locs 0 0 → T.heap = h0 → Fr n0 locs → Run p.tables e below (FinR s ({ frames := 0, cells := 0, slots := 0, locals := 0 } : Room).cells ({ frames := 0, cells := 0, slots := 0, locals := 0 } : Room).slots (QPure n0 h0 (.int r))) T (mkF m 160 #[.val (.int p0)] []) := by
    clear hr
    intro  r hr T locs X eT N
    rw [own_f1_160] at hr
    refine Run.iloadN (pc' := 161) X hx (hb hby own_d1_160) rfl rfl ?_
    refine Run.ldcInt (pc' := 163) (v := (65008 : Int32)) X hx hown (mvT hZ (hw _ (List.mem_of_getElem? (i := 31) rfl))) (hb hby own_d1_161) rfl ?_
    by_cases hc163 : p0 < (65008 : Int32)
    · rw [if_pos hc163] at hr
      refine Run.icmpYes (pc' := 172) X hx (hb hby own_d1_163) (tlt hc163).1 (by decide) (by decide) ?_
      exact J172  _ hr _ _ X eT N
    · rw [if_neg hc163] at hr
      refine Run.icmpNo (pc' := 166) X hx (hb hby own_d1_163) (flt hc163).1 rfl ?_
      refine Run.iloadN (pc' := 167) X hx (hb hby own_d1_166) rfl rfl ?_
      refine Run.ldcInt (pc' := 169) (v := (65533 : Int32)) X hx hown (mvT hZ (hw _ (List.mem_of_getElem? (i := 32) rfl))) (hb hby own_d1_167) rfl ?_
      by_cases hc169 : (65533 : Int32) < p0
      · rw [if_pos hc169] at hr
        refine Run.icmpNo (pc' := 172) X hx (hb hby own_d1_169) (tlt hc169).2.2.2 rfl ?_
        exact J172  _ hr _ _ X eT N
      · rw [if_neg hc169] at hr
        refine Run.icmpYes (pc' := 184) X hx (hb hby own_d1_169) (flt hc169).2.2.2 (by decide) (by decide) ?_
        exact J184  _ hr _ _ X eT N
  have J148 : ∀  (r : Int32), r = (own_f1_148 p0 f) → ∀ (T : State) (locs : List Loc), Stand p l e ({ frames := 0, cells := 0, slots := 0, locals := 0 } : Room) s m #[(.int p0)] below meth c T locs 0 0 → T.heap = h0 → Fr n0 locs → Run p.tables e below (FinR s ({ frames := 0, cells := 0, slots := 0, locals := 0 } : Room).cells ({ frames := 0, cells := 0, slots := 0, locals := 0 } : Room).slots (QPure n0 h0 (.int r))) T (mkF m 148 #[.val (.int p0)] []) := by
    clear hr
    intro  r hr T locs X eT N
    rw [own_f1_148] at hr
    refine Run.iloadN (pc' := 149) X hx (hb hby own_d1_148) rfl rfl ?_
    refine Run.ldcInt (pc' := 151) (v := (63744 : Int32)) X hx hown (mvT hZ (hw _ (List.mem_of_getElem? (i := 29) rfl))) (hb hby own_d1_149) rfl ?_
    by_cases hc151 : p0 < (63744 : Int32)
    · rw [if_pos hc151] at hr
      refine Run.icmpYes (pc' := 160) X hx (hb hby own_d1_151) (tlt hc151).1 (by decide) (by decide) ?_
      exact J160  _ hr _ _ X eT N
    · rw [if_neg hc151] at hr
      refine Run.icmpNo (pc' := 154) X hx (hb hby own_d1_151) (flt hc151).1 rfl ?_
      refine Run.iloadN (pc' := 155) X hx (hb hby own_d1_154) rfl rfl ?_
      refine Run.ldcInt (pc' := 157) (v := (64975 : Int32)) X hx hown (mvT hZ (hw _ (List.mem_of_getElem? (i := 30) rfl))) (hb hby own_d1_155) rfl ?_
      by_cases hc157 : (64975 : Int32) < p0
      · rw [if_pos hc157] at hr
        refine Run.icmpNo (pc' := 160) X hx (hb hby own_d1_157) (tlt hc157).2.2.2 rfl ?_
        exact J160  _ hr _ _ X eT N
      · rw [if_neg hc157] at hr
        refine Run.icmpYes (pc' := 184) X hx (hb hby own_d1_157) (flt hc157).2.2.2 (by decide) (by decide) ?_
        exact J184  _ hr _ _ X eT N
  have J135 : ∀  (r : Int32), r = (own_f1_135 p0 f) → ∀ (T : State) (locs : List Loc), Stand p l e ({ frames := 0, cells := 0, slots := 0, locals := 0 } : Room) s m #[(.int p0)] below meth c T locs 0 0 → T.heap = h0 → Fr n0 locs → Run p.tables e below (FinR s ({ frames := 0, cells := 0, slots := 0, locals := 0 } : Room).cells ({ frames := 0, cells := 0, slots := 0, locals := 0 } : Room).slots (QPure n0 h0 (.int r))) T (mkF m 135 #[.val (.int p0)] []) := by
    clear hr
    intro  r hr T locs X eT N
    rw [own_f1_135] at hr
    refine Run.iloadN (pc' := 136) X hx (hb hby own_d1_135) rfl rfl ?_
    refine Run.sipush (pc' := 139) (v := (12289 : Int32)) X hx (hb hby own_d1_136) rfl rfl ?_
    by_cases hc139 : p0 < (12289 : Int32)
    · rw [if_pos hc139] at hr
      refine Run.icmpYes (pc' := 148) X hx (hb hby own_d1_139) (tlt hc139).1 (by decide) (by decide) ?_
      exact J148  _ hr _ _ X eT N
    · rw [if_neg hc139] at hr
      refine Run.icmpNo (pc' := 142) X hx (hb hby own_d1_139) (flt hc139).1 rfl ?_
      refine Run.iloadN (pc' := 143) X hx (hb hby own_d1_142) rfl rfl ?_
      refine Run.ldcInt (pc' := 145) (v := (55295 : Int32)) X hx hown (mvT hZ (hw _ (List.mem_of_getElem? (i := 28) rfl))) (hb hby own_d1_143) rfl ?_
      by_cases hc145 : (55295 : Int32) < p0
      · rw [if_pos hc145] at hr
        refine Run.icmpNo (pc' := 148) X hx (hb hby own_d1_145) (tlt hc145).2.2.2 rfl ?_
        exact J148  _ hr _ _ X eT N
      · rw [if_neg hc145] at hr
        refine Run.icmpYes (pc' := 184) X hx (hb hby own_d1_145) (flt hc145).2.2.2 (by decide) (by decide) ?_
        exact J184  _ hr _ _ X eT N
  have J121 : ∀  (r : Int32), r = (own_f1_121 p0 f) → ∀ (T : State) (locs : List Loc), Stand p l e ({ frames := 0, cells := 0, slots := 0, locals := 0 } : Room) s m #[(.int p0)] below meth c T locs 0 0 → T.heap = h0 → Fr n0 locs → Run p.tables e below (FinR s ({ frames := 0, cells := 0, slots := 0, locals := 0 } : Room).cells ({ frames := 0, cells := 0, slots := 0, locals := 0 } : Room).slots (QPure n0 h0 (.int r))) T (mkF m 121 #[.val (.int p0)] []) := by
    clear hr
    intro  r hr T locs X eT N
    rw [own_f1_121] at hr
    refine Run.iloadN (pc' := 122) X hx (hb hby own_d1_121) rfl rfl ?_
    refine Run.sipush (pc' := 125) (v := (11264 : Int32)) X hx (hb hby own_d1_122) rfl rfl ?_
    by_cases hc125 : p0 < (11264 : Int32)
    · rw [if_pos hc125] at hr
      refine Run.icmpYes (pc' := 135) X hx (hb hby own_d1_125) (tlt hc125).1 (by decide) (by decide) ?_
      exact J135  _ hr _ _ X eT N
    · rw [if_neg hc125] at hr
      refine Run.icmpNo (pc' := 128) X hx (hb hby own_d1_125) (flt hc125).1 rfl ?_
      refine Run.iloadN (pc' := 129) X hx (hb hby own_d1_128) rfl rfl ?_
      refine Run.sipush (pc' := 132) (v := (12271 : Int32)) X hx (hb hby own_d1_129) rfl rfl ?_
      by_cases hc132 : (12271 : Int32) < p0
      · rw [if_pos hc132] at hr
        refine Run.icmpNo (pc' := 135) X hx (hb hby own_d1_132) (tlt hc132).2.2.2 rfl ?_
        exact J135  _ hr _ _ X eT N
      · rw [if_neg hc132] at hr
        refine Run.icmpYes (pc' := 184) X hx (hb hby own_d1_132) (flt hc132).2.2.2 (by decide) (by decide) ?_
        exact J184  _ hr _ _ X eT N
  have J93 : ∀  (r : Int32), r = (own_f1_93 p0 f) → ∀ (T : State) (locs : List Loc), Stand p l e ({ frames := 0, cells := 0, slots := 0, locals := 0 } : Room) s m #[(.int p0)] below meth c T locs 0 0 → T.heap = h0 → Fr n0 locs → Run p.tables e below (FinR s ({ frames := 0, cells := 0, slots := 0, locals := 0 } : Room).cells ({ frames := 0, cells := 0, slots := 0, locals := 0 } : Room).slots (QPure n0 h0 (.int r))) T (mkF m 93 #[.val (.int p0)] []) := by
    clear hr
    intro  r hr T locs X eT N
    rw [own_f1_93] at hr
    refine Run.iloadN (pc' := 94) X hx (hb hby own_d1_93) rfl rfl ?_
    refine Run.sipush (pc' := 97) (v := (8204 : Int32)) X hx (hb hby own_d1_94) rfl rfl ?_
    by_cases hc97 : p0 = (8204 : Int32)
    · rw [if_pos hc97] at hr
      refine Run.icmpYes (pc' := 184) X hx (hb hby own_d1_97) (teq hc97).1 (by decide) (by decide) ?_
      exact J184  _ hr _ _ X eT N
    · rw [if_neg hc97] at hr
      refine Run.icmpNo (pc' := 100) X hx (hb hby own_d1_97) (feq hc97).1 rfl ?_
      refine Run.iloadN (pc' := 101) X hx (hb hby own_d1_100) rfl rfl ?_
      refine Run.sipush (pc' := 104) (v := (8205 : Int32)) X hx (hb hby own_d1_101) rfl rfl ?_
      by_cases hc104 : p0 = (8205 : Int32)
      · rw [if_pos hc104] at hr
        refine Run.icmpYes (pc' := 184) X hx (hb hby own_d1_104) (teq hc104).1 (by decide) (by decide) ?_
        exact J184  _ hr _ _ X eT N
      · rw [if_neg hc104] at hr
        refine Run.icmpNo (pc' := 107) X hx (hb hby own_d1_104) (feq hc104).1 rfl ?_
        refine Run.iloadN (pc' := 108) X hx (hb hby own_d1_107) rfl rfl ?_
        refine Run.sipush (pc' := 111) (v := (8304 : Int32)) X hx (hb hby own_d1_108) rfl rfl ?_
        by_cases hc111 : p0 < (8304 : Int32)
        · rw [if_pos hc111] at hr
          refine Run.icmpYes (pc' := 121) X hx (hb hby own_d1_111) (tlt hc111).1 (by decide) (by decide) ?_
          exact J121  _ hr _ _ X eT N
        · rw [if_neg hc111] at hr
          refine Run.icmpNo (pc' := 114) X hx (hb hby own_d1_111) (flt hc111).1 rfl ?_
          refine Run.iloadN (pc' := 115) X hx (hb hby own_d1_114) rfl rfl ?_
          refine Run.sipush (pc' := 118) (v := (8591 : Int32)) X hx (hb hby own_d1_115) rfl rfl ?_
          by_cases hc118 : (8591 : Int32) < p0
          · rw [if_pos hc118] at hr
            refine Run.icmpNo (pc' := 121) X hx (hb hby own_d1_118) (tlt hc118).2.2.2 rfl ?_
            exact J121  _ hr _ _ X eT N
          · rw [if_neg hc118] at hr
            refine Run.icmpYes (pc' := 184) X hx (hb hby own_d1_118) (flt hc118).2.2.2 (by decide) (by decide) ?_
            exact J184  _ hr _ _ X eT N
  have J79 : ∀  (r : Int32), r = (own_f1_79 p0 f) → ∀ (T : State) (locs : List Loc), Stand p l e ({ frames := 0, cells := 0, slots := 0, locals := 0 } : Room) s m #[(.int p0)] below meth c T locs 0 0 → T.heap = h0 → Fr n0 locs → Run p.tables e below (FinR s ({ frames := 0, cells := 0, slots := 0, locals := 0 } : Room).cells ({ frames := 0, cells := 0, slots := 0, locals := 0 } : Room).slots (QPure n0 h0 (.int r))) T (mkF m 79 #[.val (.int p0)] []) := by
    clear hr
    intro  r hr T locs X eT N
    rw [own_f1_79] at hr
    refine Run.iloadN (pc' := 80) X hx (hb hby own_d1_79) rfl rfl ?_
    refine Run.sipush (pc' := 83) (v := (895 : Int32)) X hx (hb hby own_d1_80) rfl rfl ?_
    by_cases hc83 : p0 < (895 : Int32)
    · rw [if_pos hc83] at hr
      refine Run.icmpYes (pc' := 93) X hx (hb hby own_d1_83) (tlt hc83).1 (by decide) (by decide) ?_
      exact J93  _ hr _ _ X eT N
    · rw [if_neg hc83] at hr
      refine Run.icmpNo (pc' := 86) X hx (hb hby own_d1_83) (flt hc83).1 rfl ?_
      refine Run.iloadN (pc' := 87) X hx (hb hby own_d1_86) rfl rfl ?_
      refine Run.sipush (pc' := 90) (v := (8191 : Int32)) X hx (hb hby own_d1_87) rfl rfl ?_
      by_cases hc90 : (8191 : Int32) < p0
      · rw [if_pos hc90] at hr
        refine Run.icmpNo (pc' := 93) X hx (hb hby own_d1_90) (tlt hc90).2.2.2 rfl ?_
        exact J93  _ hr _ _ X eT N
      · rw [if_neg hc90] at hr
        refine Run.icmpYes (pc' := 184) X hx (hb hby own_d1_90) (flt hc90).2.2.2 (by decide) (by decide) ?_
        exact J184  _ hr _ _ X eT N
  have J65 : ∀  (r : Int32), r = (own_f1_65 p0 f) → ∀ (T : State) (locs : List Loc), Stand p l e ({ frames := 0, cells := 0, slots := 0, locals := 0 } : Room) s m #[(.int p0)] below meth c T locs 0 0 → T.heap = h0 → Fr n0 locs → Run p.tables e below (FinR s ({ frames := 0, cells := 0, slots := 0, locals := 0 } : Room).cells ({ frames := 0, cells := 0, slots := 0, locals := 0 } : Room).slots (QPure n0 h0 (.int r))) T (mkF m 65 #[.val (.int p0)] []) := by
    clear hr
    intro  r hr T locs X eT N
    rw [own_f1_65] at hr
    refine Run.iloadN (pc' := 66) X hx (hb hby own_d1_65) rfl rfl ?_
    refine Run.sipush (pc' := 69) (v := (880 : Int32)) X hx (hb hby own_d1_66) rfl rfl ?_
    by_cases hc69 : p0 < (880 : Int32)
    · rw [if_pos hc69] at hr
      refine Run.icmpYes (pc' := 79) X hx (hb hby own_d1_69) (tlt hc69).1 (by decide) (by decide) ?_
      exact J79  _ hr _ _ X eT N
    · rw [if_neg hc69] at hr
      refine Run.icmpNo (pc' := 72) X hx (hb hby own_d1_69) (flt hc69).1 rfl ?_
      refine Run.iloadN (pc' := 73) X hx (hb hby own_d1_72) rfl rfl ?_
      refine Run.sipush (pc' := 76) (v := (893 : Int32)) X hx (hb hby own_d1_73) rfl rfl ?_
      by_cases hc76 : (893 : Int32) < p0
      · rw [if_pos hc76] at hr
        refine Run.icmpNo (pc' := 79) X hx (hb hby own_d1_76) (tlt hc76).2.2.2 rfl ?_
        exact J79  _ hr _ _ X eT N
      · rw [if_neg hc76] at hr
        refine Run.icmpYes (pc' := 184) X hx (hb hby own_d1_76) (flt hc76).2.2.2 (by decide) (by decide) ?_
        exact J184  _ hr _ _ X eT N
  have J51 : ∀  (r : Int32), r = (own_f1_51 p0 f) → ∀ (T : State) (locs : List Loc), Stand p l e ({ frames := 0, cells := 0, slots := 0, locals := 0 } : Room) s m #[(.int p0)] below meth c T locs 0 0 → T.heap = h0 → Fr n0 locs → Run p.tables e below (FinR s ({ frames := 0, cells := 0, slots := 0, locals := 0 } : Room).cells ({ frames := 0, cells := 0, slots := 0, locals := 0 } : Room).slots (QPure n0 h0 (.int r))) T (mkF m 51 #[.val (.int p0)] []) := by
    clear hr
    intro  r hr T locs X eT N
    rw [own_f1_51] at hr
    refine Run.iloadN (pc' := 52) X hx (hb hby own_d1_51) rfl rfl ?_
    refine Run.sipush (pc' := 55) (v := (248 : Int32)) X hx (hb hby own_d1_52) rfl rfl ?_
    by_cases hc55 : p0 < (248 : Int32)
    · rw [if_pos hc55] at hr
      refine Run.icmpYes (pc' := 65) X hx (hb hby own_d1_55) (tlt hc55).1 (by decide) (by decide) ?_
      exact J65  _ hr _ _ X eT N
    · rw [if_neg hc55] at hr
      refine Run.icmpNo (pc' := 58) X hx (hb hby own_d1_55) (flt hc55).1 rfl ?_
      refine Run.iloadN (pc' := 59) X hx (hb hby own_d1_58) rfl rfl ?_
      refine Run.sipush (pc' := 62) (v := (767 : Int32)) X hx (hb hby own_d1_59) rfl rfl ?_
      by_cases hc62 : (767 : Int32) < p0
      · rw [if_pos hc62] at hr
        refine Run.icmpNo (pc' := 65) X hx (hb hby own_d1_62) (tlt hc62).2.2.2 rfl ?_
        exact J65  _ hr _ _ X eT N
      · rw [if_neg hc62] at hr
        refine Run.icmpYes (pc' := 184) X hx (hb hby own_d1_62) (flt hc62).2.2.2 (by decide) (by decide) ?_
        exact J184  _ hr _ _ X eT N
  have J37 : ∀  (r : Int32), r = (own_f1_37 p0 f) → ∀ (T : State) (locs : List Loc), Stand p l e ({ frames := 0, cells := 0, slots := 0, locals := 0 } : Room) s m #[(.int p0)] below meth c T locs 0 0 → T.heap = h0 → Fr n0 locs → Run p.tables e below (FinR s ({ frames := 0, cells := 0, slots := 0, locals := 0 } : Room).cells ({ frames := 0, cells := 0, slots := 0, locals := 0 } : Room).slots (QPure n0 h0 (.int r))) T (mkF m 37 #[.val (.int p0)] []) := by
    clear hr
    intro  r hr T locs X eT N
    rw [own_f1_37] at hr
    refine Run.iloadN (pc' := 38) X hx (hb hby own_d1_37) rfl rfl ?_
    refine Run.sipush (pc' := 41) (v := (216 : Int32)) X hx (hb hby own_d1_38) rfl rfl ?_
    by_cases hc41 : p0 < (216 : Int32)
    · rw [if_pos hc41] at hr
      refine Run.icmpYes (pc' := 51) X hx (hb hby own_d1_41) (tlt hc41).1 (by decide) (by decide) ?_
      exact J51  _ hr _ _ X eT N
    · rw [if_neg hc41] at hr
      refine Run.icmpNo (pc' := 44) X hx (hb hby own_d1_41) (flt hc41).1 rfl ?_
      refine Run.iloadN (pc' := 45) X hx (hb hby own_d1_44) rfl rfl ?_
      refine Run.sipush (pc' := 48) (v := (246 : Int32)) X hx (hb hby own_d1_45) rfl rfl ?_
      by_cases hc48 : (246 : Int32) < p0
      · rw [if_pos hc48] at hr
        refine Run.icmpNo (pc' := 51) X hx (hb hby own_d1_48) (tlt hc48).2.2.2 rfl ?_
        exact J51  _ hr _ _ X eT N
      · rw [if_neg hc48] at hr
        refine Run.icmpYes (pc' := 184) X hx (hb hby own_d1_48) (flt hc48).2.2.2 (by decide) (by decide) ?_
        exact J184  _ hr _ _ X eT N
  have J22 : ∀ (y22_0 : Int32) (r : Int32), r = (own_f1_22 p0 f y22_0) → ∀ (T : State) (locs : List Loc), Stand p l e ({ frames := 0, cells := 0, slots := 0, locals := 0 } : Room) s m #[(.int p0)] below meth c T locs 0 0 → T.heap = h0 → Fr n0 locs → Run p.tables e below (FinR s ({ frames := 0, cells := 0, slots := 0, locals := 0 } : Room).cells ({ frames := 0, cells := 0, slots := 0, locals := 0 } : Room).slots (QPure n0 h0 (.int r))) T (mkF m 22 #[.val (.int p0)] [(.int y22_0)]) := by
    clear hr
    intro y22_0 r hr T locs X eT N
    rw [own_f1_22] at hr
    exact Run.retSmall X hx (t := .boolean) (z' := (y22_0 &&& 1)) Bd.notSynchronized Bd.returns (by simp) rfl (hb hby own_d1_22) ⟨by rw [hr], N, eT⟩ (by decide) (by decide)
  rw [own_F1] at hr
  refine Run.iloadN (pc' := 1) X0 hx (hb hby own_d1_0) rfl rfl ?_
  refine Run.sipush (pc' := 4) (v := (128 : Int32)) X0 hx (hb hby own_d1_1) rfl rfl ?_
  by_cases hc4 : p0 < (128 : Int32)
  · rw [if_pos hc4] at hr
    refine Run.icmpNo (pc' := 7) X0 hx (hb hby own_d1_4) (tlt hc4).2.1 rfl ?_
    obtain ⟨T1, X1, e1, st1⟩ := getS2 X0 hx hZ hown (host := "") (Or.inl (hw _ (List.mem_of_getElem? (i := 15) rfl))) Via.refl e0 S_t (g := (mkF m 7 #[.val (.int p0)] [])) rfl (hb hby own_d1_7)
    refine Run.back (g' := (mkF m 10 #[.val (.int p0)] [(.ref ta)])) st1 ?_
    refine Run.iloadN (pc' := 11) X1 hx (hb hby own_d1_10) rfl rfl ?_
    refine Run.baload (pc' := 12) X1 hx hZ e1 A_t hp hc4 (hb hby own_d1_11) rfl ?_
    refine Run.iconst (pc' := 13) (v := (2 : Int32)) X1 hx (hb hby own_d1_12) rfl rfl ?_
    refine Run.iand (pc' := 14) X1 hx (hb hby own_d1_13) rfl ?_
    by_cases hc14 : ((f p0) &&& (2 : Int32)) = (0 : Int32)
    · rw [if_pos hc14] at hr
      refine Run.ifYes (pc' := 21) X1 hx (hb hby own_d1_14) ((if0 _ _).trans (teq hc14).1) (by decide) (by decide) ?_
      refine Run.iconst (pc' := 22) (v := (0 : Int32)) X1 hx (hb hby own_d1_21) rfl rfl ?_
      exact J22 (0 : Int32) _ hr _ _ X1 e1 N0
    · rw [if_neg hc14] at hr
      refine Run.ifNo (pc' := 17) X1 hx (hb hby own_d1_14) ((if0 _ _).trans (feq hc14).1) rfl ?_
      refine Run.iconst (pc' := 18) (v := (1 : Int32)) X1 hx (hb hby own_d1_17) rfl rfl ?_
      refine Run.goto (pc' := 22) X1 hx (hb hby own_d1_18) (by decide) (by decide) ?_
      exact J22 (1 : Int32) _ hr _ _ X1 e1 N0
  · rw [if_neg hc4] at hr
    refine Run.icmpYes (pc' := 23) X0 hx (hb hby own_d1_4) (flt hc4).2.1 (by decide) (by decide) ?_
    refine Run.iloadN (pc' := 24) X0 hx (hb hby own_d1_23) rfl rfl ?_
    refine Run.sipush (pc' := 27) (v := (192 : Int32)) X0 hx (hb hby own_d1_24) rfl rfl ?_
    by_cases hc27 : p0 < (192 : Int32)
    · rw [if_pos hc27] at hr
      refine Run.icmpYes (pc' := 37) X0 hx (hb hby own_d1_27) (tlt hc27).1 (by decide) (by decide) ?_
      exact J37  _ hr _ _ X0 e0 N0
    · rw [if_neg hc27] at hr
      refine Run.icmpNo (pc' := 30) X0 hx (hb hby own_d1_27) (flt hc27).1 rfl ?_
      refine Run.iloadN (pc' := 31) X0 hx (hb hby own_d1_30) rfl rfl ?_
      refine Run.sipush (pc' := 34) (v := (214 : Int32)) X0 hx (hb hby own_d1_31) rfl rfl ?_
      by_cases hc34 : (214 : Int32) < p0
      · rw [if_pos hc34] at hr
        refine Run.icmpNo (pc' := 37) X0 hx (hb hby own_d1_34) (tlt hc34).2.2.2 rfl ?_
        exact J37  _ hr _ _ X0 e0 N0
      · rw [if_neg hc34] at hr
        refine Run.icmpYes (pc' := 184) X0 hx (hb hby own_d1_34) (flt hc34).2.2.2 (by decide) (by decide) ?_
        exact J184  _ hr _ _ X0 e0 N0
def own_f4_181 (p0 : Int32) (y181_0 : Int32) : Int32 := (y181_0 &&& 1)
def own_f4_176 (p0 : Int32) : Int32 := (own_f4_181 p0 (1 : Int32))
def own_f4_164 (p0 : Int32) : Int32 := (if p0 = (65534 : Int32) then (own_f4_176 p0) else (if p0 = (65535 : Int32) then (own_f4_176 p0) else (own_f4_181 p0 (0 : Int32))))
def own_f4_152 (p0 : Int32) : Int32 := (if p0 < (64976 : Int32) then (own_f4_164 p0) else (if (65007 : Int32) < p0 then (own_f4_164 p0) else (own_f4_176 p0)))
def own_f4_140 (p0 : Int32) : Int32 := (if p0 < (55296 : Int32) then (own_f4_152 p0) else (if (63743 : Int32) < p0 then (own_f4_152 p0) else (own_f4_176 p0)))
def own_f4_126 (p0 : Int32) : Int32 := (if p0 < (12272 : Int32) then (own_f4_140 p0) else (if (12288 : Int32) < p0 then (own_f4_140 p0) else (own_f4_176 p0)))
def own_f4_112 (p0 : Int32) : Int32 := (if p0 < (8592 : Int32) then (own_f4_126 p0) else (if (11263 : Int32) < p0 then (own_f4_126 p0) else (own_f4_176 p0)))
def own_f4_98 (p0 : Int32) : Int32 := (if p0 < (8206 : Int32) then (own_f4_112 p0) else (if (8303 : Int32) < p0 then (own_f4_112 p0) else (own_f4_176 p0)))
def own_f4_77 (p0 : Int32) : Int32 := (if p0 = (894 : Int32) then (own_f4_176 p0) else (if p0 < (8192 : Int32) then (own_f4_98 p0) else (if (8203 : Int32) < p0 then (own_f4_98 p0) else (own_f4_176 p0))))
def own_f4_49 (p0 : Int32) : Int32 := (if p0 = (215 : Int32) then (own_f4_176 p0) else (if p0 = (247 : Int32) then (own_f4_176 p0) else (if p0 < (768 : Int32) then (own_f4_77 p0) else (if (879 : Int32) < p0 then (own_f4_77 p0) else (own_f4_176 p0)))))
def own_f4_30 (p0 : Int32) : Int32 := (if p0 = (96 : Int32) then (own_f4_176 p0) else (if p0 < (123 : Int32) then (own_f4_49 p0) else (if (191 : Int32) < p0 then (own_f4_49 p0) else (own_f4_176 p0))))
def own_f4_18 (p0 : Int32) : Int32 := (if p0 < (91 : Int32) then (own_f4_30 p0) else (if (94 : Int32) < p0 then (own_f4_30 p0) else (own_f4_176 p0)))
def own_F4 (p0 : Int32) : Int32 := (if (57 : Int32) < p0 then (if p0 < (59 : Int32) then (own_f4_18 p0) else (if (64 : Int32) < p0 then (own_f4_18 p0) else (own_f4_176 p0))) else (own_f4_176 p0))
theorem own_d4_0 : decode method_2_code 0 = .ok (.iload_n 0, 1) := by decide +kernel
theorem own_d4_1 : decode method_2_code 1 = .ok (.bipush 57, 2) := by decide +kernel
theorem own_d4_3 : decode method_2_code 3 = .ok (.if_icmp .le 173, 3) := by decide +kernel
theorem own_d4_6 : decode method_2_code 6 = .ok (.iload_n 0, 1) := by decide +kernel
theorem own_d4_7 : decode method_2_code 7 = .ok (.bipush 59, 2) := by decide +kernel
theorem own_d4_9 : decode method_2_code 9 = .ok (.if_icmp .lt 9, 3) := by decide +kernel
theorem own_d4_12 : decode method_2_code 12 = .ok (.iload_n 0, 1) := by decide +kernel
theorem own_d4_13 : decode method_2_code 13 = .ok (.bipush 64, 2) := by decide +kernel
theorem own_d4_15 : decode method_2_code 15 = .ok (.if_icmp .le 161, 3) := by decide +kernel
theorem own_d4_18 : decode method_2_code 18 = .ok (.iload_n 0, 1) := by decide +kernel
theorem own_d4_19 : decode method_2_code 19 = .ok (.bipush 91, 2) := by decide +kernel
theorem own_d4_21 : decode method_2_code 21 = .ok (.if_icmp .lt 9, 3) := by decide +kernel
theorem own_d4_24 : decode method_2_code 24 = .ok (.iload_n 0, 1) := by decide +kernel
theorem own_d4_25 : decode method_2_code 25 = .ok (.bipush 94, 2) := by decide +kernel
theorem own_d4_27 : decode method_2_code 27 = .ok (.if_icmp .le 149, 3) := by decide +kernel
theorem own_d4_30 : decode method_2_code 30 = .ok (.iload_n 0, 1) := by decide +kernel
theorem own_d4_31 : decode method_2_code 31 = .ok (.bipush 96, 2) := by decide +kernel
theorem own_d4_33 : decode method_2_code 33 = .ok (.if_icmp .eq 143, 3) := by decide +kernel
theorem own_d4_36 : decode method_2_code 36 = .ok (.iload_n 0, 1) := by decide +kernel
theorem own_d4_37 : decode method_2_code 37 = .ok (.bipush 123, 2) := by decide +kernel
theorem own_d4_39 : decode method_2_code 39 = .ok (.if_icmp .lt 10, 3) := by decide +kernel
theorem own_d4_42 : decode method_2_code 42 = .ok (.iload_n 0, 1) := by decide +kernel
theorem own_d4_43 : decode method_2_code 43 = .ok (.sipush 191, 3) := by decide +kernel
theorem own_d4_46 : decode method_2_code 46 = .ok (.if_icmp .le 130, 3) := by decide +kernel
theorem own_d4_49 : decode method_2_code 49 = .ok (.iload_n 0, 1) := by decide +kernel
theorem own_d4_50 : decode method_2_code 50 = .ok (.sipush 215, 3) := by decide +kernel
theorem own_d4_53 : decode method_2_code 53 = .ok (.if_icmp .eq 123, 3) := by decide +kernel
theorem own_d4_56 : decode method_2_code 56 = .ok (.iload_n 0, 1) := by decide +kernel
theorem own_d4_57 : decode method_2_code 57 = .ok (.sipush 247, 3) := by decide +kernel
theorem own_d4_60 : decode method_2_code 60 = .ok (.if_icmp .eq 116, 3) := by decide +kernel
theorem own_d4_63 : decode method_2_code 63 = .ok (.iload_n 0, 1) := by decide +kernel
theorem own_d4_64 : decode method_2_code 64 = .ok (.sipush 768, 3) := by decide +kernel
theorem own_d4_67 : decode method_2_code 67 = .ok (.if_icmp .lt 10, 3) := by decide +kernel
theorem own_d4_70 : decode method_2_code 70 = .ok (.iload_n 0, 1) := by decide +kernel
theorem own_d4_71 : decode method_2_code 71 = .ok (.sipush 879, 3) := by decide +kernel
theorem own_d4_74 : decode method_2_code 74 = .ok (.if_icmp .le 102, 3) := by decide +kernel
theorem own_d4_77 : decode method_2_code 77 = .ok (.iload_n 0, 1) := by decide +kernel
theorem own_d4_78 : decode method_2_code 78 = .ok (.sipush 894, 3) := by decide +kernel
theorem own_d4_81 : decode method_2_code 81 = .ok (.if_icmp .eq 95, 3) := by decide +kernel
theorem own_d4_84 : decode method_2_code 84 = .ok (.iload_n 0, 1) := by decide +kernel
theorem own_d4_85 : decode method_2_code 85 = .ok (.sipush 8192, 3) := by decide +kernel
theorem own_d4_88 : decode method_2_code 88 = .ok (.if_icmp .lt 10, 3) := by decide +kernel
theorem own_d4_91 : decode method_2_code 91 = .ok (.iload_n 0, 1) := by decide +kernel
theorem own_d4_92 : decode method_2_code 92 = .ok (.sipush 8203, 3) := by decide +kernel
theorem own_d4_95 : decode method_2_code 95 = .ok (.if_icmp .le 81, 3) := by decide +kernel
theorem own_d4_98 : decode method_2_code 98 = .ok (.iload_n 0, 1) := by decide +kernel
theorem own_d4_99 : decode method_2_code 99 = .ok (.sipush 8206, 3) := by decide +kernel
theorem own_d4_102 : decode method_2_code 102 = .ok (.if_icmp .lt 10, 3) := by decide +kernel
theorem own_d4_105 : decode method_2_code 105 = .ok (.iload_n 0, 1) := by decide +kernel
theorem own_d4_106 : decode method_2_code 106 = .ok (.sipush 8303, 3) := by decide +kernel
theorem own_d4_109 : decode method_2_code 109 = .ok (.if_icmp .le 67, 3) := by decide +kernel
theorem own_d4_112 : decode method_2_code 112 = .ok (.iload_n 0, 1) := by decide +kernel
theorem own_d4_113 : decode method_2_code 113 = .ok (.sipush 8592, 3) := by decide +kernel
theorem own_d4_116 : decode method_2_code 116 = .ok (.if_icmp .lt 10, 3) := by decide +kernel
theorem own_d4_119 : decode method_2_code 119 = .ok (.iload_n 0, 1) := by decide +kernel
theorem own_d4_120 : decode method_2_code 120 = .ok (.sipush 11263, 3) := by decide +kernel
theorem own_d4_123 : decode method_2_code 123 = .ok (.if_icmp .le 53, 3) := by decide +kernel
theorem own_d4_126 : decode method_2_code 126 = .ok (.iload_n 0, 1) := by decide +kernel
theorem own_d4_127 : decode method_2_code 127 = .ok (.sipush 12272, 3) := by decide +kernel
theorem own_d4_130 : decode method_2_code 130 = .ok (.if_icmp .lt 10, 3) := by decide +kernel
theorem own_d4_133 : decode method_2_code 133 = .ok (.iload_n 0, 1) := by decide +kernel
theorem own_d4_134 : decode method_2_code 134 = .ok (.sipush 12288, 3) := by decide +kernel
theorem own_d4_137 : decode method_2_code 137 = .ok (.if_icmp .le 39, 3) := by decide +kernel
theorem own_d4_140 : decode method_2_code 140 = .ok (.iload_n 0, 1) := by decide +kernel
theorem own_d4_141 : decode method_2_code 141 = .ok (.ldc 7, 2) := by decide +kernel
theorem own_d4_143 : decode method_2_code 143 = .ok (.if_icmp .lt 9, 3) := by decide +kernel
theorem own_d4_146 : decode method_2_code 146 = .ok (.iload_n 0, 1) := by decide +kernel
theorem own_d4_147 : decode method_2_code 147 = .ok (.ldc 8, 2) := by decide +kernel
theorem own_d4_149 : decode method_2_code 149 = .ok (.if_icmp .le 27, 3) := by decide +kernel
theorem own_d4_152 : decode method_2_code 152 = .ok (.iload_n 0, 1) := by decide +kernel
theorem own_d4_153 : decode method_2_code 153 = .ok (.ldc 9, 2) := by decide +kernel
theorem own_d4_155 : decode method_2_code 155 = .ok (.if_icmp .lt 9, 3) := by decide +kernel
theorem own_d4_158 : decode method_2_code 158 = .ok (.iload_n 0, 1) := by decide +kernel
theorem own_d4_159 : decode method_2_code 159 = .ok (.ldc 10, 2) := by decide +kernel
theorem own_d4_161 : decode method_2_code 161 = .ok (.if_icmp .le 15, 3) := by decide +kernel
theorem own_d4_164 : decode method_2_code 164 = .ok (.iload_n 0, 1) := by decide +kernel
theorem own_d4_165 : decode method_2_code 165 = .ok (.ldc 11, 2) := by decide +kernel
theorem own_d4_167 : decode method_2_code 167 = .ok (.if_icmp .eq 9, 3) := by decide +kernel
theorem own_d4_170 : decode method_2_code 170 = .ok (.iload_n 0, 1) := by decide +kernel
theorem own_d4_171 : decode method_2_code 171 = .ok (.ldc 12, 2) := by decide +kernel
theorem own_d4_173 : decode method_2_code 173 = .ok (.if_icmp .ne 7, 3) := by decide +kernel
theorem own_d4_176 : decode method_2_code 176 = .ok (.iconst 1, 1) := by decide +kernel
theorem own_d4_177 : decode method_2_code 177 = .ok (.goto 4, 3) := by decide +kernel
theorem own_d4_180 : decode method_2_code 180 = .ok (.iconst 0, 1) := by decide +kernel
theorem own_d4_181 : decode method_2_code 181 = .ok (.ireturn, 1) := by decide +kernel
theorem own_ef4 (m : MethodId) (x0 : Int32) : entryFrame m #[(.int x0)] 1 = mkF m 0 #[.val (.int x0)] [] := by first | (simp [entryFrame, mkF, argsToLocals, Value.category]; done) | rfl
set_option maxRecDepth 65536 in
set_option maxHeartbeats 40000000 in
theorem rm4 (l : Launch) (Z : State) (a0 : Array Value) (hw : ∀ d ∈ tables_1, d.before a0 Z = true) (ws : List Jvm.Cond) (p0 : Int32) (h0 : Heap) (n0 : Nat) (Z0 : n0 ≤ h0.size) :
    MetFree l (⟨"com/example/traceloom/traceloom/io/xes/XmlCharactersIsNameStartPinLaw", "inGap", "(I)Z"⟩ : MethodName) (head1 (Jvm.Cond.code (⟨"com/example/traceloom/traceloom/io/xes/XmlCharactersIsNameStartPinLaw", "inGap", "(I)Z"⟩ : MethodName) method_2_code 1 (some .boolean) :: ws) ({ frames := 0, cells := 0, slots := 0, locals := 0 } : Room)) (fun a U => a = #[(.int p0)] ∧ Z.Warmed39 U.vm ∧ U.heap = h0) (fun _ _ _ _ _ => True) (fun _ U o U' => ∃ v L, o = .returned v ∧ (QPure n0 h0 (.int (own_F4 p0))) v U'.heap L ∧ FrameEnd U o U' L ({ frames := 0, cells := 0, slots := 0, locals := 0 } : Room).cells ({ frames := 0, cells := 0, slots := 0, locals := 0 } : Room).slots) := by
  refine MetFree.of_bodySF (plainFor_of_name own_pn1) hisR ?_
  intro p e s m args below meth c s₁ Bd hml0 hP hK
  obtain ⟨rfl, hZ, hh⟩ := hP
  have hx := Bd.exec
  have hby := Bd.bytes
  have hml : c.maxLocals = 1 := hml0
  have hown : s.vm.findClass "com/example/traceloom/traceloom/io/xes/XmlCharactersIsNameStartPinLaw" = some m.cls := findClass_of_methodNamed Bd.named
  have hnm := (name_of_methodNamed Bd.named Bd.method).1
  have X0 : Stand p l e ({ frames := 0, cells := 0, slots := 0, locals := 0 } : Room) s m #[(.int p0)] below meth c s₁ [] 0 0 := Stand.of_body Bd
  have e0 : s₁.heap = h0 := by rw [← hh, Bd.state]; rfl
  have N0 := Fr.nil n0
  suffices H : Run p.tables e below (FinR s ({ frames := 0, cells := 0, slots := 0, locals := 0 } : Room).cells ({ frames := 0, cells := 0, slots := 0, locals := 0 } : Room).slots (QPure n0 h0 (.int (own_F4 p0)))) s₁ (mkF m 0 #[.val (.int p0)] []) by
    obtain ⟨s₂, o, k1, k2, k3, k4⟩ := H
    exact ⟨s₂, o, castTop (own_ef4 m p0) k1, k2, k3, k4⟩
  obtain ⟨r, hr⟩ : ∃ r, r = own_F4 p0 := ⟨_, rfl⟩
  rw [← hr]
  have J181 : ∀ (y181_0 : Int32) (r : Int32), r = (own_f4_181 p0 y181_0) → ∀ (T : State) (locs : List Loc), Stand p l e ({ frames := 0, cells := 0, slots := 0, locals := 0 } : Room) s m #[(.int p0)] below meth c T locs 0 0 → T.heap = h0 → Fr n0 locs → Run p.tables e below (FinR s ({ frames := 0, cells := 0, slots := 0, locals := 0 } : Room).cells ({ frames := 0, cells := 0, slots := 0, locals := 0 } : Room).slots (QPure n0 h0 (.int r))) T (mkF m 181 #[.val (.int p0)] [(.int y181_0)]) := by
    clear hr
    intro y181_0 r hr T locs X eT N
    rw [own_f4_181] at hr
    exact Run.retSmall X hx (t := .boolean) (z' := (y181_0 &&& 1)) Bd.notSynchronized Bd.returns (by simp) rfl (hb hby own_d4_181) ⟨by rw [hr], N, eT⟩ (by decide) (by decide)
  have J176 : ∀  (r : Int32), r = (own_f4_176 p0) → ∀ (T : State) (locs : List Loc), Stand p l e ({ frames := 0, cells := 0, slots := 0, locals := 0 } : Room) s m #[(.int p0)] below meth c T locs 0 0 → T.heap = h0 → Fr n0 locs → Run p.tables e below (FinR s ({ frames := 0, cells := 0, slots := 0, locals := 0 } : Room).cells ({ frames := 0, cells := 0, slots := 0, locals := 0 } : Room).slots (QPure n0 h0 (.int r))) T (mkF m 176 #[.val (.int p0)] []) := by
    clear hr
    intro  r hr T locs X eT N
    rw [own_f4_176] at hr
    refine Run.iconst (pc' := 177) (v := (1 : Int32)) X hx (hb hby own_d4_176) rfl rfl ?_
    refine Run.goto (pc' := 181) X hx (hb hby own_d4_177) (by decide) (by decide) ?_
    exact J181 (1 : Int32) _ hr _ _ X eT N
  have J164 : ∀  (r : Int32), r = (own_f4_164 p0) → ∀ (T : State) (locs : List Loc), Stand p l e ({ frames := 0, cells := 0, slots := 0, locals := 0 } : Room) s m #[(.int p0)] below meth c T locs 0 0 → T.heap = h0 → Fr n0 locs → Run p.tables e below (FinR s ({ frames := 0, cells := 0, slots := 0, locals := 0 } : Room).cells ({ frames := 0, cells := 0, slots := 0, locals := 0 } : Room).slots (QPure n0 h0 (.int r))) T (mkF m 164 #[.val (.int p0)] []) := by
    clear hr
    intro  r hr T locs X eT N
    rw [own_f4_164] at hr
    refine Run.iloadN (pc' := 165) X hx (hb hby own_d4_164) rfl rfl ?_
    refine Run.ldcInt (pc' := 167) (v := (65534 : Int32)) X hx hown (mvT hZ (hw _ (List.mem_of_getElem? (i := 27) rfl))) (hb hby own_d4_165) rfl ?_
    by_cases hc167 : p0 = (65534 : Int32)
    · rw [if_pos hc167] at hr
      refine Run.icmpYes (pc' := 176) X hx (hb hby own_d4_167) (teq hc167).1 (by decide) (by decide) ?_
      exact J176  _ hr _ _ X eT N
    · rw [if_neg hc167] at hr
      refine Run.icmpNo (pc' := 170) X hx (hb hby own_d4_167) (feq hc167).1 rfl ?_
      refine Run.iloadN (pc' := 171) X hx (hb hby own_d4_170) rfl rfl ?_
      refine Run.ldcInt (pc' := 173) (v := (65535 : Int32)) X hx hown (mvT hZ (hw _ (List.mem_of_getElem? (i := 24) rfl))) (hb hby own_d4_171) rfl ?_
      by_cases hc173 : p0 = (65535 : Int32)
      · rw [if_pos hc173] at hr
        refine Run.icmpNo (pc' := 176) X hx (hb hby own_d4_173) (teq hc173).2 rfl ?_
        exact J176  _ hr _ _ X eT N
      · rw [if_neg hc173] at hr
        refine Run.icmpYes (pc' := 180) X hx (hb hby own_d4_173) (feq hc173).2 (by decide) (by decide) ?_
        refine Run.iconst (pc' := 181) (v := (0 : Int32)) X hx (hb hby own_d4_180) rfl rfl ?_
        exact J181 (0 : Int32) _ hr _ _ X eT N
  have J152 : ∀  (r : Int32), r = (own_f4_152 p0) → ∀ (T : State) (locs : List Loc), Stand p l e ({ frames := 0, cells := 0, slots := 0, locals := 0 } : Room) s m #[(.int p0)] below meth c T locs 0 0 → T.heap = h0 → Fr n0 locs → Run p.tables e below (FinR s ({ frames := 0, cells := 0, slots := 0, locals := 0 } : Room).cells ({ frames := 0, cells := 0, slots := 0, locals := 0 } : Room).slots (QPure n0 h0 (.int r))) T (mkF m 152 #[.val (.int p0)] []) := by
    clear hr
    intro  r hr T locs X eT N
    rw [own_f4_152] at hr
    refine Run.iloadN (pc' := 153) X hx (hb hby own_d4_152) rfl rfl ?_
    refine Run.ldcInt (pc' := 155) (v := (64976 : Int32)) X hx hown (mvT hZ (hw _ (List.mem_of_getElem? (i := 26) rfl))) (hb hby own_d4_153) rfl ?_
    by_cases hc155 : p0 < (64976 : Int32)
    · rw [if_pos hc155] at hr
      refine Run.icmpYes (pc' := 164) X hx (hb hby own_d4_155) (tlt hc155).1 (by decide) (by decide) ?_
      exact J164  _ hr _ _ X eT N
    · rw [if_neg hc155] at hr
      refine Run.icmpNo (pc' := 158) X hx (hb hby own_d4_155) (flt hc155).1 rfl ?_
      refine Run.iloadN (pc' := 159) X hx (hb hby own_d4_158) rfl rfl ?_
      refine Run.ldcInt (pc' := 161) (v := (65007 : Int32)) X hx hown (mvT hZ (hw _ (List.mem_of_getElem? (i := 40) rfl))) (hb hby own_d4_159) rfl ?_
      by_cases hc161 : (65007 : Int32) < p0
      · rw [if_pos hc161] at hr
        refine Run.icmpNo (pc' := 164) X hx (hb hby own_d4_161) (tlt hc161).2.2.2 rfl ?_
        exact J164  _ hr _ _ X eT N
      · rw [if_neg hc161] at hr
        refine Run.icmpYes (pc' := 176) X hx (hb hby own_d4_161) (flt hc161).2.2.2 (by decide) (by decide) ?_
        exact J176  _ hr _ _ X eT N
  have J140 : ∀  (r : Int32), r = (own_f4_140 p0) → ∀ (T : State) (locs : List Loc), Stand p l e ({ frames := 0, cells := 0, slots := 0, locals := 0 } : Room) s m #[(.int p0)] below meth c T locs 0 0 → T.heap = h0 → Fr n0 locs → Run p.tables e below (FinR s ({ frames := 0, cells := 0, slots := 0, locals := 0 } : Room).cells ({ frames := 0, cells := 0, slots := 0, locals := 0 } : Room).slots (QPure n0 h0 (.int r))) T (mkF m 140 #[.val (.int p0)] []) := by
    clear hr
    intro  r hr T locs X eT N
    rw [own_f4_140] at hr
    refine Run.iloadN (pc' := 141) X hx (hb hby own_d4_140) rfl rfl ?_
    refine Run.ldcInt (pc' := 143) (v := (55296 : Int32)) X hx hown (mvT hZ (hw _ (List.mem_of_getElem? (i := 25) rfl))) (hb hby own_d4_141) rfl ?_
    by_cases hc143 : p0 < (55296 : Int32)
    · rw [if_pos hc143] at hr
      refine Run.icmpYes (pc' := 152) X hx (hb hby own_d4_143) (tlt hc143).1 (by decide) (by decide) ?_
      exact J152  _ hr _ _ X eT N
    · rw [if_neg hc143] at hr
      refine Run.icmpNo (pc' := 146) X hx (hb hby own_d4_143) (flt hc143).1 rfl ?_
      refine Run.iloadN (pc' := 147) X hx (hb hby own_d4_146) rfl rfl ?_
      refine Run.ldcInt (pc' := 149) (v := (63743 : Int32)) X hx hown (mvT hZ (hw _ (List.mem_of_getElem? (i := 39) rfl))) (hb hby own_d4_147) rfl ?_
      by_cases hc149 : (63743 : Int32) < p0
      · rw [if_pos hc149] at hr
        refine Run.icmpNo (pc' := 152) X hx (hb hby own_d4_149) (tlt hc149).2.2.2 rfl ?_
        exact J152  _ hr _ _ X eT N
      · rw [if_neg hc149] at hr
        refine Run.icmpYes (pc' := 176) X hx (hb hby own_d4_149) (flt hc149).2.2.2 (by decide) (by decide) ?_
        exact J176  _ hr _ _ X eT N
  have J126 : ∀  (r : Int32), r = (own_f4_126 p0) → ∀ (T : State) (locs : List Loc), Stand p l e ({ frames := 0, cells := 0, slots := 0, locals := 0 } : Room) s m #[(.int p0)] below meth c T locs 0 0 → T.heap = h0 → Fr n0 locs → Run p.tables e below (FinR s ({ frames := 0, cells := 0, slots := 0, locals := 0 } : Room).cells ({ frames := 0, cells := 0, slots := 0, locals := 0 } : Room).slots (QPure n0 h0 (.int r))) T (mkF m 126 #[.val (.int p0)] []) := by
    clear hr
    intro  r hr T locs X eT N
    rw [own_f4_126] at hr
    refine Run.iloadN (pc' := 127) X hx (hb hby own_d4_126) rfl rfl ?_
    refine Run.sipush (pc' := 130) (v := (12272 : Int32)) X hx (hb hby own_d4_127) rfl rfl ?_
    by_cases hc130 : p0 < (12272 : Int32)
    · rw [if_pos hc130] at hr
      refine Run.icmpYes (pc' := 140) X hx (hb hby own_d4_130) (tlt hc130).1 (by decide) (by decide) ?_
      exact J140  _ hr _ _ X eT N
    · rw [if_neg hc130] at hr
      refine Run.icmpNo (pc' := 133) X hx (hb hby own_d4_130) (flt hc130).1 rfl ?_
      refine Run.iloadN (pc' := 134) X hx (hb hby own_d4_133) rfl rfl ?_
      refine Run.sipush (pc' := 137) (v := (12288 : Int32)) X hx (hb hby own_d4_134) rfl rfl ?_
      by_cases hc137 : (12288 : Int32) < p0
      · rw [if_pos hc137] at hr
        refine Run.icmpNo (pc' := 140) X hx (hb hby own_d4_137) (tlt hc137).2.2.2 rfl ?_
        exact J140  _ hr _ _ X eT N
      · rw [if_neg hc137] at hr
        refine Run.icmpYes (pc' := 176) X hx (hb hby own_d4_137) (flt hc137).2.2.2 (by decide) (by decide) ?_
        exact J176  _ hr _ _ X eT N
  have J112 : ∀  (r : Int32), r = (own_f4_112 p0) → ∀ (T : State) (locs : List Loc), Stand p l e ({ frames := 0, cells := 0, slots := 0, locals := 0 } : Room) s m #[(.int p0)] below meth c T locs 0 0 → T.heap = h0 → Fr n0 locs → Run p.tables e below (FinR s ({ frames := 0, cells := 0, slots := 0, locals := 0 } : Room).cells ({ frames := 0, cells := 0, slots := 0, locals := 0 } : Room).slots (QPure n0 h0 (.int r))) T (mkF m 112 #[.val (.int p0)] []) := by
    clear hr
    intro  r hr T locs X eT N
    rw [own_f4_112] at hr
    refine Run.iloadN (pc' := 113) X hx (hb hby own_d4_112) rfl rfl ?_
    refine Run.sipush (pc' := 116) (v := (8592 : Int32)) X hx (hb hby own_d4_113) rfl rfl ?_
    by_cases hc116 : p0 < (8592 : Int32)
    · rw [if_pos hc116] at hr
      refine Run.icmpYes (pc' := 126) X hx (hb hby own_d4_116) (tlt hc116).1 (by decide) (by decide) ?_
      exact J126  _ hr _ _ X eT N
    · rw [if_neg hc116] at hr
      refine Run.icmpNo (pc' := 119) X hx (hb hby own_d4_116) (flt hc116).1 rfl ?_
      refine Run.iloadN (pc' := 120) X hx (hb hby own_d4_119) rfl rfl ?_
      refine Run.sipush (pc' := 123) (v := (11263 : Int32)) X hx (hb hby own_d4_120) rfl rfl ?_
      by_cases hc123 : (11263 : Int32) < p0
      · rw [if_pos hc123] at hr
        refine Run.icmpNo (pc' := 126) X hx (hb hby own_d4_123) (tlt hc123).2.2.2 rfl ?_
        exact J126  _ hr _ _ X eT N
      · rw [if_neg hc123] at hr
        refine Run.icmpYes (pc' := 176) X hx (hb hby own_d4_123) (flt hc123).2.2.2 (by decide) (by decide) ?_
        exact J176  _ hr _ _ X eT N
  have J98 : ∀  (r : Int32), r = (own_f4_98 p0) → ∀ (T : State) (locs : List Loc), Stand p l e ({ frames := 0, cells := 0, slots := 0, locals := 0 } : Room) s m #[(.int p0)] below meth c T locs 0 0 → T.heap = h0 → Fr n0 locs → Run p.tables e below (FinR s ({ frames := 0, cells := 0, slots := 0, locals := 0 } : Room).cells ({ frames := 0, cells := 0, slots := 0, locals := 0 } : Room).slots (QPure n0 h0 (.int r))) T (mkF m 98 #[.val (.int p0)] []) := by
    clear hr
    intro  r hr T locs X eT N
    rw [own_f4_98] at hr
    refine Run.iloadN (pc' := 99) X hx (hb hby own_d4_98) rfl rfl ?_
    refine Run.sipush (pc' := 102) (v := (8206 : Int32)) X hx (hb hby own_d4_99) rfl rfl ?_
    by_cases hc102 : p0 < (8206 : Int32)
    · rw [if_pos hc102] at hr
      refine Run.icmpYes (pc' := 112) X hx (hb hby own_d4_102) (tlt hc102).1 (by decide) (by decide) ?_
      exact J112  _ hr _ _ X eT N
    · rw [if_neg hc102] at hr
      refine Run.icmpNo (pc' := 105) X hx (hb hby own_d4_102) (flt hc102).1 rfl ?_
      refine Run.iloadN (pc' := 106) X hx (hb hby own_d4_105) rfl rfl ?_
      refine Run.sipush (pc' := 109) (v := (8303 : Int32)) X hx (hb hby own_d4_106) rfl rfl ?_
      by_cases hc109 : (8303 : Int32) < p0
      · rw [if_pos hc109] at hr
        refine Run.icmpNo (pc' := 112) X hx (hb hby own_d4_109) (tlt hc109).2.2.2 rfl ?_
        exact J112  _ hr _ _ X eT N
      · rw [if_neg hc109] at hr
        refine Run.icmpYes (pc' := 176) X hx (hb hby own_d4_109) (flt hc109).2.2.2 (by decide) (by decide) ?_
        exact J176  _ hr _ _ X eT N
  have J77 : ∀  (r : Int32), r = (own_f4_77 p0) → ∀ (T : State) (locs : List Loc), Stand p l e ({ frames := 0, cells := 0, slots := 0, locals := 0 } : Room) s m #[(.int p0)] below meth c T locs 0 0 → T.heap = h0 → Fr n0 locs → Run p.tables e below (FinR s ({ frames := 0, cells := 0, slots := 0, locals := 0 } : Room).cells ({ frames := 0, cells := 0, slots := 0, locals := 0 } : Room).slots (QPure n0 h0 (.int r))) T (mkF m 77 #[.val (.int p0)] []) := by
    clear hr
    intro  r hr T locs X eT N
    rw [own_f4_77] at hr
    refine Run.iloadN (pc' := 78) X hx (hb hby own_d4_77) rfl rfl ?_
    refine Run.sipush (pc' := 81) (v := (894 : Int32)) X hx (hb hby own_d4_78) rfl rfl ?_
    by_cases hc81 : p0 = (894 : Int32)
    · rw [if_pos hc81] at hr
      refine Run.icmpYes (pc' := 176) X hx (hb hby own_d4_81) (teq hc81).1 (by decide) (by decide) ?_
      exact J176  _ hr _ _ X eT N
    · rw [if_neg hc81] at hr
      refine Run.icmpNo (pc' := 84) X hx (hb hby own_d4_81) (feq hc81).1 rfl ?_
      refine Run.iloadN (pc' := 85) X hx (hb hby own_d4_84) rfl rfl ?_
      refine Run.sipush (pc' := 88) (v := (8192 : Int32)) X hx (hb hby own_d4_85) rfl rfl ?_
      by_cases hc88 : p0 < (8192 : Int32)
      · rw [if_pos hc88] at hr
        refine Run.icmpYes (pc' := 98) X hx (hb hby own_d4_88) (tlt hc88).1 (by decide) (by decide) ?_
        exact J98  _ hr _ _ X eT N
      · rw [if_neg hc88] at hr
        refine Run.icmpNo (pc' := 91) X hx (hb hby own_d4_88) (flt hc88).1 rfl ?_
        refine Run.iloadN (pc' := 92) X hx (hb hby own_d4_91) rfl rfl ?_
        refine Run.sipush (pc' := 95) (v := (8203 : Int32)) X hx (hb hby own_d4_92) rfl rfl ?_
        by_cases hc95 : (8203 : Int32) < p0
        · rw [if_pos hc95] at hr
          refine Run.icmpNo (pc' := 98) X hx (hb hby own_d4_95) (tlt hc95).2.2.2 rfl ?_
          exact J98  _ hr _ _ X eT N
        · rw [if_neg hc95] at hr
          refine Run.icmpYes (pc' := 176) X hx (hb hby own_d4_95) (flt hc95).2.2.2 (by decide) (by decide) ?_
          exact J176  _ hr _ _ X eT N
  have J49 : ∀  (r : Int32), r = (own_f4_49 p0) → ∀ (T : State) (locs : List Loc), Stand p l e ({ frames := 0, cells := 0, slots := 0, locals := 0 } : Room) s m #[(.int p0)] below meth c T locs 0 0 → T.heap = h0 → Fr n0 locs → Run p.tables e below (FinR s ({ frames := 0, cells := 0, slots := 0, locals := 0 } : Room).cells ({ frames := 0, cells := 0, slots := 0, locals := 0 } : Room).slots (QPure n0 h0 (.int r))) T (mkF m 49 #[.val (.int p0)] []) := by
    clear hr
    intro  r hr T locs X eT N
    rw [own_f4_49] at hr
    refine Run.iloadN (pc' := 50) X hx (hb hby own_d4_49) rfl rfl ?_
    refine Run.sipush (pc' := 53) (v := (215 : Int32)) X hx (hb hby own_d4_50) rfl rfl ?_
    by_cases hc53 : p0 = (215 : Int32)
    · rw [if_pos hc53] at hr
      refine Run.icmpYes (pc' := 176) X hx (hb hby own_d4_53) (teq hc53).1 (by decide) (by decide) ?_
      exact J176  _ hr _ _ X eT N
    · rw [if_neg hc53] at hr
      refine Run.icmpNo (pc' := 56) X hx (hb hby own_d4_53) (feq hc53).1 rfl ?_
      refine Run.iloadN (pc' := 57) X hx (hb hby own_d4_56) rfl rfl ?_
      refine Run.sipush (pc' := 60) (v := (247 : Int32)) X hx (hb hby own_d4_57) rfl rfl ?_
      by_cases hc60 : p0 = (247 : Int32)
      · rw [if_pos hc60] at hr
        refine Run.icmpYes (pc' := 176) X hx (hb hby own_d4_60) (teq hc60).1 (by decide) (by decide) ?_
        exact J176  _ hr _ _ X eT N
      · rw [if_neg hc60] at hr
        refine Run.icmpNo (pc' := 63) X hx (hb hby own_d4_60) (feq hc60).1 rfl ?_
        refine Run.iloadN (pc' := 64) X hx (hb hby own_d4_63) rfl rfl ?_
        refine Run.sipush (pc' := 67) (v := (768 : Int32)) X hx (hb hby own_d4_64) rfl rfl ?_
        by_cases hc67 : p0 < (768 : Int32)
        · rw [if_pos hc67] at hr
          refine Run.icmpYes (pc' := 77) X hx (hb hby own_d4_67) (tlt hc67).1 (by decide) (by decide) ?_
          exact J77  _ hr _ _ X eT N
        · rw [if_neg hc67] at hr
          refine Run.icmpNo (pc' := 70) X hx (hb hby own_d4_67) (flt hc67).1 rfl ?_
          refine Run.iloadN (pc' := 71) X hx (hb hby own_d4_70) rfl rfl ?_
          refine Run.sipush (pc' := 74) (v := (879 : Int32)) X hx (hb hby own_d4_71) rfl rfl ?_
          by_cases hc74 : (879 : Int32) < p0
          · rw [if_pos hc74] at hr
            refine Run.icmpNo (pc' := 77) X hx (hb hby own_d4_74) (tlt hc74).2.2.2 rfl ?_
            exact J77  _ hr _ _ X eT N
          · rw [if_neg hc74] at hr
            refine Run.icmpYes (pc' := 176) X hx (hb hby own_d4_74) (flt hc74).2.2.2 (by decide) (by decide) ?_
            exact J176  _ hr _ _ X eT N
  have J30 : ∀  (r : Int32), r = (own_f4_30 p0) → ∀ (T : State) (locs : List Loc), Stand p l e ({ frames := 0, cells := 0, slots := 0, locals := 0 } : Room) s m #[(.int p0)] below meth c T locs 0 0 → T.heap = h0 → Fr n0 locs → Run p.tables e below (FinR s ({ frames := 0, cells := 0, slots := 0, locals := 0 } : Room).cells ({ frames := 0, cells := 0, slots := 0, locals := 0 } : Room).slots (QPure n0 h0 (.int r))) T (mkF m 30 #[.val (.int p0)] []) := by
    clear hr
    intro  r hr T locs X eT N
    rw [own_f4_30] at hr
    refine Run.iloadN (pc' := 31) X hx (hb hby own_d4_30) rfl rfl ?_
    refine Run.bipush (pc' := 33) (v := (96 : Int32)) X hx (hb hby own_d4_31) rfl rfl ?_
    by_cases hc33 : p0 = (96 : Int32)
    · rw [if_pos hc33] at hr
      refine Run.icmpYes (pc' := 176) X hx (hb hby own_d4_33) (teq hc33).1 (by decide) (by decide) ?_
      exact J176  _ hr _ _ X eT N
    · rw [if_neg hc33] at hr
      refine Run.icmpNo (pc' := 36) X hx (hb hby own_d4_33) (feq hc33).1 rfl ?_
      refine Run.iloadN (pc' := 37) X hx (hb hby own_d4_36) rfl rfl ?_
      refine Run.bipush (pc' := 39) (v := (123 : Int32)) X hx (hb hby own_d4_37) rfl rfl ?_
      by_cases hc39 : p0 < (123 : Int32)
      · rw [if_pos hc39] at hr
        refine Run.icmpYes (pc' := 49) X hx (hb hby own_d4_39) (tlt hc39).1 (by decide) (by decide) ?_
        exact J49  _ hr _ _ X eT N
      · rw [if_neg hc39] at hr
        refine Run.icmpNo (pc' := 42) X hx (hb hby own_d4_39) (flt hc39).1 rfl ?_
        refine Run.iloadN (pc' := 43) X hx (hb hby own_d4_42) rfl rfl ?_
        refine Run.sipush (pc' := 46) (v := (191 : Int32)) X hx (hb hby own_d4_43) rfl rfl ?_
        by_cases hc46 : (191 : Int32) < p0
        · rw [if_pos hc46] at hr
          refine Run.icmpNo (pc' := 49) X hx (hb hby own_d4_46) (tlt hc46).2.2.2 rfl ?_
          exact J49  _ hr _ _ X eT N
        · rw [if_neg hc46] at hr
          refine Run.icmpYes (pc' := 176) X hx (hb hby own_d4_46) (flt hc46).2.2.2 (by decide) (by decide) ?_
          exact J176  _ hr _ _ X eT N
  have J18 : ∀  (r : Int32), r = (own_f4_18 p0) → ∀ (T : State) (locs : List Loc), Stand p l e ({ frames := 0, cells := 0, slots := 0, locals := 0 } : Room) s m #[(.int p0)] below meth c T locs 0 0 → T.heap = h0 → Fr n0 locs → Run p.tables e below (FinR s ({ frames := 0, cells := 0, slots := 0, locals := 0 } : Room).cells ({ frames := 0, cells := 0, slots := 0, locals := 0 } : Room).slots (QPure n0 h0 (.int r))) T (mkF m 18 #[.val (.int p0)] []) := by
    clear hr
    intro  r hr T locs X eT N
    rw [own_f4_18] at hr
    refine Run.iloadN (pc' := 19) X hx (hb hby own_d4_18) rfl rfl ?_
    refine Run.bipush (pc' := 21) (v := (91 : Int32)) X hx (hb hby own_d4_19) rfl rfl ?_
    by_cases hc21 : p0 < (91 : Int32)
    · rw [if_pos hc21] at hr
      refine Run.icmpYes (pc' := 30) X hx (hb hby own_d4_21) (tlt hc21).1 (by decide) (by decide) ?_
      exact J30  _ hr _ _ X eT N
    · rw [if_neg hc21] at hr
      refine Run.icmpNo (pc' := 24) X hx (hb hby own_d4_21) (flt hc21).1 rfl ?_
      refine Run.iloadN (pc' := 25) X hx (hb hby own_d4_24) rfl rfl ?_
      refine Run.bipush (pc' := 27) (v := (94 : Int32)) X hx (hb hby own_d4_25) rfl rfl ?_
      by_cases hc27 : (94 : Int32) < p0
      · rw [if_pos hc27] at hr
        refine Run.icmpNo (pc' := 30) X hx (hb hby own_d4_27) (tlt hc27).2.2.2 rfl ?_
        exact J30  _ hr _ _ X eT N
      · rw [if_neg hc27] at hr
        refine Run.icmpYes (pc' := 176) X hx (hb hby own_d4_27) (flt hc27).2.2.2 (by decide) (by decide) ?_
        exact J176  _ hr _ _ X eT N
  rw [own_F4] at hr
  refine Run.iloadN (pc' := 1) X0 hx (hb hby own_d4_0) rfl rfl ?_
  refine Run.bipush (pc' := 3) (v := (57 : Int32)) X0 hx (hb hby own_d4_1) rfl rfl ?_
  by_cases hc3 : (57 : Int32) < p0
  · rw [if_pos hc3] at hr
    refine Run.icmpNo (pc' := 6) X0 hx (hb hby own_d4_3) (tlt hc3).2.2.2 rfl ?_
    refine Run.iloadN (pc' := 7) X0 hx (hb hby own_d4_6) rfl rfl ?_
    refine Run.bipush (pc' := 9) (v := (59 : Int32)) X0 hx (hb hby own_d4_7) rfl rfl ?_
    by_cases hc9 : p0 < (59 : Int32)
    · rw [if_pos hc9] at hr
      refine Run.icmpYes (pc' := 18) X0 hx (hb hby own_d4_9) (tlt hc9).1 (by decide) (by decide) ?_
      exact J18  _ hr _ _ X0 e0 N0
    · rw [if_neg hc9] at hr
      refine Run.icmpNo (pc' := 12) X0 hx (hb hby own_d4_9) (flt hc9).1 rfl ?_
      refine Run.iloadN (pc' := 13) X0 hx (hb hby own_d4_12) rfl rfl ?_
      refine Run.bipush (pc' := 15) (v := (64 : Int32)) X0 hx (hb hby own_d4_13) rfl rfl ?_
      by_cases hc15 : (64 : Int32) < p0
      · rw [if_pos hc15] at hr
        refine Run.icmpNo (pc' := 18) X0 hx (hb hby own_d4_15) (tlt hc15).2.2.2 rfl ?_
        exact J18  _ hr _ _ X0 e0 N0
      · rw [if_neg hc15] at hr
        refine Run.icmpYes (pc' := 176) X0 hx (hb hby own_d4_15) (flt hc15).2.2.2 (by decide) (by decide) ?_
        exact J176  _ hr _ _ X0 e0 N0
  · rw [if_neg hc3] at hr
    refine Run.icmpYes (pc' := 176) X0 hx (hb hby own_d4_3) (flt hc3).2.2.2 (by decide) (by decide) ?_
    exact J176  _ hr _ _ X0 e0 N0
def own_f3_20 (p0 : Int32) (y20_0 : Int32) : Int32 := (y20_0 &&& 1)
def own_F3 (p0 : Int32) : Int32 := (if (983039 : Int32) < p0 then (0 : Int32) else (if (own_F4 p0) = (0 : Int32) then (own_f3_20 p0 (1 : Int32)) else (own_f3_20 p0 (0 : Int32))))
theorem own_d3_0 : decode method_3_code 0 = .ok (.iload_n 0, 1) := by decide +kernel
theorem own_d3_1 : decode method_3_code 1 = .ok (.ldc 13, 2) := by decide +kernel
theorem own_d3_3 : decode method_3_code 3 = .ok (.if_icmp .le 5, 3) := by decide +kernel
theorem own_d3_6 : decode method_3_code 6 = .ok (.iconst 0, 1) := by decide +kernel
theorem own_d3_7 : decode method_3_code 7 = .ok (.ireturn, 1) := by decide +kernel
theorem own_d3_8 : decode method_3_code 8 = .ok (.iload_n 0, 1) := by decide +kernel
theorem own_d3_9 : decode method_3_code 9 = .ok (.invokestatic 14, 3) := by decide +kernel
theorem own_d3_12 : decode method_3_code 12 = .ok (.ifCond .ne 7, 3) := by decide +kernel
theorem own_d3_15 : decode method_3_code 15 = .ok (.iconst 1, 1) := by decide +kernel
theorem own_d3_16 : decode method_3_code 16 = .ok (.goto 4, 3) := by decide +kernel
theorem own_d3_19 : decode method_3_code 19 = .ok (.iconst 0, 1) := by decide +kernel
theorem own_d3_20 : decode method_3_code 20 = .ok (.ireturn, 1) := by decide +kernel
theorem own_ef3 (m : MethodId) (x0 : Int32) : entryFrame m #[(.int x0)] 1 = mkF m 0 #[.val (.int x0)] [] := by first | (simp [entryFrame, mkF, argsToLocals, Value.category]; done) | rfl
set_option maxRecDepth 65536 in
set_option maxHeartbeats 40000000 in
theorem rm3 (l : Launch) (Z : State) (a0 : Array Value) (hw : ∀ d ∈ tables_1, d.before a0 Z = true) (ws : List Jvm.Cond) (p0 : Int32) (h0 : Heap) (n0 : Nat) (Z0 : n0 ≤ h0.size) :
    MetFree l (⟨"com/example/traceloom/traceloom/io/xes/XmlCharactersIsNameStartPinLaw", "ref", "(I)Z"⟩ : MethodName) (head1 (Jvm.Cond.code (⟨"com/example/traceloom/traceloom/io/xes/XmlCharactersIsNameStartPinLaw", "ref", "(I)Z"⟩ : MethodName) method_3_code 1 (some .boolean) :: ws) ({ frames := 1, cells := 0, slots := 0, locals := 12 } : Room)) (fun a U => a = #[(.int p0)] ∧ Z.Warmed39 U.vm ∧ U.heap = h0) (fun _ _ _ _ _ => True) (fun _ U o U' => ∃ v L, o = .returned v ∧ (QPure n0 h0 (.int (own_F3 p0))) v U'.heap L ∧ FrameEnd U o U' L ({ frames := 1, cells := 0, slots := 0, locals := 12 } : Room).cells ({ frames := 1, cells := 0, slots := 0, locals := 12 } : Room).slots) := by
  refine MetFree.of_bodySF (plainFor_of_name own_pn1) hisR ?_
  intro p e s m args below meth c s₁ Bd hml0 hP hK
  obtain ⟨rfl, hZ, hh⟩ := hP
  have hx := Bd.exec
  have hby := Bd.bytes
  have hml : c.maxLocals = 1 := hml0
  have hown : s.vm.findClass "com/example/traceloom/traceloom/io/xes/XmlCharactersIsNameStartPinLaw" = some m.cls := findClass_of_methodNamed Bd.named
  have hnm := (name_of_methodNamed Bd.named Bd.method).1
  have X0 : Stand p l e ({ frames := 1, cells := 0, slots := 0, locals := 12 } : Room) s m #[(.int p0)] below meth c s₁ [] 0 0 := Stand.of_body Bd
  have e0 : s₁.heap = h0 := by rw [← hh, Bd.state]; rfl
  have N0 := Fr.nil n0
  suffices H : Run p.tables e below (FinR s ({ frames := 1, cells := 0, slots := 0, locals := 12 } : Room).cells ({ frames := 1, cells := 0, slots := 0, locals := 12 } : Room).slots (QPure n0 h0 (.int (own_F3 p0)))) s₁ (mkF m 0 #[.val (.int p0)] []) by
    obtain ⟨s₂, o, k1, k2, k3, k4⟩ := H
    exact ⟨s₂, o, castTop (own_ef3 m p0) k1, k2, k3, k4⟩
  obtain ⟨r, hr⟩ : ∃ r, r = own_F3 p0 := ⟨_, rfl⟩
  rw [← hr]
  have J20 : ∀ (y20_0 : Int32) (r : Int32), r = (own_f3_20 p0 y20_0) → ∀ (T : State) (locs : List Loc), Stand p l e ({ frames := 1, cells := 0, slots := 0, locals := 12 } : Room) s m #[(.int p0)] below meth c T locs 0 0 → T.heap = h0 → Fr n0 locs → Run p.tables e below (FinR s ({ frames := 1, cells := 0, slots := 0, locals := 12 } : Room).cells ({ frames := 1, cells := 0, slots := 0, locals := 12 } : Room).slots (QPure n0 h0 (.int r))) T (mkF m 20 #[.val (.int p0)] [(.int y20_0)]) := by
    clear hr
    intro y20_0 r hr T locs X eT N
    rw [own_f3_20] at hr
    exact Run.retSmall X hx (t := .boolean) (z' := (y20_0 &&& 1)) Bd.notSynchronized Bd.returns (by simp) rfl (hb hby own_d3_20) ⟨by rw [hr], N, eT⟩ (by decide) (by decide)
  rw [own_F3] at hr
  refine Run.iloadN (pc' := 1) X0 hx (hb hby own_d3_0) rfl rfl ?_
  refine Run.ldcInt (pc' := 3) (v := (983039 : Int32)) X0 hx hown (mvT hZ (hw _ (List.mem_of_getElem? (i := 7) rfl))) (hb hby own_d3_1) rfl ?_
  by_cases hc3 : (983039 : Int32) < p0
  · rw [if_pos hc3] at hr
    refine Run.icmpNo (pc' := 6) X0 hx (hb hby own_d3_3) (tlt hc3).2.2.2 rfl ?_
    refine Run.iconst (pc' := 7) (v := (0 : Int32)) X0 hx (hb hby own_d3_6) rfl rfl ?_
    exact Run.retSmall X0 hx (t := .boolean) (z' := (0 : Int32)) Bd.notSynchronized Bd.returns (by simp) rfl (hb hby own_d3_7) ⟨by rw [hr], N0, e0⟩ (by decide) (by decide)
  · rw [if_neg hc3] at hr
    refine Run.icmpYes (pc' := 8) X0 hx (hb hby own_d3_3) (flt hc3).2.2.2 (by decide) (by decide) ?_
    refine Run.iloadN (pc' := 9) X0 hx (hb hby own_d3_8) rfl rfl ?_
    obtain ⟨T1, L1, v1, X1, Q1, st1⟩ := callStatic X0 hx (y := (⟨"com/example/traceloom/traceloom/io/xes/XmlCharactersIsNameStartPinLaw", "inGap", "(I)Z"⟩ : MethodName)) (Ls := #[.val (.int p0)]) (rest := []) (W := 0) (argsL := [(.int p0)]) hZ hown (hw _ (List.mem_of_getElem? (i := 21) rfl)) (hw _ (List.mem_of_getElem? (i := 22) rfl)) (hw _ (List.mem_of_getElem? (i := 19) rfl)) (hw _ (List.mem_of_getElem? (i := 23) rfl)) (by decide) e0 (rm4 l Z a0 hw [] p0  h0 n0 Z0 ) (hb hby own_d3_9) (lenOf own_pd0 rfl) (by decide) (by decide) (by rw [hml]; rfl) (Nat.le_of_eq rfl) (by decide) (by decide)
    obtain ⟨rfl, M1, e1⟩ := Q1
    have N1 := Fr.app N0 M1
    refine Run.back (g' := (mkF m 12 #[.val (.int p0)] [(.int (own_F4 p0))])) st1 ?_
    by_cases hc12 : (own_F4 p0) = (0 : Int32)
    · rw [if_pos hc12] at hr
      refine Run.ifNo (pc' := 15) X1 hx (hb hby own_d3_12) ((if0 _ _).trans (teq hc12).2) rfl ?_
      refine Run.iconst (pc' := 16) (v := (1 : Int32)) X1 hx (hb hby own_d3_15) rfl rfl ?_
      refine Run.goto (pc' := 20) X1 hx (hb hby own_d3_16) (by decide) (by decide) ?_
      exact J20 (1 : Int32) _ hr _ _ X1 e1 N1
    · rw [if_neg hc12] at hr
      refine Run.ifYes (pc' := 19) X1 hx (hb hby own_d3_12) ((if0 _ _).trans (feq hc12).2) (by decide) (by decide) ?_
      refine Run.iconst (pc' := 20) (v := (0 : Int32)) X1 hx (hb hby own_d3_19) rfl rfl ?_
      exact J20 (0 : Int32) _ hr _ _ X1 e1 N1
def own_f5_10 (p0 : Int32) (p1 : Int32) (y10_0 : Int32) : Int32 := y10_0
def own_F5 (p0 : Int32) (p1 : Int32) : Int32 := (if p0 < p1 then (own_f5_10 p0 p1 p1) else (own_f5_10 p0 p1 p0))
theorem own_d5_0 : decode jdk_29_method_65_code 0 = .ok (.iload_n 0, 1) := by decide +kernel
theorem own_d5_1 : decode jdk_29_method_65_code 1 = .ok (.iload_n 1, 1) := by decide +kernel
theorem own_d5_2 : decode jdk_29_method_65_code 2 = .ok (.if_icmp .lt 7, 3) := by decide +kernel
theorem own_d5_5 : decode jdk_29_method_65_code 5 = .ok (.iload_n 0, 1) := by decide +kernel
theorem own_d5_6 : decode jdk_29_method_65_code 6 = .ok (.goto 4, 3) := by decide +kernel
theorem own_d5_9 : decode jdk_29_method_65_code 9 = .ok (.iload_n 1, 1) := by decide +kernel
theorem own_d5_10 : decode jdk_29_method_65_code 10 = .ok (.ireturn, 1) := by decide +kernel
theorem own_ef5 (m : MethodId) (x0 : Int32) (x1 : Int32) : entryFrame m #[(.int x0), (.int x1)] 2 = mkF m 0 #[.val (.int x0), .val (.int x1)] [] := by first | (simp [entryFrame, mkF, argsToLocals, Value.category]; done) | rfl
set_option maxRecDepth 65536 in
set_option maxHeartbeats 40000000 in
theorem rm5 (l : Launch) (Z : State) (a0 : Array Value) (hw : ∀ d ∈ tables_1, d.before a0 Z = true) (ws : List Jvm.Cond) (p0 : Int32) (p1 : Int32) (h0 : Heap) (n0 : Nat) (Z0 : n0 ≤ h0.size) :
    MetFree l (⟨"java/lang/Math", "max", "(II)I"⟩ : MethodName) (head1 (Jvm.Cond.code (⟨"java/lang/Math", "max", "(II)I"⟩ : MethodName) jdk_29_method_65_code 2 (some .int) :: ws) ({ frames := 0, cells := 0, slots := 0, locals := 0 } : Room)) (fun a U => a = #[(.int p0), (.int p1)] ∧ Z.Warmed39 U.vm ∧ U.heap = h0) (fun _ _ _ _ _ => True) (fun _ U o U' => ∃ v L, o = .returned v ∧ (QPure n0 h0 (.int (own_F5 p0 p1))) v U'.heap L ∧ FrameEnd U o U' L ({ frames := 0, cells := 0, slots := 0, locals := 0 } : Room).cells ({ frames := 0, cells := 0, slots := 0, locals := 0 } : Room).slots) := by
  refine MetFree.of_bodySF (Jvm.Free.JP.mathPlain rfl (by decide +kernel)) hisR ?_
  intro p e s m args below meth c s₁ Bd hml0 hP hK
  obtain ⟨rfl, hZ, hh⟩ := hP
  have hx := Bd.exec
  have hby := Bd.bytes
  have hml : c.maxLocals = 2 := hml0
  have hown : s.vm.findClass "java/lang/Math" = some m.cls := findClass_of_methodNamed Bd.named
  have hnm := (name_of_methodNamed Bd.named Bd.method).1
  have X0 : Stand p l e ({ frames := 0, cells := 0, slots := 0, locals := 0 } : Room) s m #[(.int p0), (.int p1)] below meth c s₁ [] 0 0 := Stand.of_body Bd
  have e0 : s₁.heap = h0 := by rw [← hh, Bd.state]; rfl
  have N0 := Fr.nil n0
  suffices H : Run p.tables e below (FinR s ({ frames := 0, cells := 0, slots := 0, locals := 0 } : Room).cells ({ frames := 0, cells := 0, slots := 0, locals := 0 } : Room).slots (QPure n0 h0 (.int (own_F5 p0 p1)))) s₁ (mkF m 0 #[.val (.int p0), .val (.int p1)] []) by
    obtain ⟨s₂, o, k1, k2, k3, k4⟩ := H
    exact ⟨s₂, o, castTop (own_ef5 m p0 p1) k1, k2, k3, k4⟩
  obtain ⟨r, hr⟩ : ∃ r, r = own_F5 p0 p1 := ⟨_, rfl⟩
  rw [← hr]
  have J10 : ∀ (y10_0 : Int32) (r : Int32), r = (own_f5_10 p0 p1 y10_0) → ∀ (T : State) (locs : List Loc), Stand p l e ({ frames := 0, cells := 0, slots := 0, locals := 0 } : Room) s m #[(.int p0), (.int p1)] below meth c T locs 0 0 → T.heap = h0 → Fr n0 locs → Run p.tables e below (FinR s ({ frames := 0, cells := 0, slots := 0, locals := 0 } : Room).cells ({ frames := 0, cells := 0, slots := 0, locals := 0 } : Room).slots (QPure n0 h0 (.int r))) T (mkF m 10 #[.val (.int p0), .val (.int p1)] [(.int y10_0)]) := by
    clear hr
    intro y10_0 r hr T locs X eT N
    rw [own_f5_10] at hr
    exact Run.retInt X hx Bd.notSynchronized Bd.returns (hb hby own_d5_10) ⟨by rw [hr], N, eT⟩ (by decide) (by decide)
  rw [own_F5] at hr
  refine Run.iloadN (pc' := 1) X0 hx (hb hby own_d5_0) rfl rfl ?_
  refine Run.iloadN (pc' := 2) X0 hx (hb hby own_d5_1) rfl rfl ?_
  by_cases hc2 : p0 < p1
  · rw [if_pos hc2] at hr
    refine Run.icmpYes (pc' := 9) X0 hx (hb hby own_d5_2) (tlt hc2).1 (by decide) (by decide) ?_
    refine Run.iloadN (pc' := 10) X0 hx (hb hby own_d5_9) rfl rfl ?_
    exact J10 p1 _ hr _ _ X0 e0 N0
  · rw [if_neg hc2] at hr
    refine Run.icmpNo (pc' := 5) X0 hx (hb hby own_d5_2) (flt hc2).1 rfl ?_
    refine Run.iloadN (pc' := 6) X0 hx (hb hby own_d5_5) rfl rfl ?_
    refine Run.goto (pc' := 10) X0 hx (hb hby own_d5_6) (by decide) (by decide) ?_
    exact J10 p0 _ hr _ _ X0 e0 N0
def own_T (j : Int32) : Int32 := (if j < (45 : Int32) then 0 else (if j < (46 : Int32) then 1 else (if j < (47 : Int32) then 1 else (if j < (48 : Int32) then 0 else (if j < (58 : Int32) then 1 else (if j < (59 : Int32) then 3 else (if j < (65 : Int32) then 0 else (if j < (91 : Int32) then 3 else (if j < (95 : Int32) then 0 else (if j < (96 : Int32) then 3 else (if j < (97 : Int32) then 0 else (if j < (123 : Int32) then 3 else (if j < (128 : Int32) then 0 else 0)))))))))))))
theorem own_T_of (f : Int32 → Int32) (t2 : ∀ j : Int32, ¬ j < 0 → j < 128 → (45 : Int32) ≤ j ∨ f j = 0) (t3 : f 45 = 1) (t4 : f 46 = 1) (t5 : f 47 = 0) (t6 : ∀ j : Int32, ¬ j < 0 → j < 128 → j < (48 : Int32) ∨ ¬ j < (58 : Int32) ∨ f j = 1) (t7 : f 58 = 3) (t8 : ∀ j : Int32, ¬ j < 0 → j < 128 → j < (59 : Int32) ∨ ¬ j < (65 : Int32) ∨ f j = 0) (t9 : ∀ j : Int32, ¬ j < 0 → j < 128 → j < (65 : Int32) ∨ ¬ j < (91 : Int32) ∨ f j = 3) (t10 : ∀ j : Int32, ¬ j < 0 → j < 128 → j < (91 : Int32) ∨ ¬ j < (95 : Int32) ∨ f j = 0) (t11 : f 95 = 3) (t12 : f 96 = 0) (t13 : ∀ j : Int32, ¬ j < 0 → j < 128 → j < (97 : Int32) ∨ ¬ j < (123 : Int32) ∨ f j = 3) (t14 : ∀ j : Int32, ¬ j < 0 → j < 128 → j < (123 : Int32) ∨ f j = 0) (j : Int32) (h0 : ¬ j < 0) (h1 : j < 128) : f j = own_T j := by
  unfold own_T
  by_cases c45 : j < (45 : Int32)
  · rw [if_pos c45]
    exact (t2 j h0 h1).resolve_left (Int32.not_le.mpr c45)
  rw [if_neg c45]
  by_cases c46 : j < (46 : Int32)
  · rw [if_pos c46]
    have e : j = 45 := Int32.toInt_inj.mp (by have a := Int32.lt_iff_toInt_lt.mp c46; have b : ¬ j.toInt < (45 : Int32).toInt := fun q => c45 (Int32.lt_iff_toInt_lt.mpr q); have e1 : (45 : Int32).toInt = 45 := rfl; have e2 : (46 : Int32).toInt = 46 := rfl; omega)
    rw [e]; exact t3
  rw [if_neg c46]
  by_cases c47 : j < (47 : Int32)
  · rw [if_pos c47]
    have e : j = 46 := Int32.toInt_inj.mp (by have a := Int32.lt_iff_toInt_lt.mp c47; have b : ¬ j.toInt < (46 : Int32).toInt := fun q => c46 (Int32.lt_iff_toInt_lt.mpr q); have e1 : (46 : Int32).toInt = 46 := rfl; have e2 : (47 : Int32).toInt = 47 := rfl; omega)
    rw [e]; exact t4
  rw [if_neg c47]
  by_cases c48 : j < (48 : Int32)
  · rw [if_pos c48]
    have e : j = 47 := Int32.toInt_inj.mp (by have a := Int32.lt_iff_toInt_lt.mp c48; have b : ¬ j.toInt < (47 : Int32).toInt := fun q => c47 (Int32.lt_iff_toInt_lt.mpr q); have e1 : (47 : Int32).toInt = 47 := rfl; have e2 : (48 : Int32).toInt = 48 := rfl; omega)
    rw [e]; exact t5
  rw [if_neg c48]
  by_cases c58 : j < (58 : Int32)
  · rw [if_pos c58]
    exact ((t6 j h0 h1).resolve_left c48).resolve_left (fun q => q c58)
  rw [if_neg c58]
  by_cases c59 : j < (59 : Int32)
  · rw [if_pos c59]
    have e : j = 58 := Int32.toInt_inj.mp (by have a := Int32.lt_iff_toInt_lt.mp c59; have b : ¬ j.toInt < (58 : Int32).toInt := fun q => c58 (Int32.lt_iff_toInt_lt.mpr q); have e1 : (58 : Int32).toInt = 58 := rfl; have e2 : (59 : Int32).toInt = 59 := rfl; omega)
    rw [e]; exact t7
  rw [if_neg c59]
  by_cases c65 : j < (65 : Int32)
  · rw [if_pos c65]
    exact ((t8 j h0 h1).resolve_left c59).resolve_left (fun q => q c65)
  rw [if_neg c65]
  by_cases c91 : j < (91 : Int32)
  · rw [if_pos c91]
    exact ((t9 j h0 h1).resolve_left c65).resolve_left (fun q => q c91)
  rw [if_neg c91]
  by_cases c95 : j < (95 : Int32)
  · rw [if_pos c95]
    exact ((t10 j h0 h1).resolve_left c91).resolve_left (fun q => q c95)
  rw [if_neg c95]
  by_cases c96 : j < (96 : Int32)
  · rw [if_pos c96]
    have e : j = 95 := Int32.toInt_inj.mp (by have a := Int32.lt_iff_toInt_lt.mp c96; have b : ¬ j.toInt < (95 : Int32).toInt := fun q => c95 (Int32.lt_iff_toInt_lt.mpr q); have e1 : (95 : Int32).toInt = 95 := rfl; have e2 : (96 : Int32).toInt = 96 := rfl; omega)
    rw [e]; exact t11
  rw [if_neg c96]
  by_cases c97 : j < (97 : Int32)
  · rw [if_pos c97]
    have e : j = 96 := Int32.toInt_inj.mp (by have a := Int32.lt_iff_toInt_lt.mp c97; have b : ¬ j.toInt < (96 : Int32).toInt := fun q => c96 (Int32.lt_iff_toInt_lt.mpr q); have e1 : (96 : Int32).toInt = 96 := rfl; have e2 : (97 : Int32).toInt = 97 := rfl; omega)
    rw [e]; exact t12
  rw [if_neg c97]
  by_cases c123 : j < (123 : Int32)
  · rw [if_pos c123]
    exact ((t13 j h0 h1).resolve_left c97).resolve_left (fun q => q c123)
  rw [if_neg c123]
  by_cases c128 : j < (128 : Int32)
  · rw [if_pos c128]
    exact (t14 j h0 h1).resolve_left c123
  rw [if_neg c128]
  exact absurd h1 c128
set_option maxHeartbeats 40000000 in
theorem own_hi (c : Int32) (h0 : 128 ≤ c.toInt) (h1 : c.toInt < 983040) : own_F1 c own_T = (if own_F4 c = (0 : Int32) then 1 else 0) := by
  have hr := rng32 c
  by_cases g0 : c.toInt < 129
  · rw [own_F1, if_neg (fun q => absurd (Int32.lt_iff_toInt_lt.mp q) (show ¬ c.toInt < 128 by omega) : ¬ c < (128 : Int32)), if_pos (Int32.lt_iff_toInt_lt.mpr (show c.toInt < 192 by omega) : c < (192 : Int32)), own_f1_37, if_pos (Int32.lt_iff_toInt_lt.mpr (show c.toInt < 216 by omega) : c < (216 : Int32)), own_f1_51, if_pos (Int32.lt_iff_toInt_lt.mpr (show c.toInt < 248 by omega) : c < (248 : Int32)), own_f1_65, if_pos (Int32.lt_iff_toInt_lt.mpr (show c.toInt < 880 by omega) : c < (880 : Int32)), own_f1_79, if_pos (Int32.lt_iff_toInt_lt.mpr (show c.toInt < 895 by omega) : c < (895 : Int32)), own_f1_93, if_neg (fun q => absurd (congrArg Int32.toInt q) (show ¬ c.toInt = 8204 by omega) : ¬ c = (8204 : Int32)), if_neg (fun q => absurd (congrArg Int32.toInt q) (show ¬ c.toInt = 8205 by omega) : ¬ c = (8205 : Int32)), if_pos (Int32.lt_iff_toInt_lt.mpr (show c.toInt < 8304 by omega) : c < (8304 : Int32)), own_f1_121, if_pos (Int32.lt_iff_toInt_lt.mpr (show c.toInt < 11264 by omega) : c < (11264 : Int32)), own_f1_135, if_pos (Int32.lt_iff_toInt_lt.mpr (show c.toInt < 12289 by omega) : c < (12289 : Int32)), own_f1_148, if_pos (Int32.lt_iff_toInt_lt.mpr (show c.toInt < 63744 by omega) : c < (63744 : Int32)), own_f1_160, if_pos (Int32.lt_iff_toInt_lt.mpr (show c.toInt < 65008 by omega) : c < (65008 : Int32)), own_f1_172, if_pos (Int32.lt_iff_toInt_lt.mpr (show c.toInt < 65536 by omega) : c < (65536 : Int32)), own_f1_188, own_f1_189, own_F4, if_pos (Int32.lt_iff_toInt_lt.mpr (show 57 < c.toInt by omega) : (57 : Int32) < c), if_neg (fun q => absurd (Int32.lt_iff_toInt_lt.mp q) (show ¬ c.toInt < 59 by omega) : ¬ c < (59 : Int32)), if_pos (Int32.lt_iff_toInt_lt.mpr (show 64 < c.toInt by omega) : (64 : Int32) < c), own_f4_18, if_neg (fun q => absurd (Int32.lt_iff_toInt_lt.mp q) (show ¬ c.toInt < 91 by omega) : ¬ c < (91 : Int32)), if_pos (Int32.lt_iff_toInt_lt.mpr (show 94 < c.toInt by omega) : (94 : Int32) < c), own_f4_30, if_neg (fun q => absurd (congrArg Int32.toInt q) (show ¬ c.toInt = 96 by omega) : ¬ c = (96 : Int32)), if_neg (fun q => absurd (Int32.lt_iff_toInt_lt.mp q) (show ¬ c.toInt < 123 by omega) : ¬ c < (123 : Int32)), if_neg (fun q => absurd (Int32.lt_iff_toInt_lt.mp q) (show ¬ 191 < c.toInt by omega) : ¬ (191 : Int32) < c), own_f4_176, own_f4_181]
    try rfl
  by_cases g1 : c.toInt < 191
  · rw [own_F1, if_neg (fun q => absurd (Int32.lt_iff_toInt_lt.mp q) (show ¬ c.toInt < 128 by omega) : ¬ c < (128 : Int32)), if_pos (Int32.lt_iff_toInt_lt.mpr (show c.toInt < 192 by omega) : c < (192 : Int32)), own_f1_37, if_pos (Int32.lt_iff_toInt_lt.mpr (show c.toInt < 216 by omega) : c < (216 : Int32)), own_f1_51, if_pos (Int32.lt_iff_toInt_lt.mpr (show c.toInt < 248 by omega) : c < (248 : Int32)), own_f1_65, if_pos (Int32.lt_iff_toInt_lt.mpr (show c.toInt < 880 by omega) : c < (880 : Int32)), own_f1_79, if_pos (Int32.lt_iff_toInt_lt.mpr (show c.toInt < 895 by omega) : c < (895 : Int32)), own_f1_93, if_neg (fun q => absurd (congrArg Int32.toInt q) (show ¬ c.toInt = 8204 by omega) : ¬ c = (8204 : Int32)), if_neg (fun q => absurd (congrArg Int32.toInt q) (show ¬ c.toInt = 8205 by omega) : ¬ c = (8205 : Int32)), if_pos (Int32.lt_iff_toInt_lt.mpr (show c.toInt < 8304 by omega) : c < (8304 : Int32)), own_f1_121, if_pos (Int32.lt_iff_toInt_lt.mpr (show c.toInt < 11264 by omega) : c < (11264 : Int32)), own_f1_135, if_pos (Int32.lt_iff_toInt_lt.mpr (show c.toInt < 12289 by omega) : c < (12289 : Int32)), own_f1_148, if_pos (Int32.lt_iff_toInt_lt.mpr (show c.toInt < 63744 by omega) : c < (63744 : Int32)), own_f1_160, if_pos (Int32.lt_iff_toInt_lt.mpr (show c.toInt < 65008 by omega) : c < (65008 : Int32)), own_f1_172, if_pos (Int32.lt_iff_toInt_lt.mpr (show c.toInt < 65536 by omega) : c < (65536 : Int32)), own_f1_188, own_f1_189, own_F4, if_pos (Int32.lt_iff_toInt_lt.mpr (show 57 < c.toInt by omega) : (57 : Int32) < c), if_neg (fun q => absurd (Int32.lt_iff_toInt_lt.mp q) (show ¬ c.toInt < 59 by omega) : ¬ c < (59 : Int32)), if_pos (Int32.lt_iff_toInt_lt.mpr (show 64 < c.toInt by omega) : (64 : Int32) < c), own_f4_18, if_neg (fun q => absurd (Int32.lt_iff_toInt_lt.mp q) (show ¬ c.toInt < 91 by omega) : ¬ c < (91 : Int32)), if_pos (Int32.lt_iff_toInt_lt.mpr (show 94 < c.toInt by omega) : (94 : Int32) < c), own_f4_30, if_neg (fun q => absurd (congrArg Int32.toInt q) (show ¬ c.toInt = 96 by omega) : ¬ c = (96 : Int32)), if_neg (fun q => absurd (Int32.lt_iff_toInt_lt.mp q) (show ¬ c.toInt < 123 by omega) : ¬ c < (123 : Int32)), if_neg (fun q => absurd (Int32.lt_iff_toInt_lt.mp q) (show ¬ 191 < c.toInt by omega) : ¬ (191 : Int32) < c), own_f4_176, own_f4_181]
    try rfl
  by_cases g2 : c.toInt < 192
  · rw [own_F1, if_neg (fun q => absurd (Int32.lt_iff_toInt_lt.mp q) (show ¬ c.toInt < 128 by omega) : ¬ c < (128 : Int32)), if_pos (Int32.lt_iff_toInt_lt.mpr (show c.toInt < 192 by omega) : c < (192 : Int32)), own_f1_37, if_pos (Int32.lt_iff_toInt_lt.mpr (show c.toInt < 216 by omega) : c < (216 : Int32)), own_f1_51, if_pos (Int32.lt_iff_toInt_lt.mpr (show c.toInt < 248 by omega) : c < (248 : Int32)), own_f1_65, if_pos (Int32.lt_iff_toInt_lt.mpr (show c.toInt < 880 by omega) : c < (880 : Int32)), own_f1_79, if_pos (Int32.lt_iff_toInt_lt.mpr (show c.toInt < 895 by omega) : c < (895 : Int32)), own_f1_93, if_neg (fun q => absurd (congrArg Int32.toInt q) (show ¬ c.toInt = 8204 by omega) : ¬ c = (8204 : Int32)), if_neg (fun q => absurd (congrArg Int32.toInt q) (show ¬ c.toInt = 8205 by omega) : ¬ c = (8205 : Int32)), if_pos (Int32.lt_iff_toInt_lt.mpr (show c.toInt < 8304 by omega) : c < (8304 : Int32)), own_f1_121, if_pos (Int32.lt_iff_toInt_lt.mpr (show c.toInt < 11264 by omega) : c < (11264 : Int32)), own_f1_135, if_pos (Int32.lt_iff_toInt_lt.mpr (show c.toInt < 12289 by omega) : c < (12289 : Int32)), own_f1_148, if_pos (Int32.lt_iff_toInt_lt.mpr (show c.toInt < 63744 by omega) : c < (63744 : Int32)), own_f1_160, if_pos (Int32.lt_iff_toInt_lt.mpr (show c.toInt < 65008 by omega) : c < (65008 : Int32)), own_f1_172, if_pos (Int32.lt_iff_toInt_lt.mpr (show c.toInt < 65536 by omega) : c < (65536 : Int32)), own_f1_188, own_f1_189, own_F4, if_pos (Int32.lt_iff_toInt_lt.mpr (show 57 < c.toInt by omega) : (57 : Int32) < c), if_neg (fun q => absurd (Int32.lt_iff_toInt_lt.mp q) (show ¬ c.toInt < 59 by omega) : ¬ c < (59 : Int32)), if_pos (Int32.lt_iff_toInt_lt.mpr (show 64 < c.toInt by omega) : (64 : Int32) < c), own_f4_18, if_neg (fun q => absurd (Int32.lt_iff_toInt_lt.mp q) (show ¬ c.toInt < 91 by omega) : ¬ c < (91 : Int32)), if_pos (Int32.lt_iff_toInt_lt.mpr (show 94 < c.toInt by omega) : (94 : Int32) < c), own_f4_30, if_neg (fun q => absurd (congrArg Int32.toInt q) (show ¬ c.toInt = 96 by omega) : ¬ c = (96 : Int32)), if_neg (fun q => absurd (Int32.lt_iff_toInt_lt.mp q) (show ¬ c.toInt < 123 by omega) : ¬ c < (123 : Int32)), if_neg (fun q => absurd (Int32.lt_iff_toInt_lt.mp q) (show ¬ 191 < c.toInt by omega) : ¬ (191 : Int32) < c), own_f4_176, own_f4_181]
    try rfl
  by_cases g3 : c.toInt < 193
  · rw [own_F1, if_neg (fun q => absurd (Int32.lt_iff_toInt_lt.mp q) (show ¬ c.toInt < 128 by omega) : ¬ c < (128 : Int32)), if_neg (fun q => absurd (Int32.lt_iff_toInt_lt.mp q) (show ¬ c.toInt < 192 by omega) : ¬ c < (192 : Int32)), if_neg (fun q => absurd (Int32.lt_iff_toInt_lt.mp q) (show ¬ 214 < c.toInt by omega) : ¬ (214 : Int32) < c), own_f1_184, own_f1_189, own_F4, if_pos (Int32.lt_iff_toInt_lt.mpr (show 57 < c.toInt by omega) : (57 : Int32) < c), if_neg (fun q => absurd (Int32.lt_iff_toInt_lt.mp q) (show ¬ c.toInt < 59 by omega) : ¬ c < (59 : Int32)), if_pos (Int32.lt_iff_toInt_lt.mpr (show 64 < c.toInt by omega) : (64 : Int32) < c), own_f4_18, if_neg (fun q => absurd (Int32.lt_iff_toInt_lt.mp q) (show ¬ c.toInt < 91 by omega) : ¬ c < (91 : Int32)), if_pos (Int32.lt_iff_toInt_lt.mpr (show 94 < c.toInt by omega) : (94 : Int32) < c), own_f4_30, if_neg (fun q => absurd (congrArg Int32.toInt q) (show ¬ c.toInt = 96 by omega) : ¬ c = (96 : Int32)), if_neg (fun q => absurd (Int32.lt_iff_toInt_lt.mp q) (show ¬ c.toInt < 123 by omega) : ¬ c < (123 : Int32)), if_pos (Int32.lt_iff_toInt_lt.mpr (show 191 < c.toInt by omega) : (191 : Int32) < c), own_f4_49, if_neg (fun q => absurd (congrArg Int32.toInt q) (show ¬ c.toInt = 215 by omega) : ¬ c = (215 : Int32)), if_neg (fun q => absurd (congrArg Int32.toInt q) (show ¬ c.toInt = 247 by omega) : ¬ c = (247 : Int32)), if_pos (Int32.lt_iff_toInt_lt.mpr (show c.toInt < 768 by omega) : c < (768 : Int32)), own_f4_77, if_neg (fun q => absurd (congrArg Int32.toInt q) (show ¬ c.toInt = 894 by omega) : ¬ c = (894 : Int32)), if_pos (Int32.lt_iff_toInt_lt.mpr (show c.toInt < 8192 by omega) : c < (8192 : Int32)), own_f4_98, if_pos (Int32.lt_iff_toInt_lt.mpr (show c.toInt < 8206 by omega) : c < (8206 : Int32)), own_f4_112, if_pos (Int32.lt_iff_toInt_lt.mpr (show c.toInt < 8592 by omega) : c < (8592 : Int32)), own_f4_126, if_pos (Int32.lt_iff_toInt_lt.mpr (show c.toInt < 12272 by omega) : c < (12272 : Int32)), own_f4_140, if_pos (Int32.lt_iff_toInt_lt.mpr (show c.toInt < 55296 by omega) : c < (55296 : Int32)), own_f4_152, if_pos (Int32.lt_iff_toInt_lt.mpr (show c.toInt < 64976 by omega) : c < (64976 : Int32)), own_f4_164, if_neg (fun q => absurd (congrArg Int32.toInt q) (show ¬ c.toInt = 65534 by omega) : ¬ c = (65534 : Int32)), if_neg (fun q => absurd (congrArg Int32.toInt q) (show ¬ c.toInt = 65535 by omega) : ¬ c = (65535 : Int32)), own_f4_181]
    try rfl
  by_cases g4 : c.toInt < 214
  · rw [own_F1, if_neg (fun q => absurd (Int32.lt_iff_toInt_lt.mp q) (show ¬ c.toInt < 128 by omega) : ¬ c < (128 : Int32)), if_neg (fun q => absurd (Int32.lt_iff_toInt_lt.mp q) (show ¬ c.toInt < 192 by omega) : ¬ c < (192 : Int32)), if_neg (fun q => absurd (Int32.lt_iff_toInt_lt.mp q) (show ¬ 214 < c.toInt by omega) : ¬ (214 : Int32) < c), own_f1_184, own_f1_189, own_F4, if_pos (Int32.lt_iff_toInt_lt.mpr (show 57 < c.toInt by omega) : (57 : Int32) < c), if_neg (fun q => absurd (Int32.lt_iff_toInt_lt.mp q) (show ¬ c.toInt < 59 by omega) : ¬ c < (59 : Int32)), if_pos (Int32.lt_iff_toInt_lt.mpr (show 64 < c.toInt by omega) : (64 : Int32) < c), own_f4_18, if_neg (fun q => absurd (Int32.lt_iff_toInt_lt.mp q) (show ¬ c.toInt < 91 by omega) : ¬ c < (91 : Int32)), if_pos (Int32.lt_iff_toInt_lt.mpr (show 94 < c.toInt by omega) : (94 : Int32) < c), own_f4_30, if_neg (fun q => absurd (congrArg Int32.toInt q) (show ¬ c.toInt = 96 by omega) : ¬ c = (96 : Int32)), if_neg (fun q => absurd (Int32.lt_iff_toInt_lt.mp q) (show ¬ c.toInt < 123 by omega) : ¬ c < (123 : Int32)), if_pos (Int32.lt_iff_toInt_lt.mpr (show 191 < c.toInt by omega) : (191 : Int32) < c), own_f4_49, if_neg (fun q => absurd (congrArg Int32.toInt q) (show ¬ c.toInt = 215 by omega) : ¬ c = (215 : Int32)), if_neg (fun q => absurd (congrArg Int32.toInt q) (show ¬ c.toInt = 247 by omega) : ¬ c = (247 : Int32)), if_pos (Int32.lt_iff_toInt_lt.mpr (show c.toInt < 768 by omega) : c < (768 : Int32)), own_f4_77, if_neg (fun q => absurd (congrArg Int32.toInt q) (show ¬ c.toInt = 894 by omega) : ¬ c = (894 : Int32)), if_pos (Int32.lt_iff_toInt_lt.mpr (show c.toInt < 8192 by omega) : c < (8192 : Int32)), own_f4_98, if_pos (Int32.lt_iff_toInt_lt.mpr (show c.toInt < 8206 by omega) : c < (8206 : Int32)), own_f4_112, if_pos (Int32.lt_iff_toInt_lt.mpr (show c.toInt < 8592 by omega) : c < (8592 : Int32)), own_f4_126, if_pos (Int32.lt_iff_toInt_lt.mpr (show c.toInt < 12272 by omega) : c < (12272 : Int32)), own_f4_140, if_pos (Int32.lt_iff_toInt_lt.mpr (show c.toInt < 55296 by omega) : c < (55296 : Int32)), own_f4_152, if_pos (Int32.lt_iff_toInt_lt.mpr (show c.toInt < 64976 by omega) : c < (64976 : Int32)), own_f4_164, if_neg (fun q => absurd (congrArg Int32.toInt q) (show ¬ c.toInt = 65534 by omega) : ¬ c = (65534 : Int32)), if_neg (fun q => absurd (congrArg Int32.toInt q) (show ¬ c.toInt = 65535 by omega) : ¬ c = (65535 : Int32)), own_f4_181]
    try rfl
  by_cases g5 : c.toInt < 215
  · rw [own_F1, if_neg (fun q => absurd (Int32.lt_iff_toInt_lt.mp q) (show ¬ c.toInt < 128 by omega) : ¬ c < (128 : Int32)), if_neg (fun q => absurd (Int32.lt_iff_toInt_lt.mp q) (show ¬ c.toInt < 192 by omega) : ¬ c < (192 : Int32)), if_neg (fun q => absurd (Int32.lt_iff_toInt_lt.mp q) (show ¬ 214 < c.toInt by omega) : ¬ (214 : Int32) < c), own_f1_184, own_f1_189, own_F4, if_pos (Int32.lt_iff_toInt_lt.mpr (show 57 < c.toInt by omega) : (57 : Int32) < c), if_neg (fun q => absurd (Int32.lt_iff_toInt_lt.mp q) (show ¬ c.toInt < 59 by omega) : ¬ c < (59 : Int32)), if_pos (Int32.lt_iff_toInt_lt.mpr (show 64 < c.toInt by omega) : (64 : Int32) < c), own_f4_18, if_neg (fun q => absurd (Int32.lt_iff_toInt_lt.mp q) (show ¬ c.toInt < 91 by omega) : ¬ c < (91 : Int32)), if_pos (Int32.lt_iff_toInt_lt.mpr (show 94 < c.toInt by omega) : (94 : Int32) < c), own_f4_30, if_neg (fun q => absurd (congrArg Int32.toInt q) (show ¬ c.toInt = 96 by omega) : ¬ c = (96 : Int32)), if_neg (fun q => absurd (Int32.lt_iff_toInt_lt.mp q) (show ¬ c.toInt < 123 by omega) : ¬ c < (123 : Int32)), if_pos (Int32.lt_iff_toInt_lt.mpr (show 191 < c.toInt by omega) : (191 : Int32) < c), own_f4_49, if_neg (fun q => absurd (congrArg Int32.toInt q) (show ¬ c.toInt = 215 by omega) : ¬ c = (215 : Int32)), if_neg (fun q => absurd (congrArg Int32.toInt q) (show ¬ c.toInt = 247 by omega) : ¬ c = (247 : Int32)), if_pos (Int32.lt_iff_toInt_lt.mpr (show c.toInt < 768 by omega) : c < (768 : Int32)), own_f4_77, if_neg (fun q => absurd (congrArg Int32.toInt q) (show ¬ c.toInt = 894 by omega) : ¬ c = (894 : Int32)), if_pos (Int32.lt_iff_toInt_lt.mpr (show c.toInt < 8192 by omega) : c < (8192 : Int32)), own_f4_98, if_pos (Int32.lt_iff_toInt_lt.mpr (show c.toInt < 8206 by omega) : c < (8206 : Int32)), own_f4_112, if_pos (Int32.lt_iff_toInt_lt.mpr (show c.toInt < 8592 by omega) : c < (8592 : Int32)), own_f4_126, if_pos (Int32.lt_iff_toInt_lt.mpr (show c.toInt < 12272 by omega) : c < (12272 : Int32)), own_f4_140, if_pos (Int32.lt_iff_toInt_lt.mpr (show c.toInt < 55296 by omega) : c < (55296 : Int32)), own_f4_152, if_pos (Int32.lt_iff_toInt_lt.mpr (show c.toInt < 64976 by omega) : c < (64976 : Int32)), own_f4_164, if_neg (fun q => absurd (congrArg Int32.toInt q) (show ¬ c.toInt = 65534 by omega) : ¬ c = (65534 : Int32)), if_neg (fun q => absurd (congrArg Int32.toInt q) (show ¬ c.toInt = 65535 by omega) : ¬ c = (65535 : Int32)), own_f4_181]
    try rfl
  by_cases g6 : c.toInt < 216
  · rw [own_F1, if_neg (fun q => absurd (Int32.lt_iff_toInt_lt.mp q) (show ¬ c.toInt < 128 by omega) : ¬ c < (128 : Int32)), if_neg (fun q => absurd (Int32.lt_iff_toInt_lt.mp q) (show ¬ c.toInt < 192 by omega) : ¬ c < (192 : Int32)), if_pos (Int32.lt_iff_toInt_lt.mpr (show 214 < c.toInt by omega) : (214 : Int32) < c), own_f1_37, if_pos (Int32.lt_iff_toInt_lt.mpr (show c.toInt < 216 by omega) : c < (216 : Int32)), own_f1_51, if_pos (Int32.lt_iff_toInt_lt.mpr (show c.toInt < 248 by omega) : c < (248 : Int32)), own_f1_65, if_pos (Int32.lt_iff_toInt_lt.mpr (show c.toInt < 880 by omega) : c < (880 : Int32)), own_f1_79, if_pos (Int32.lt_iff_toInt_lt.mpr (show c.toInt < 895 by omega) : c < (895 : Int32)), own_f1_93, if_neg (fun q => absurd (congrArg Int32.toInt q) (show ¬ c.toInt = 8204 by omega) : ¬ c = (8204 : Int32)), if_neg (fun q => absurd (congrArg Int32.toInt q) (show ¬ c.toInt = 8205 by omega) : ¬ c = (8205 : Int32)), if_pos (Int32.lt_iff_toInt_lt.mpr (show c.toInt < 8304 by omega) : c < (8304 : Int32)), own_f1_121, if_pos (Int32.lt_iff_toInt_lt.mpr (show c.toInt < 11264 by omega) : c < (11264 : Int32)), own_f1_135, if_pos (Int32.lt_iff_toInt_lt.mpr (show c.toInt < 12289 by omega) : c < (12289 : Int32)), own_f1_148, if_pos (Int32.lt_iff_toInt_lt.mpr (show c.toInt < 63744 by omega) : c < (63744 : Int32)), own_f1_160, if_pos (Int32.lt_iff_toInt_lt.mpr (show c.toInt < 65008 by omega) : c < (65008 : Int32)), own_f1_172, if_pos (Int32.lt_iff_toInt_lt.mpr (show c.toInt < 65536 by omega) : c < (65536 : Int32)), own_f1_188, own_f1_189, own_F4, if_pos (Int32.lt_iff_toInt_lt.mpr (show 57 < c.toInt by omega) : (57 : Int32) < c), if_neg (fun q => absurd (Int32.lt_iff_toInt_lt.mp q) (show ¬ c.toInt < 59 by omega) : ¬ c < (59 : Int32)), if_pos (Int32.lt_iff_toInt_lt.mpr (show 64 < c.toInt by omega) : (64 : Int32) < c), own_f4_18, if_neg (fun q => absurd (Int32.lt_iff_toInt_lt.mp q) (show ¬ c.toInt < 91 by omega) : ¬ c < (91 : Int32)), if_pos (Int32.lt_iff_toInt_lt.mpr (show 94 < c.toInt by omega) : (94 : Int32) < c), own_f4_30, if_neg (fun q => absurd (congrArg Int32.toInt q) (show ¬ c.toInt = 96 by omega) : ¬ c = (96 : Int32)), if_neg (fun q => absurd (Int32.lt_iff_toInt_lt.mp q) (show ¬ c.toInt < 123 by omega) : ¬ c < (123 : Int32)), if_pos (Int32.lt_iff_toInt_lt.mpr (show 191 < c.toInt by omega) : (191 : Int32) < c), own_f4_49, if_pos (Int32.toInt_inj.mp (show c.toInt = 215 by omega) : c = (215 : Int32)), own_f4_176, own_f4_181]
    try rfl
  by_cases g7 : c.toInt < 217
  · rw [own_F1, if_neg (fun q => absurd (Int32.lt_iff_toInt_lt.mp q) (show ¬ c.toInt < 128 by omega) : ¬ c < (128 : Int32)), if_neg (fun q => absurd (Int32.lt_iff_toInt_lt.mp q) (show ¬ c.toInt < 192 by omega) : ¬ c < (192 : Int32)), if_pos (Int32.lt_iff_toInt_lt.mpr (show 214 < c.toInt by omega) : (214 : Int32) < c), own_f1_37, if_neg (fun q => absurd (Int32.lt_iff_toInt_lt.mp q) (show ¬ c.toInt < 216 by omega) : ¬ c < (216 : Int32)), if_neg (fun q => absurd (Int32.lt_iff_toInt_lt.mp q) (show ¬ 246 < c.toInt by omega) : ¬ (246 : Int32) < c), own_f1_184, own_f1_189, own_F4, if_pos (Int32.lt_iff_toInt_lt.mpr (show 57 < c.toInt by omega) : (57 : Int32) < c), if_neg (fun q => absurd (Int32.lt_iff_toInt_lt.mp q) (show ¬ c.toInt < 59 by omega) : ¬ c < (59 : Int32)), if_pos (Int32.lt_iff_toInt_lt.mpr (show 64 < c.toInt by omega) : (64 : Int32) < c), own_f4_18, if_neg (fun q => absurd (Int32.lt_iff_toInt_lt.mp q) (show ¬ c.toInt < 91 by omega) : ¬ c < (91 : Int32)), if_pos (Int32.lt_iff_toInt_lt.mpr (show 94 < c.toInt by omega) : (94 : Int32) < c), own_f4_30, if_neg (fun q => absurd (congrArg Int32.toInt q) (show ¬ c.toInt = 96 by omega) : ¬ c = (96 : Int32)), if_neg (fun q => absurd (Int32.lt_iff_toInt_lt.mp q) (show ¬ c.toInt < 123 by omega) : ¬ c < (123 : Int32)), if_pos (Int32.lt_iff_toInt_lt.mpr (show 191 < c.toInt by omega) : (191 : Int32) < c), own_f4_49, if_neg (fun q => absurd (congrArg Int32.toInt q) (show ¬ c.toInt = 215 by omega) : ¬ c = (215 : Int32)), if_neg (fun q => absurd (congrArg Int32.toInt q) (show ¬ c.toInt = 247 by omega) : ¬ c = (247 : Int32)), if_pos (Int32.lt_iff_toInt_lt.mpr (show c.toInt < 768 by omega) : c < (768 : Int32)), own_f4_77, if_neg (fun q => absurd (congrArg Int32.toInt q) (show ¬ c.toInt = 894 by omega) : ¬ c = (894 : Int32)), if_pos (Int32.lt_iff_toInt_lt.mpr (show c.toInt < 8192 by omega) : c < (8192 : Int32)), own_f4_98, if_pos (Int32.lt_iff_toInt_lt.mpr (show c.toInt < 8206 by omega) : c < (8206 : Int32)), own_f4_112, if_pos (Int32.lt_iff_toInt_lt.mpr (show c.toInt < 8592 by omega) : c < (8592 : Int32)), own_f4_126, if_pos (Int32.lt_iff_toInt_lt.mpr (show c.toInt < 12272 by omega) : c < (12272 : Int32)), own_f4_140, if_pos (Int32.lt_iff_toInt_lt.mpr (show c.toInt < 55296 by omega) : c < (55296 : Int32)), own_f4_152, if_pos (Int32.lt_iff_toInt_lt.mpr (show c.toInt < 64976 by omega) : c < (64976 : Int32)), own_f4_164, if_neg (fun q => absurd (congrArg Int32.toInt q) (show ¬ c.toInt = 65534 by omega) : ¬ c = (65534 : Int32)), if_neg (fun q => absurd (congrArg Int32.toInt q) (show ¬ c.toInt = 65535 by omega) : ¬ c = (65535 : Int32)), own_f4_181]
    try rfl
  by_cases g8 : c.toInt < 246
  · rw [own_F1, if_neg (fun q => absurd (Int32.lt_iff_toInt_lt.mp q) (show ¬ c.toInt < 128 by omega) : ¬ c < (128 : Int32)), if_neg (fun q => absurd (Int32.lt_iff_toInt_lt.mp q) (show ¬ c.toInt < 192 by omega) : ¬ c < (192 : Int32)), if_pos (Int32.lt_iff_toInt_lt.mpr (show 214 < c.toInt by omega) : (214 : Int32) < c), own_f1_37, if_neg (fun q => absurd (Int32.lt_iff_toInt_lt.mp q) (show ¬ c.toInt < 216 by omega) : ¬ c < (216 : Int32)), if_neg (fun q => absurd (Int32.lt_iff_toInt_lt.mp q) (show ¬ 246 < c.toInt by omega) : ¬ (246 : Int32) < c), own_f1_184, own_f1_189, own_F4, if_pos (Int32.lt_iff_toInt_lt.mpr (show 57 < c.toInt by omega) : (57 : Int32) < c), if_neg (fun q => absurd (Int32.lt_iff_toInt_lt.mp q) (show ¬ c.toInt < 59 by omega) : ¬ c < (59 : Int32)), if_pos (Int32.lt_iff_toInt_lt.mpr (show 64 < c.toInt by omega) : (64 : Int32) < c), own_f4_18, if_neg (fun q => absurd (Int32.lt_iff_toInt_lt.mp q) (show ¬ c.toInt < 91 by omega) : ¬ c < (91 : Int32)), if_pos (Int32.lt_iff_toInt_lt.mpr (show 94 < c.toInt by omega) : (94 : Int32) < c), own_f4_30, if_neg (fun q => absurd (congrArg Int32.toInt q) (show ¬ c.toInt = 96 by omega) : ¬ c = (96 : Int32)), if_neg (fun q => absurd (Int32.lt_iff_toInt_lt.mp q) (show ¬ c.toInt < 123 by omega) : ¬ c < (123 : Int32)), if_pos (Int32.lt_iff_toInt_lt.mpr (show 191 < c.toInt by omega) : (191 : Int32) < c), own_f4_49, if_neg (fun q => absurd (congrArg Int32.toInt q) (show ¬ c.toInt = 215 by omega) : ¬ c = (215 : Int32)), if_neg (fun q => absurd (congrArg Int32.toInt q) (show ¬ c.toInt = 247 by omega) : ¬ c = (247 : Int32)), if_pos (Int32.lt_iff_toInt_lt.mpr (show c.toInt < 768 by omega) : c < (768 : Int32)), own_f4_77, if_neg (fun q => absurd (congrArg Int32.toInt q) (show ¬ c.toInt = 894 by omega) : ¬ c = (894 : Int32)), if_pos (Int32.lt_iff_toInt_lt.mpr (show c.toInt < 8192 by omega) : c < (8192 : Int32)), own_f4_98, if_pos (Int32.lt_iff_toInt_lt.mpr (show c.toInt < 8206 by omega) : c < (8206 : Int32)), own_f4_112, if_pos (Int32.lt_iff_toInt_lt.mpr (show c.toInt < 8592 by omega) : c < (8592 : Int32)), own_f4_126, if_pos (Int32.lt_iff_toInt_lt.mpr (show c.toInt < 12272 by omega) : c < (12272 : Int32)), own_f4_140, if_pos (Int32.lt_iff_toInt_lt.mpr (show c.toInt < 55296 by omega) : c < (55296 : Int32)), own_f4_152, if_pos (Int32.lt_iff_toInt_lt.mpr (show c.toInt < 64976 by omega) : c < (64976 : Int32)), own_f4_164, if_neg (fun q => absurd (congrArg Int32.toInt q) (show ¬ c.toInt = 65534 by omega) : ¬ c = (65534 : Int32)), if_neg (fun q => absurd (congrArg Int32.toInt q) (show ¬ c.toInt = 65535 by omega) : ¬ c = (65535 : Int32)), own_f4_181]
    try rfl
  by_cases g9 : c.toInt < 247
  · rw [own_F1, if_neg (fun q => absurd (Int32.lt_iff_toInt_lt.mp q) (show ¬ c.toInt < 128 by omega) : ¬ c < (128 : Int32)), if_neg (fun q => absurd (Int32.lt_iff_toInt_lt.mp q) (show ¬ c.toInt < 192 by omega) : ¬ c < (192 : Int32)), if_pos (Int32.lt_iff_toInt_lt.mpr (show 214 < c.toInt by omega) : (214 : Int32) < c), own_f1_37, if_neg (fun q => absurd (Int32.lt_iff_toInt_lt.mp q) (show ¬ c.toInt < 216 by omega) : ¬ c < (216 : Int32)), if_neg (fun q => absurd (Int32.lt_iff_toInt_lt.mp q) (show ¬ 246 < c.toInt by omega) : ¬ (246 : Int32) < c), own_f1_184, own_f1_189, own_F4, if_pos (Int32.lt_iff_toInt_lt.mpr (show 57 < c.toInt by omega) : (57 : Int32) < c), if_neg (fun q => absurd (Int32.lt_iff_toInt_lt.mp q) (show ¬ c.toInt < 59 by omega) : ¬ c < (59 : Int32)), if_pos (Int32.lt_iff_toInt_lt.mpr (show 64 < c.toInt by omega) : (64 : Int32) < c), own_f4_18, if_neg (fun q => absurd (Int32.lt_iff_toInt_lt.mp q) (show ¬ c.toInt < 91 by omega) : ¬ c < (91 : Int32)), if_pos (Int32.lt_iff_toInt_lt.mpr (show 94 < c.toInt by omega) : (94 : Int32) < c), own_f4_30, if_neg (fun q => absurd (congrArg Int32.toInt q) (show ¬ c.toInt = 96 by omega) : ¬ c = (96 : Int32)), if_neg (fun q => absurd (Int32.lt_iff_toInt_lt.mp q) (show ¬ c.toInt < 123 by omega) : ¬ c < (123 : Int32)), if_pos (Int32.lt_iff_toInt_lt.mpr (show 191 < c.toInt by omega) : (191 : Int32) < c), own_f4_49, if_neg (fun q => absurd (congrArg Int32.toInt q) (show ¬ c.toInt = 215 by omega) : ¬ c = (215 : Int32)), if_neg (fun q => absurd (congrArg Int32.toInt q) (show ¬ c.toInt = 247 by omega) : ¬ c = (247 : Int32)), if_pos (Int32.lt_iff_toInt_lt.mpr (show c.toInt < 768 by omega) : c < (768 : Int32)), own_f4_77, if_neg (fun q => absurd (congrArg Int32.toInt q) (show ¬ c.toInt = 894 by omega) : ¬ c = (894 : Int32)), if_pos (Int32.lt_iff_toInt_lt.mpr (show c.toInt < 8192 by omega) : c < (8192 : Int32)), own_f4_98, if_pos (Int32.lt_iff_toInt_lt.mpr (show c.toInt < 8206 by omega) : c < (8206 : Int32)), own_f4_112, if_pos (Int32.lt_iff_toInt_lt.mpr (show c.toInt < 8592 by omega) : c < (8592 : Int32)), own_f4_126, if_pos (Int32.lt_iff_toInt_lt.mpr (show c.toInt < 12272 by omega) : c < (12272 : Int32)), own_f4_140, if_pos (Int32.lt_iff_toInt_lt.mpr (show c.toInt < 55296 by omega) : c < (55296 : Int32)), own_f4_152, if_pos (Int32.lt_iff_toInt_lt.mpr (show c.toInt < 64976 by omega) : c < (64976 : Int32)), own_f4_164, if_neg (fun q => absurd (congrArg Int32.toInt q) (show ¬ c.toInt = 65534 by omega) : ¬ c = (65534 : Int32)), if_neg (fun q => absurd (congrArg Int32.toInt q) (show ¬ c.toInt = 65535 by omega) : ¬ c = (65535 : Int32)), own_f4_181]
    try rfl
  by_cases g10 : c.toInt < 248
  · rw [own_F1, if_neg (fun q => absurd (Int32.lt_iff_toInt_lt.mp q) (show ¬ c.toInt < 128 by omega) : ¬ c < (128 : Int32)), if_neg (fun q => absurd (Int32.lt_iff_toInt_lt.mp q) (show ¬ c.toInt < 192 by omega) : ¬ c < (192 : Int32)), if_pos (Int32.lt_iff_toInt_lt.mpr (show 214 < c.toInt by omega) : (214 : Int32) < c), own_f1_37, if_neg (fun q => absurd (Int32.lt_iff_toInt_lt.mp q) (show ¬ c.toInt < 216 by omega) : ¬ c < (216 : Int32)), if_pos (Int32.lt_iff_toInt_lt.mpr (show 246 < c.toInt by omega) : (246 : Int32) < c), own_f1_51, if_pos (Int32.lt_iff_toInt_lt.mpr (show c.toInt < 248 by omega) : c < (248 : Int32)), own_f1_65, if_pos (Int32.lt_iff_toInt_lt.mpr (show c.toInt < 880 by omega) : c < (880 : Int32)), own_f1_79, if_pos (Int32.lt_iff_toInt_lt.mpr (show c.toInt < 895 by omega) : c < (895 : Int32)), own_f1_93, if_neg (fun q => absurd (congrArg Int32.toInt q) (show ¬ c.toInt = 8204 by omega) : ¬ c = (8204 : Int32)), if_neg (fun q => absurd (congrArg Int32.toInt q) (show ¬ c.toInt = 8205 by omega) : ¬ c = (8205 : Int32)), if_pos (Int32.lt_iff_toInt_lt.mpr (show c.toInt < 8304 by omega) : c < (8304 : Int32)), own_f1_121, if_pos (Int32.lt_iff_toInt_lt.mpr (show c.toInt < 11264 by omega) : c < (11264 : Int32)), own_f1_135, if_pos (Int32.lt_iff_toInt_lt.mpr (show c.toInt < 12289 by omega) : c < (12289 : Int32)), own_f1_148, if_pos (Int32.lt_iff_toInt_lt.mpr (show c.toInt < 63744 by omega) : c < (63744 : Int32)), own_f1_160, if_pos (Int32.lt_iff_toInt_lt.mpr (show c.toInt < 65008 by omega) : c < (65008 : Int32)), own_f1_172, if_pos (Int32.lt_iff_toInt_lt.mpr (show c.toInt < 65536 by omega) : c < (65536 : Int32)), own_f1_188, own_f1_189, own_F4, if_pos (Int32.lt_iff_toInt_lt.mpr (show 57 < c.toInt by omega) : (57 : Int32) < c), if_neg (fun q => absurd (Int32.lt_iff_toInt_lt.mp q) (show ¬ c.toInt < 59 by omega) : ¬ c < (59 : Int32)), if_pos (Int32.lt_iff_toInt_lt.mpr (show 64 < c.toInt by omega) : (64 : Int32) < c), own_f4_18, if_neg (fun q => absurd (Int32.lt_iff_toInt_lt.mp q) (show ¬ c.toInt < 91 by omega) : ¬ c < (91 : Int32)), if_pos (Int32.lt_iff_toInt_lt.mpr (show 94 < c.toInt by omega) : (94 : Int32) < c), own_f4_30, if_neg (fun q => absurd (congrArg Int32.toInt q) (show ¬ c.toInt = 96 by omega) : ¬ c = (96 : Int32)), if_neg (fun q => absurd (Int32.lt_iff_toInt_lt.mp q) (show ¬ c.toInt < 123 by omega) : ¬ c < (123 : Int32)), if_pos (Int32.lt_iff_toInt_lt.mpr (show 191 < c.toInt by omega) : (191 : Int32) < c), own_f4_49, if_neg (fun q => absurd (congrArg Int32.toInt q) (show ¬ c.toInt = 215 by omega) : ¬ c = (215 : Int32)), if_pos (Int32.toInt_inj.mp (show c.toInt = 247 by omega) : c = (247 : Int32)), own_f4_176, own_f4_181]
    try rfl
  by_cases g11 : c.toInt < 249
  · rw [own_F1, if_neg (fun q => absurd (Int32.lt_iff_toInt_lt.mp q) (show ¬ c.toInt < 128 by omega) : ¬ c < (128 : Int32)), if_neg (fun q => absurd (Int32.lt_iff_toInt_lt.mp q) (show ¬ c.toInt < 192 by omega) : ¬ c < (192 : Int32)), if_pos (Int32.lt_iff_toInt_lt.mpr (show 214 < c.toInt by omega) : (214 : Int32) < c), own_f1_37, if_neg (fun q => absurd (Int32.lt_iff_toInt_lt.mp q) (show ¬ c.toInt < 216 by omega) : ¬ c < (216 : Int32)), if_pos (Int32.lt_iff_toInt_lt.mpr (show 246 < c.toInt by omega) : (246 : Int32) < c), own_f1_51, if_neg (fun q => absurd (Int32.lt_iff_toInt_lt.mp q) (show ¬ c.toInt < 248 by omega) : ¬ c < (248 : Int32)), if_neg (fun q => absurd (Int32.lt_iff_toInt_lt.mp q) (show ¬ 767 < c.toInt by omega) : ¬ (767 : Int32) < c), own_f1_184, own_f1_189, own_F4, if_pos (Int32.lt_iff_toInt_lt.mpr (show 57 < c.toInt by omega) : (57 : Int32) < c), if_neg (fun q => absurd (Int32.lt_iff_toInt_lt.mp q) (show ¬ c.toInt < 59 by omega) : ¬ c < (59 : Int32)), if_pos (Int32.lt_iff_toInt_lt.mpr (show 64 < c.toInt by omega) : (64 : Int32) < c), own_f4_18, if_neg (fun q => absurd (Int32.lt_iff_toInt_lt.mp q) (show ¬ c.toInt < 91 by omega) : ¬ c < (91 : Int32)), if_pos (Int32.lt_iff_toInt_lt.mpr (show 94 < c.toInt by omega) : (94 : Int32) < c), own_f4_30, if_neg (fun q => absurd (congrArg Int32.toInt q) (show ¬ c.toInt = 96 by omega) : ¬ c = (96 : Int32)), if_neg (fun q => absurd (Int32.lt_iff_toInt_lt.mp q) (show ¬ c.toInt < 123 by omega) : ¬ c < (123 : Int32)), if_pos (Int32.lt_iff_toInt_lt.mpr (show 191 < c.toInt by omega) : (191 : Int32) < c), own_f4_49, if_neg (fun q => absurd (congrArg Int32.toInt q) (show ¬ c.toInt = 215 by omega) : ¬ c = (215 : Int32)), if_neg (fun q => absurd (congrArg Int32.toInt q) (show ¬ c.toInt = 247 by omega) : ¬ c = (247 : Int32)), if_pos (Int32.lt_iff_toInt_lt.mpr (show c.toInt < 768 by omega) : c < (768 : Int32)), own_f4_77, if_neg (fun q => absurd (congrArg Int32.toInt q) (show ¬ c.toInt = 894 by omega) : ¬ c = (894 : Int32)), if_pos (Int32.lt_iff_toInt_lt.mpr (show c.toInt < 8192 by omega) : c < (8192 : Int32)), own_f4_98, if_pos (Int32.lt_iff_toInt_lt.mpr (show c.toInt < 8206 by omega) : c < (8206 : Int32)), own_f4_112, if_pos (Int32.lt_iff_toInt_lt.mpr (show c.toInt < 8592 by omega) : c < (8592 : Int32)), own_f4_126, if_pos (Int32.lt_iff_toInt_lt.mpr (show c.toInt < 12272 by omega) : c < (12272 : Int32)), own_f4_140, if_pos (Int32.lt_iff_toInt_lt.mpr (show c.toInt < 55296 by omega) : c < (55296 : Int32)), own_f4_152, if_pos (Int32.lt_iff_toInt_lt.mpr (show c.toInt < 64976 by omega) : c < (64976 : Int32)), own_f4_164, if_neg (fun q => absurd (congrArg Int32.toInt q) (show ¬ c.toInt = 65534 by omega) : ¬ c = (65534 : Int32)), if_neg (fun q => absurd (congrArg Int32.toInt q) (show ¬ c.toInt = 65535 by omega) : ¬ c = (65535 : Int32)), own_f4_181]
    try rfl
  by_cases g12 : c.toInt < 767
  · rw [own_F1, if_neg (fun q => absurd (Int32.lt_iff_toInt_lt.mp q) (show ¬ c.toInt < 128 by omega) : ¬ c < (128 : Int32)), if_neg (fun q => absurd (Int32.lt_iff_toInt_lt.mp q) (show ¬ c.toInt < 192 by omega) : ¬ c < (192 : Int32)), if_pos (Int32.lt_iff_toInt_lt.mpr (show 214 < c.toInt by omega) : (214 : Int32) < c), own_f1_37, if_neg (fun q => absurd (Int32.lt_iff_toInt_lt.mp q) (show ¬ c.toInt < 216 by omega) : ¬ c < (216 : Int32)), if_pos (Int32.lt_iff_toInt_lt.mpr (show 246 < c.toInt by omega) : (246 : Int32) < c), own_f1_51, if_neg (fun q => absurd (Int32.lt_iff_toInt_lt.mp q) (show ¬ c.toInt < 248 by omega) : ¬ c < (248 : Int32)), if_neg (fun q => absurd (Int32.lt_iff_toInt_lt.mp q) (show ¬ 767 < c.toInt by omega) : ¬ (767 : Int32) < c), own_f1_184, own_f1_189, own_F4, if_pos (Int32.lt_iff_toInt_lt.mpr (show 57 < c.toInt by omega) : (57 : Int32) < c), if_neg (fun q => absurd (Int32.lt_iff_toInt_lt.mp q) (show ¬ c.toInt < 59 by omega) : ¬ c < (59 : Int32)), if_pos (Int32.lt_iff_toInt_lt.mpr (show 64 < c.toInt by omega) : (64 : Int32) < c), own_f4_18, if_neg (fun q => absurd (Int32.lt_iff_toInt_lt.mp q) (show ¬ c.toInt < 91 by omega) : ¬ c < (91 : Int32)), if_pos (Int32.lt_iff_toInt_lt.mpr (show 94 < c.toInt by omega) : (94 : Int32) < c), own_f4_30, if_neg (fun q => absurd (congrArg Int32.toInt q) (show ¬ c.toInt = 96 by omega) : ¬ c = (96 : Int32)), if_neg (fun q => absurd (Int32.lt_iff_toInt_lt.mp q) (show ¬ c.toInt < 123 by omega) : ¬ c < (123 : Int32)), if_pos (Int32.lt_iff_toInt_lt.mpr (show 191 < c.toInt by omega) : (191 : Int32) < c), own_f4_49, if_neg (fun q => absurd (congrArg Int32.toInt q) (show ¬ c.toInt = 215 by omega) : ¬ c = (215 : Int32)), if_neg (fun q => absurd (congrArg Int32.toInt q) (show ¬ c.toInt = 247 by omega) : ¬ c = (247 : Int32)), if_pos (Int32.lt_iff_toInt_lt.mpr (show c.toInt < 768 by omega) : c < (768 : Int32)), own_f4_77, if_neg (fun q => absurd (congrArg Int32.toInt q) (show ¬ c.toInt = 894 by omega) : ¬ c = (894 : Int32)), if_pos (Int32.lt_iff_toInt_lt.mpr (show c.toInt < 8192 by omega) : c < (8192 : Int32)), own_f4_98, if_pos (Int32.lt_iff_toInt_lt.mpr (show c.toInt < 8206 by omega) : c < (8206 : Int32)), own_f4_112, if_pos (Int32.lt_iff_toInt_lt.mpr (show c.toInt < 8592 by omega) : c < (8592 : Int32)), own_f4_126, if_pos (Int32.lt_iff_toInt_lt.mpr (show c.toInt < 12272 by omega) : c < (12272 : Int32)), own_f4_140, if_pos (Int32.lt_iff_toInt_lt.mpr (show c.toInt < 55296 by omega) : c < (55296 : Int32)), own_f4_152, if_pos (Int32.lt_iff_toInt_lt.mpr (show c.toInt < 64976 by omega) : c < (64976 : Int32)), own_f4_164, if_neg (fun q => absurd (congrArg Int32.toInt q) (show ¬ c.toInt = 65534 by omega) : ¬ c = (65534 : Int32)), if_neg (fun q => absurd (congrArg Int32.toInt q) (show ¬ c.toInt = 65535 by omega) : ¬ c = (65535 : Int32)), own_f4_181]
    try rfl
  by_cases g13 : c.toInt < 768
  · rw [own_F1, if_neg (fun q => absurd (Int32.lt_iff_toInt_lt.mp q) (show ¬ c.toInt < 128 by omega) : ¬ c < (128 : Int32)), if_neg (fun q => absurd (Int32.lt_iff_toInt_lt.mp q) (show ¬ c.toInt < 192 by omega) : ¬ c < (192 : Int32)), if_pos (Int32.lt_iff_toInt_lt.mpr (show 214 < c.toInt by omega) : (214 : Int32) < c), own_f1_37, if_neg (fun q => absurd (Int32.lt_iff_toInt_lt.mp q) (show ¬ c.toInt < 216 by omega) : ¬ c < (216 : Int32)), if_pos (Int32.lt_iff_toInt_lt.mpr (show 246 < c.toInt by omega) : (246 : Int32) < c), own_f1_51, if_neg (fun q => absurd (Int32.lt_iff_toInt_lt.mp q) (show ¬ c.toInt < 248 by omega) : ¬ c < (248 : Int32)), if_neg (fun q => absurd (Int32.lt_iff_toInt_lt.mp q) (show ¬ 767 < c.toInt by omega) : ¬ (767 : Int32) < c), own_f1_184, own_f1_189, own_F4, if_pos (Int32.lt_iff_toInt_lt.mpr (show 57 < c.toInt by omega) : (57 : Int32) < c), if_neg (fun q => absurd (Int32.lt_iff_toInt_lt.mp q) (show ¬ c.toInt < 59 by omega) : ¬ c < (59 : Int32)), if_pos (Int32.lt_iff_toInt_lt.mpr (show 64 < c.toInt by omega) : (64 : Int32) < c), own_f4_18, if_neg (fun q => absurd (Int32.lt_iff_toInt_lt.mp q) (show ¬ c.toInt < 91 by omega) : ¬ c < (91 : Int32)), if_pos (Int32.lt_iff_toInt_lt.mpr (show 94 < c.toInt by omega) : (94 : Int32) < c), own_f4_30, if_neg (fun q => absurd (congrArg Int32.toInt q) (show ¬ c.toInt = 96 by omega) : ¬ c = (96 : Int32)), if_neg (fun q => absurd (Int32.lt_iff_toInt_lt.mp q) (show ¬ c.toInt < 123 by omega) : ¬ c < (123 : Int32)), if_pos (Int32.lt_iff_toInt_lt.mpr (show 191 < c.toInt by omega) : (191 : Int32) < c), own_f4_49, if_neg (fun q => absurd (congrArg Int32.toInt q) (show ¬ c.toInt = 215 by omega) : ¬ c = (215 : Int32)), if_neg (fun q => absurd (congrArg Int32.toInt q) (show ¬ c.toInt = 247 by omega) : ¬ c = (247 : Int32)), if_pos (Int32.lt_iff_toInt_lt.mpr (show c.toInt < 768 by omega) : c < (768 : Int32)), own_f4_77, if_neg (fun q => absurd (congrArg Int32.toInt q) (show ¬ c.toInt = 894 by omega) : ¬ c = (894 : Int32)), if_pos (Int32.lt_iff_toInt_lt.mpr (show c.toInt < 8192 by omega) : c < (8192 : Int32)), own_f4_98, if_pos (Int32.lt_iff_toInt_lt.mpr (show c.toInt < 8206 by omega) : c < (8206 : Int32)), own_f4_112, if_pos (Int32.lt_iff_toInt_lt.mpr (show c.toInt < 8592 by omega) : c < (8592 : Int32)), own_f4_126, if_pos (Int32.lt_iff_toInt_lt.mpr (show c.toInt < 12272 by omega) : c < (12272 : Int32)), own_f4_140, if_pos (Int32.lt_iff_toInt_lt.mpr (show c.toInt < 55296 by omega) : c < (55296 : Int32)), own_f4_152, if_pos (Int32.lt_iff_toInt_lt.mpr (show c.toInt < 64976 by omega) : c < (64976 : Int32)), own_f4_164, if_neg (fun q => absurd (congrArg Int32.toInt q) (show ¬ c.toInt = 65534 by omega) : ¬ c = (65534 : Int32)), if_neg (fun q => absurd (congrArg Int32.toInt q) (show ¬ c.toInt = 65535 by omega) : ¬ c = (65535 : Int32)), own_f4_181]
    try rfl
  by_cases g14 : c.toInt < 769
  · rw [own_F1, if_neg (fun q => absurd (Int32.lt_iff_toInt_lt.mp q) (show ¬ c.toInt < 128 by omega) : ¬ c < (128 : Int32)), if_neg (fun q => absurd (Int32.lt_iff_toInt_lt.mp q) (show ¬ c.toInt < 192 by omega) : ¬ c < (192 : Int32)), if_pos (Int32.lt_iff_toInt_lt.mpr (show 214 < c.toInt by omega) : (214 : Int32) < c), own_f1_37, if_neg (fun q => absurd (Int32.lt_iff_toInt_lt.mp q) (show ¬ c.toInt < 216 by omega) : ¬ c < (216 : Int32)), if_pos (Int32.lt_iff_toInt_lt.mpr (show 246 < c.toInt by omega) : (246 : Int32) < c), own_f1_51, if_neg (fun q => absurd (Int32.lt_iff_toInt_lt.mp q) (show ¬ c.toInt < 248 by omega) : ¬ c < (248 : Int32)), if_pos (Int32.lt_iff_toInt_lt.mpr (show 767 < c.toInt by omega) : (767 : Int32) < c), own_f1_65, if_pos (Int32.lt_iff_toInt_lt.mpr (show c.toInt < 880 by omega) : c < (880 : Int32)), own_f1_79, if_pos (Int32.lt_iff_toInt_lt.mpr (show c.toInt < 895 by omega) : c < (895 : Int32)), own_f1_93, if_neg (fun q => absurd (congrArg Int32.toInt q) (show ¬ c.toInt = 8204 by omega) : ¬ c = (8204 : Int32)), if_neg (fun q => absurd (congrArg Int32.toInt q) (show ¬ c.toInt = 8205 by omega) : ¬ c = (8205 : Int32)), if_pos (Int32.lt_iff_toInt_lt.mpr (show c.toInt < 8304 by omega) : c < (8304 : Int32)), own_f1_121, if_pos (Int32.lt_iff_toInt_lt.mpr (show c.toInt < 11264 by omega) : c < (11264 : Int32)), own_f1_135, if_pos (Int32.lt_iff_toInt_lt.mpr (show c.toInt < 12289 by omega) : c < (12289 : Int32)), own_f1_148, if_pos (Int32.lt_iff_toInt_lt.mpr (show c.toInt < 63744 by omega) : c < (63744 : Int32)), own_f1_160, if_pos (Int32.lt_iff_toInt_lt.mpr (show c.toInt < 65008 by omega) : c < (65008 : Int32)), own_f1_172, if_pos (Int32.lt_iff_toInt_lt.mpr (show c.toInt < 65536 by omega) : c < (65536 : Int32)), own_f1_188, own_f1_189, own_F4, if_pos (Int32.lt_iff_toInt_lt.mpr (show 57 < c.toInt by omega) : (57 : Int32) < c), if_neg (fun q => absurd (Int32.lt_iff_toInt_lt.mp q) (show ¬ c.toInt < 59 by omega) : ¬ c < (59 : Int32)), if_pos (Int32.lt_iff_toInt_lt.mpr (show 64 < c.toInt by omega) : (64 : Int32) < c), own_f4_18, if_neg (fun q => absurd (Int32.lt_iff_toInt_lt.mp q) (show ¬ c.toInt < 91 by omega) : ¬ c < (91 : Int32)), if_pos (Int32.lt_iff_toInt_lt.mpr (show 94 < c.toInt by omega) : (94 : Int32) < c), own_f4_30, if_neg (fun q => absurd (congrArg Int32.toInt q) (show ¬ c.toInt = 96 by omega) : ¬ c = (96 : Int32)), if_neg (fun q => absurd (Int32.lt_iff_toInt_lt.mp q) (show ¬ c.toInt < 123 by omega) : ¬ c < (123 : Int32)), if_pos (Int32.lt_iff_toInt_lt.mpr (show 191 < c.toInt by omega) : (191 : Int32) < c), own_f4_49, if_neg (fun q => absurd (congrArg Int32.toInt q) (show ¬ c.toInt = 215 by omega) : ¬ c = (215 : Int32)), if_neg (fun q => absurd (congrArg Int32.toInt q) (show ¬ c.toInt = 247 by omega) : ¬ c = (247 : Int32)), if_neg (fun q => absurd (Int32.lt_iff_toInt_lt.mp q) (show ¬ c.toInt < 768 by omega) : ¬ c < (768 : Int32)), if_neg (fun q => absurd (Int32.lt_iff_toInt_lt.mp q) (show ¬ 879 < c.toInt by omega) : ¬ (879 : Int32) < c), own_f4_176, own_f4_181]
    try rfl
  by_cases g15 : c.toInt < 879
  · rw [own_F1, if_neg (fun q => absurd (Int32.lt_iff_toInt_lt.mp q) (show ¬ c.toInt < 128 by omega) : ¬ c < (128 : Int32)), if_neg (fun q => absurd (Int32.lt_iff_toInt_lt.mp q) (show ¬ c.toInt < 192 by omega) : ¬ c < (192 : Int32)), if_pos (Int32.lt_iff_toInt_lt.mpr (show 214 < c.toInt by omega) : (214 : Int32) < c), own_f1_37, if_neg (fun q => absurd (Int32.lt_iff_toInt_lt.mp q) (show ¬ c.toInt < 216 by omega) : ¬ c < (216 : Int32)), if_pos (Int32.lt_iff_toInt_lt.mpr (show 246 < c.toInt by omega) : (246 : Int32) < c), own_f1_51, if_neg (fun q => absurd (Int32.lt_iff_toInt_lt.mp q) (show ¬ c.toInt < 248 by omega) : ¬ c < (248 : Int32)), if_pos (Int32.lt_iff_toInt_lt.mpr (show 767 < c.toInt by omega) : (767 : Int32) < c), own_f1_65, if_pos (Int32.lt_iff_toInt_lt.mpr (show c.toInt < 880 by omega) : c < (880 : Int32)), own_f1_79, if_pos (Int32.lt_iff_toInt_lt.mpr (show c.toInt < 895 by omega) : c < (895 : Int32)), own_f1_93, if_neg (fun q => absurd (congrArg Int32.toInt q) (show ¬ c.toInt = 8204 by omega) : ¬ c = (8204 : Int32)), if_neg (fun q => absurd (congrArg Int32.toInt q) (show ¬ c.toInt = 8205 by omega) : ¬ c = (8205 : Int32)), if_pos (Int32.lt_iff_toInt_lt.mpr (show c.toInt < 8304 by omega) : c < (8304 : Int32)), own_f1_121, if_pos (Int32.lt_iff_toInt_lt.mpr (show c.toInt < 11264 by omega) : c < (11264 : Int32)), own_f1_135, if_pos (Int32.lt_iff_toInt_lt.mpr (show c.toInt < 12289 by omega) : c < (12289 : Int32)), own_f1_148, if_pos (Int32.lt_iff_toInt_lt.mpr (show c.toInt < 63744 by omega) : c < (63744 : Int32)), own_f1_160, if_pos (Int32.lt_iff_toInt_lt.mpr (show c.toInt < 65008 by omega) : c < (65008 : Int32)), own_f1_172, if_pos (Int32.lt_iff_toInt_lt.mpr (show c.toInt < 65536 by omega) : c < (65536 : Int32)), own_f1_188, own_f1_189, own_F4, if_pos (Int32.lt_iff_toInt_lt.mpr (show 57 < c.toInt by omega) : (57 : Int32) < c), if_neg (fun q => absurd (Int32.lt_iff_toInt_lt.mp q) (show ¬ c.toInt < 59 by omega) : ¬ c < (59 : Int32)), if_pos (Int32.lt_iff_toInt_lt.mpr (show 64 < c.toInt by omega) : (64 : Int32) < c), own_f4_18, if_neg (fun q => absurd (Int32.lt_iff_toInt_lt.mp q) (show ¬ c.toInt < 91 by omega) : ¬ c < (91 : Int32)), if_pos (Int32.lt_iff_toInt_lt.mpr (show 94 < c.toInt by omega) : (94 : Int32) < c), own_f4_30, if_neg (fun q => absurd (congrArg Int32.toInt q) (show ¬ c.toInt = 96 by omega) : ¬ c = (96 : Int32)), if_neg (fun q => absurd (Int32.lt_iff_toInt_lt.mp q) (show ¬ c.toInt < 123 by omega) : ¬ c < (123 : Int32)), if_pos (Int32.lt_iff_toInt_lt.mpr (show 191 < c.toInt by omega) : (191 : Int32) < c), own_f4_49, if_neg (fun q => absurd (congrArg Int32.toInt q) (show ¬ c.toInt = 215 by omega) : ¬ c = (215 : Int32)), if_neg (fun q => absurd (congrArg Int32.toInt q) (show ¬ c.toInt = 247 by omega) : ¬ c = (247 : Int32)), if_neg (fun q => absurd (Int32.lt_iff_toInt_lt.mp q) (show ¬ c.toInt < 768 by omega) : ¬ c < (768 : Int32)), if_neg (fun q => absurd (Int32.lt_iff_toInt_lt.mp q) (show ¬ 879 < c.toInt by omega) : ¬ (879 : Int32) < c), own_f4_176, own_f4_181]
    try rfl
  by_cases g16 : c.toInt < 880
  · rw [own_F1, if_neg (fun q => absurd (Int32.lt_iff_toInt_lt.mp q) (show ¬ c.toInt < 128 by omega) : ¬ c < (128 : Int32)), if_neg (fun q => absurd (Int32.lt_iff_toInt_lt.mp q) (show ¬ c.toInt < 192 by omega) : ¬ c < (192 : Int32)), if_pos (Int32.lt_iff_toInt_lt.mpr (show 214 < c.toInt by omega) : (214 : Int32) < c), own_f1_37, if_neg (fun q => absurd (Int32.lt_iff_toInt_lt.mp q) (show ¬ c.toInt < 216 by omega) : ¬ c < (216 : Int32)), if_pos (Int32.lt_iff_toInt_lt.mpr (show 246 < c.toInt by omega) : (246 : Int32) < c), own_f1_51, if_neg (fun q => absurd (Int32.lt_iff_toInt_lt.mp q) (show ¬ c.toInt < 248 by omega) : ¬ c < (248 : Int32)), if_pos (Int32.lt_iff_toInt_lt.mpr (show 767 < c.toInt by omega) : (767 : Int32) < c), own_f1_65, if_pos (Int32.lt_iff_toInt_lt.mpr (show c.toInt < 880 by omega) : c < (880 : Int32)), own_f1_79, if_pos (Int32.lt_iff_toInt_lt.mpr (show c.toInt < 895 by omega) : c < (895 : Int32)), own_f1_93, if_neg (fun q => absurd (congrArg Int32.toInt q) (show ¬ c.toInt = 8204 by omega) : ¬ c = (8204 : Int32)), if_neg (fun q => absurd (congrArg Int32.toInt q) (show ¬ c.toInt = 8205 by omega) : ¬ c = (8205 : Int32)), if_pos (Int32.lt_iff_toInt_lt.mpr (show c.toInt < 8304 by omega) : c < (8304 : Int32)), own_f1_121, if_pos (Int32.lt_iff_toInt_lt.mpr (show c.toInt < 11264 by omega) : c < (11264 : Int32)), own_f1_135, if_pos (Int32.lt_iff_toInt_lt.mpr (show c.toInt < 12289 by omega) : c < (12289 : Int32)), own_f1_148, if_pos (Int32.lt_iff_toInt_lt.mpr (show c.toInt < 63744 by omega) : c < (63744 : Int32)), own_f1_160, if_pos (Int32.lt_iff_toInt_lt.mpr (show c.toInt < 65008 by omega) : c < (65008 : Int32)), own_f1_172, if_pos (Int32.lt_iff_toInt_lt.mpr (show c.toInt < 65536 by omega) : c < (65536 : Int32)), own_f1_188, own_f1_189, own_F4, if_pos (Int32.lt_iff_toInt_lt.mpr (show 57 < c.toInt by omega) : (57 : Int32) < c), if_neg (fun q => absurd (Int32.lt_iff_toInt_lt.mp q) (show ¬ c.toInt < 59 by omega) : ¬ c < (59 : Int32)), if_pos (Int32.lt_iff_toInt_lt.mpr (show 64 < c.toInt by omega) : (64 : Int32) < c), own_f4_18, if_neg (fun q => absurd (Int32.lt_iff_toInt_lt.mp q) (show ¬ c.toInt < 91 by omega) : ¬ c < (91 : Int32)), if_pos (Int32.lt_iff_toInt_lt.mpr (show 94 < c.toInt by omega) : (94 : Int32) < c), own_f4_30, if_neg (fun q => absurd (congrArg Int32.toInt q) (show ¬ c.toInt = 96 by omega) : ¬ c = (96 : Int32)), if_neg (fun q => absurd (Int32.lt_iff_toInt_lt.mp q) (show ¬ c.toInt < 123 by omega) : ¬ c < (123 : Int32)), if_pos (Int32.lt_iff_toInt_lt.mpr (show 191 < c.toInt by omega) : (191 : Int32) < c), own_f4_49, if_neg (fun q => absurd (congrArg Int32.toInt q) (show ¬ c.toInt = 215 by omega) : ¬ c = (215 : Int32)), if_neg (fun q => absurd (congrArg Int32.toInt q) (show ¬ c.toInt = 247 by omega) : ¬ c = (247 : Int32)), if_neg (fun q => absurd (Int32.lt_iff_toInt_lt.mp q) (show ¬ c.toInt < 768 by omega) : ¬ c < (768 : Int32)), if_neg (fun q => absurd (Int32.lt_iff_toInt_lt.mp q) (show ¬ 879 < c.toInt by omega) : ¬ (879 : Int32) < c), own_f4_176, own_f4_181]
    try rfl
  by_cases g17 : c.toInt < 881
  · rw [own_F1, if_neg (fun q => absurd (Int32.lt_iff_toInt_lt.mp q) (show ¬ c.toInt < 128 by omega) : ¬ c < (128 : Int32)), if_neg (fun q => absurd (Int32.lt_iff_toInt_lt.mp q) (show ¬ c.toInt < 192 by omega) : ¬ c < (192 : Int32)), if_pos (Int32.lt_iff_toInt_lt.mpr (show 214 < c.toInt by omega) : (214 : Int32) < c), own_f1_37, if_neg (fun q => absurd (Int32.lt_iff_toInt_lt.mp q) (show ¬ c.toInt < 216 by omega) : ¬ c < (216 : Int32)), if_pos (Int32.lt_iff_toInt_lt.mpr (show 246 < c.toInt by omega) : (246 : Int32) < c), own_f1_51, if_neg (fun q => absurd (Int32.lt_iff_toInt_lt.mp q) (show ¬ c.toInt < 248 by omega) : ¬ c < (248 : Int32)), if_pos (Int32.lt_iff_toInt_lt.mpr (show 767 < c.toInt by omega) : (767 : Int32) < c), own_f1_65, if_neg (fun q => absurd (Int32.lt_iff_toInt_lt.mp q) (show ¬ c.toInt < 880 by omega) : ¬ c < (880 : Int32)), if_neg (fun q => absurd (Int32.lt_iff_toInt_lt.mp q) (show ¬ 893 < c.toInt by omega) : ¬ (893 : Int32) < c), own_f1_184, own_f1_189, own_F4, if_pos (Int32.lt_iff_toInt_lt.mpr (show 57 < c.toInt by omega) : (57 : Int32) < c), if_neg (fun q => absurd (Int32.lt_iff_toInt_lt.mp q) (show ¬ c.toInt < 59 by omega) : ¬ c < (59 : Int32)), if_pos (Int32.lt_iff_toInt_lt.mpr (show 64 < c.toInt by omega) : (64 : Int32) < c), own_f4_18, if_neg (fun q => absurd (Int32.lt_iff_toInt_lt.mp q) (show ¬ c.toInt < 91 by omega) : ¬ c < (91 : Int32)), if_pos (Int32.lt_iff_toInt_lt.mpr (show 94 < c.toInt by omega) : (94 : Int32) < c), own_f4_30, if_neg (fun q => absurd (congrArg Int32.toInt q) (show ¬ c.toInt = 96 by omega) : ¬ c = (96 : Int32)), if_neg (fun q => absurd (Int32.lt_iff_toInt_lt.mp q) (show ¬ c.toInt < 123 by omega) : ¬ c < (123 : Int32)), if_pos (Int32.lt_iff_toInt_lt.mpr (show 191 < c.toInt by omega) : (191 : Int32) < c), own_f4_49, if_neg (fun q => absurd (congrArg Int32.toInt q) (show ¬ c.toInt = 215 by omega) : ¬ c = (215 : Int32)), if_neg (fun q => absurd (congrArg Int32.toInt q) (show ¬ c.toInt = 247 by omega) : ¬ c = (247 : Int32)), if_neg (fun q => absurd (Int32.lt_iff_toInt_lt.mp q) (show ¬ c.toInt < 768 by omega) : ¬ c < (768 : Int32)), if_pos (Int32.lt_iff_toInt_lt.mpr (show 879 < c.toInt by omega) : (879 : Int32) < c), own_f4_77, if_neg (fun q => absurd (congrArg Int32.toInt q) (show ¬ c.toInt = 894 by omega) : ¬ c = (894 : Int32)), if_pos (Int32.lt_iff_toInt_lt.mpr (show c.toInt < 8192 by omega) : c < (8192 : Int32)), own_f4_98, if_pos (Int32.lt_iff_toInt_lt.mpr (show c.toInt < 8206 by omega) : c < (8206 : Int32)), own_f4_112, if_pos (Int32.lt_iff_toInt_lt.mpr (show c.toInt < 8592 by omega) : c < (8592 : Int32)), own_f4_126, if_pos (Int32.lt_iff_toInt_lt.mpr (show c.toInt < 12272 by omega) : c < (12272 : Int32)), own_f4_140, if_pos (Int32.lt_iff_toInt_lt.mpr (show c.toInt < 55296 by omega) : c < (55296 : Int32)), own_f4_152, if_pos (Int32.lt_iff_toInt_lt.mpr (show c.toInt < 64976 by omega) : c < (64976 : Int32)), own_f4_164, if_neg (fun q => absurd (congrArg Int32.toInt q) (show ¬ c.toInt = 65534 by omega) : ¬ c = (65534 : Int32)), if_neg (fun q => absurd (congrArg Int32.toInt q) (show ¬ c.toInt = 65535 by omega) : ¬ c = (65535 : Int32)), own_f4_181]
    try rfl
  by_cases g18 : c.toInt < 893
  · rw [own_F1, if_neg (fun q => absurd (Int32.lt_iff_toInt_lt.mp q) (show ¬ c.toInt < 128 by omega) : ¬ c < (128 : Int32)), if_neg (fun q => absurd (Int32.lt_iff_toInt_lt.mp q) (show ¬ c.toInt < 192 by omega) : ¬ c < (192 : Int32)), if_pos (Int32.lt_iff_toInt_lt.mpr (show 214 < c.toInt by omega) : (214 : Int32) < c), own_f1_37, if_neg (fun q => absurd (Int32.lt_iff_toInt_lt.mp q) (show ¬ c.toInt < 216 by omega) : ¬ c < (216 : Int32)), if_pos (Int32.lt_iff_toInt_lt.mpr (show 246 < c.toInt by omega) : (246 : Int32) < c), own_f1_51, if_neg (fun q => absurd (Int32.lt_iff_toInt_lt.mp q) (show ¬ c.toInt < 248 by omega) : ¬ c < (248 : Int32)), if_pos (Int32.lt_iff_toInt_lt.mpr (show 767 < c.toInt by omega) : (767 : Int32) < c), own_f1_65, if_neg (fun q => absurd (Int32.lt_iff_toInt_lt.mp q) (show ¬ c.toInt < 880 by omega) : ¬ c < (880 : Int32)), if_neg (fun q => absurd (Int32.lt_iff_toInt_lt.mp q) (show ¬ 893 < c.toInt by omega) : ¬ (893 : Int32) < c), own_f1_184, own_f1_189, own_F4, if_pos (Int32.lt_iff_toInt_lt.mpr (show 57 < c.toInt by omega) : (57 : Int32) < c), if_neg (fun q => absurd (Int32.lt_iff_toInt_lt.mp q) (show ¬ c.toInt < 59 by omega) : ¬ c < (59 : Int32)), if_pos (Int32.lt_iff_toInt_lt.mpr (show 64 < c.toInt by omega) : (64 : Int32) < c), own_f4_18, if_neg (fun q => absurd (Int32.lt_iff_toInt_lt.mp q) (show ¬ c.toInt < 91 by omega) : ¬ c < (91 : Int32)), if_pos (Int32.lt_iff_toInt_lt.mpr (show 94 < c.toInt by omega) : (94 : Int32) < c), own_f4_30, if_neg (fun q => absurd (congrArg Int32.toInt q) (show ¬ c.toInt = 96 by omega) : ¬ c = (96 : Int32)), if_neg (fun q => absurd (Int32.lt_iff_toInt_lt.mp q) (show ¬ c.toInt < 123 by omega) : ¬ c < (123 : Int32)), if_pos (Int32.lt_iff_toInt_lt.mpr (show 191 < c.toInt by omega) : (191 : Int32) < c), own_f4_49, if_neg (fun q => absurd (congrArg Int32.toInt q) (show ¬ c.toInt = 215 by omega) : ¬ c = (215 : Int32)), if_neg (fun q => absurd (congrArg Int32.toInt q) (show ¬ c.toInt = 247 by omega) : ¬ c = (247 : Int32)), if_neg (fun q => absurd (Int32.lt_iff_toInt_lt.mp q) (show ¬ c.toInt < 768 by omega) : ¬ c < (768 : Int32)), if_pos (Int32.lt_iff_toInt_lt.mpr (show 879 < c.toInt by omega) : (879 : Int32) < c), own_f4_77, if_neg (fun q => absurd (congrArg Int32.toInt q) (show ¬ c.toInt = 894 by omega) : ¬ c = (894 : Int32)), if_pos (Int32.lt_iff_toInt_lt.mpr (show c.toInt < 8192 by omega) : c < (8192 : Int32)), own_f4_98, if_pos (Int32.lt_iff_toInt_lt.mpr (show c.toInt < 8206 by omega) : c < (8206 : Int32)), own_f4_112, if_pos (Int32.lt_iff_toInt_lt.mpr (show c.toInt < 8592 by omega) : c < (8592 : Int32)), own_f4_126, if_pos (Int32.lt_iff_toInt_lt.mpr (show c.toInt < 12272 by omega) : c < (12272 : Int32)), own_f4_140, if_pos (Int32.lt_iff_toInt_lt.mpr (show c.toInt < 55296 by omega) : c < (55296 : Int32)), own_f4_152, if_pos (Int32.lt_iff_toInt_lt.mpr (show c.toInt < 64976 by omega) : c < (64976 : Int32)), own_f4_164, if_neg (fun q => absurd (congrArg Int32.toInt q) (show ¬ c.toInt = 65534 by omega) : ¬ c = (65534 : Int32)), if_neg (fun q => absurd (congrArg Int32.toInt q) (show ¬ c.toInt = 65535 by omega) : ¬ c = (65535 : Int32)), own_f4_181]
    try rfl
  by_cases g19 : c.toInt < 894
  · rw [own_F1, if_neg (fun q => absurd (Int32.lt_iff_toInt_lt.mp q) (show ¬ c.toInt < 128 by omega) : ¬ c < (128 : Int32)), if_neg (fun q => absurd (Int32.lt_iff_toInt_lt.mp q) (show ¬ c.toInt < 192 by omega) : ¬ c < (192 : Int32)), if_pos (Int32.lt_iff_toInt_lt.mpr (show 214 < c.toInt by omega) : (214 : Int32) < c), own_f1_37, if_neg (fun q => absurd (Int32.lt_iff_toInt_lt.mp q) (show ¬ c.toInt < 216 by omega) : ¬ c < (216 : Int32)), if_pos (Int32.lt_iff_toInt_lt.mpr (show 246 < c.toInt by omega) : (246 : Int32) < c), own_f1_51, if_neg (fun q => absurd (Int32.lt_iff_toInt_lt.mp q) (show ¬ c.toInt < 248 by omega) : ¬ c < (248 : Int32)), if_pos (Int32.lt_iff_toInt_lt.mpr (show 767 < c.toInt by omega) : (767 : Int32) < c), own_f1_65, if_neg (fun q => absurd (Int32.lt_iff_toInt_lt.mp q) (show ¬ c.toInt < 880 by omega) : ¬ c < (880 : Int32)), if_neg (fun q => absurd (Int32.lt_iff_toInt_lt.mp q) (show ¬ 893 < c.toInt by omega) : ¬ (893 : Int32) < c), own_f1_184, own_f1_189, own_F4, if_pos (Int32.lt_iff_toInt_lt.mpr (show 57 < c.toInt by omega) : (57 : Int32) < c), if_neg (fun q => absurd (Int32.lt_iff_toInt_lt.mp q) (show ¬ c.toInt < 59 by omega) : ¬ c < (59 : Int32)), if_pos (Int32.lt_iff_toInt_lt.mpr (show 64 < c.toInt by omega) : (64 : Int32) < c), own_f4_18, if_neg (fun q => absurd (Int32.lt_iff_toInt_lt.mp q) (show ¬ c.toInt < 91 by omega) : ¬ c < (91 : Int32)), if_pos (Int32.lt_iff_toInt_lt.mpr (show 94 < c.toInt by omega) : (94 : Int32) < c), own_f4_30, if_neg (fun q => absurd (congrArg Int32.toInt q) (show ¬ c.toInt = 96 by omega) : ¬ c = (96 : Int32)), if_neg (fun q => absurd (Int32.lt_iff_toInt_lt.mp q) (show ¬ c.toInt < 123 by omega) : ¬ c < (123 : Int32)), if_pos (Int32.lt_iff_toInt_lt.mpr (show 191 < c.toInt by omega) : (191 : Int32) < c), own_f4_49, if_neg (fun q => absurd (congrArg Int32.toInt q) (show ¬ c.toInt = 215 by omega) : ¬ c = (215 : Int32)), if_neg (fun q => absurd (congrArg Int32.toInt q) (show ¬ c.toInt = 247 by omega) : ¬ c = (247 : Int32)), if_neg (fun q => absurd (Int32.lt_iff_toInt_lt.mp q) (show ¬ c.toInt < 768 by omega) : ¬ c < (768 : Int32)), if_pos (Int32.lt_iff_toInt_lt.mpr (show 879 < c.toInt by omega) : (879 : Int32) < c), own_f4_77, if_neg (fun q => absurd (congrArg Int32.toInt q) (show ¬ c.toInt = 894 by omega) : ¬ c = (894 : Int32)), if_pos (Int32.lt_iff_toInt_lt.mpr (show c.toInt < 8192 by omega) : c < (8192 : Int32)), own_f4_98, if_pos (Int32.lt_iff_toInt_lt.mpr (show c.toInt < 8206 by omega) : c < (8206 : Int32)), own_f4_112, if_pos (Int32.lt_iff_toInt_lt.mpr (show c.toInt < 8592 by omega) : c < (8592 : Int32)), own_f4_126, if_pos (Int32.lt_iff_toInt_lt.mpr (show c.toInt < 12272 by omega) : c < (12272 : Int32)), own_f4_140, if_pos (Int32.lt_iff_toInt_lt.mpr (show c.toInt < 55296 by omega) : c < (55296 : Int32)), own_f4_152, if_pos (Int32.lt_iff_toInt_lt.mpr (show c.toInt < 64976 by omega) : c < (64976 : Int32)), own_f4_164, if_neg (fun q => absurd (congrArg Int32.toInt q) (show ¬ c.toInt = 65534 by omega) : ¬ c = (65534 : Int32)), if_neg (fun q => absurd (congrArg Int32.toInt q) (show ¬ c.toInt = 65535 by omega) : ¬ c = (65535 : Int32)), own_f4_181]
    try rfl
  by_cases g20 : c.toInt < 895
  · rw [own_F1, if_neg (fun q => absurd (Int32.lt_iff_toInt_lt.mp q) (show ¬ c.toInt < 128 by omega) : ¬ c < (128 : Int32)), if_neg (fun q => absurd (Int32.lt_iff_toInt_lt.mp q) (show ¬ c.toInt < 192 by omega) : ¬ c < (192 : Int32)), if_pos (Int32.lt_iff_toInt_lt.mpr (show 214 < c.toInt by omega) : (214 : Int32) < c), own_f1_37, if_neg (fun q => absurd (Int32.lt_iff_toInt_lt.mp q) (show ¬ c.toInt < 216 by omega) : ¬ c < (216 : Int32)), if_pos (Int32.lt_iff_toInt_lt.mpr (show 246 < c.toInt by omega) : (246 : Int32) < c), own_f1_51, if_neg (fun q => absurd (Int32.lt_iff_toInt_lt.mp q) (show ¬ c.toInt < 248 by omega) : ¬ c < (248 : Int32)), if_pos (Int32.lt_iff_toInt_lt.mpr (show 767 < c.toInt by omega) : (767 : Int32) < c), own_f1_65, if_neg (fun q => absurd (Int32.lt_iff_toInt_lt.mp q) (show ¬ c.toInt < 880 by omega) : ¬ c < (880 : Int32)), if_pos (Int32.lt_iff_toInt_lt.mpr (show 893 < c.toInt by omega) : (893 : Int32) < c), own_f1_79, if_pos (Int32.lt_iff_toInt_lt.mpr (show c.toInt < 895 by omega) : c < (895 : Int32)), own_f1_93, if_neg (fun q => absurd (congrArg Int32.toInt q) (show ¬ c.toInt = 8204 by omega) : ¬ c = (8204 : Int32)), if_neg (fun q => absurd (congrArg Int32.toInt q) (show ¬ c.toInt = 8205 by omega) : ¬ c = (8205 : Int32)), if_pos (Int32.lt_iff_toInt_lt.mpr (show c.toInt < 8304 by omega) : c < (8304 : Int32)), own_f1_121, if_pos (Int32.lt_iff_toInt_lt.mpr (show c.toInt < 11264 by omega) : c < (11264 : Int32)), own_f1_135, if_pos (Int32.lt_iff_toInt_lt.mpr (show c.toInt < 12289 by omega) : c < (12289 : Int32)), own_f1_148, if_pos (Int32.lt_iff_toInt_lt.mpr (show c.toInt < 63744 by omega) : c < (63744 : Int32)), own_f1_160, if_pos (Int32.lt_iff_toInt_lt.mpr (show c.toInt < 65008 by omega) : c < (65008 : Int32)), own_f1_172, if_pos (Int32.lt_iff_toInt_lt.mpr (show c.toInt < 65536 by omega) : c < (65536 : Int32)), own_f1_188, own_f1_189, own_F4, if_pos (Int32.lt_iff_toInt_lt.mpr (show 57 < c.toInt by omega) : (57 : Int32) < c), if_neg (fun q => absurd (Int32.lt_iff_toInt_lt.mp q) (show ¬ c.toInt < 59 by omega) : ¬ c < (59 : Int32)), if_pos (Int32.lt_iff_toInt_lt.mpr (show 64 < c.toInt by omega) : (64 : Int32) < c), own_f4_18, if_neg (fun q => absurd (Int32.lt_iff_toInt_lt.mp q) (show ¬ c.toInt < 91 by omega) : ¬ c < (91 : Int32)), if_pos (Int32.lt_iff_toInt_lt.mpr (show 94 < c.toInt by omega) : (94 : Int32) < c), own_f4_30, if_neg (fun q => absurd (congrArg Int32.toInt q) (show ¬ c.toInt = 96 by omega) : ¬ c = (96 : Int32)), if_neg (fun q => absurd (Int32.lt_iff_toInt_lt.mp q) (show ¬ c.toInt < 123 by omega) : ¬ c < (123 : Int32)), if_pos (Int32.lt_iff_toInt_lt.mpr (show 191 < c.toInt by omega) : (191 : Int32) < c), own_f4_49, if_neg (fun q => absurd (congrArg Int32.toInt q) (show ¬ c.toInt = 215 by omega) : ¬ c = (215 : Int32)), if_neg (fun q => absurd (congrArg Int32.toInt q) (show ¬ c.toInt = 247 by omega) : ¬ c = (247 : Int32)), if_neg (fun q => absurd (Int32.lt_iff_toInt_lt.mp q) (show ¬ c.toInt < 768 by omega) : ¬ c < (768 : Int32)), if_pos (Int32.lt_iff_toInt_lt.mpr (show 879 < c.toInt by omega) : (879 : Int32) < c), own_f4_77, if_pos (Int32.toInt_inj.mp (show c.toInt = 894 by omega) : c = (894 : Int32)), own_f4_176, own_f4_181]
    try rfl
  by_cases g21 : c.toInt < 896
  · rw [own_F1, if_neg (fun q => absurd (Int32.lt_iff_toInt_lt.mp q) (show ¬ c.toInt < 128 by omega) : ¬ c < (128 : Int32)), if_neg (fun q => absurd (Int32.lt_iff_toInt_lt.mp q) (show ¬ c.toInt < 192 by omega) : ¬ c < (192 : Int32)), if_pos (Int32.lt_iff_toInt_lt.mpr (show 214 < c.toInt by omega) : (214 : Int32) < c), own_f1_37, if_neg (fun q => absurd (Int32.lt_iff_toInt_lt.mp q) (show ¬ c.toInt < 216 by omega) : ¬ c < (216 : Int32)), if_pos (Int32.lt_iff_toInt_lt.mpr (show 246 < c.toInt by omega) : (246 : Int32) < c), own_f1_51, if_neg (fun q => absurd (Int32.lt_iff_toInt_lt.mp q) (show ¬ c.toInt < 248 by omega) : ¬ c < (248 : Int32)), if_pos (Int32.lt_iff_toInt_lt.mpr (show 767 < c.toInt by omega) : (767 : Int32) < c), own_f1_65, if_neg (fun q => absurd (Int32.lt_iff_toInt_lt.mp q) (show ¬ c.toInt < 880 by omega) : ¬ c < (880 : Int32)), if_pos (Int32.lt_iff_toInt_lt.mpr (show 893 < c.toInt by omega) : (893 : Int32) < c), own_f1_79, if_neg (fun q => absurd (Int32.lt_iff_toInt_lt.mp q) (show ¬ c.toInt < 895 by omega) : ¬ c < (895 : Int32)), if_neg (fun q => absurd (Int32.lt_iff_toInt_lt.mp q) (show ¬ 8191 < c.toInt by omega) : ¬ (8191 : Int32) < c), own_f1_184, own_f1_189, own_F4, if_pos (Int32.lt_iff_toInt_lt.mpr (show 57 < c.toInt by omega) : (57 : Int32) < c), if_neg (fun q => absurd (Int32.lt_iff_toInt_lt.mp q) (show ¬ c.toInt < 59 by omega) : ¬ c < (59 : Int32)), if_pos (Int32.lt_iff_toInt_lt.mpr (show 64 < c.toInt by omega) : (64 : Int32) < c), own_f4_18, if_neg (fun q => absurd (Int32.lt_iff_toInt_lt.mp q) (show ¬ c.toInt < 91 by omega) : ¬ c < (91 : Int32)), if_pos (Int32.lt_iff_toInt_lt.mpr (show 94 < c.toInt by omega) : (94 : Int32) < c), own_f4_30, if_neg (fun q => absurd (congrArg Int32.toInt q) (show ¬ c.toInt = 96 by omega) : ¬ c = (96 : Int32)), if_neg (fun q => absurd (Int32.lt_iff_toInt_lt.mp q) (show ¬ c.toInt < 123 by omega) : ¬ c < (123 : Int32)), if_pos (Int32.lt_iff_toInt_lt.mpr (show 191 < c.toInt by omega) : (191 : Int32) < c), own_f4_49, if_neg (fun q => absurd (congrArg Int32.toInt q) (show ¬ c.toInt = 215 by omega) : ¬ c = (215 : Int32)), if_neg (fun q => absurd (congrArg Int32.toInt q) (show ¬ c.toInt = 247 by omega) : ¬ c = (247 : Int32)), if_neg (fun q => absurd (Int32.lt_iff_toInt_lt.mp q) (show ¬ c.toInt < 768 by omega) : ¬ c < (768 : Int32)), if_pos (Int32.lt_iff_toInt_lt.mpr (show 879 < c.toInt by omega) : (879 : Int32) < c), own_f4_77, if_neg (fun q => absurd (congrArg Int32.toInt q) (show ¬ c.toInt = 894 by omega) : ¬ c = (894 : Int32)), if_pos (Int32.lt_iff_toInt_lt.mpr (show c.toInt < 8192 by omega) : c < (8192 : Int32)), own_f4_98, if_pos (Int32.lt_iff_toInt_lt.mpr (show c.toInt < 8206 by omega) : c < (8206 : Int32)), own_f4_112, if_pos (Int32.lt_iff_toInt_lt.mpr (show c.toInt < 8592 by omega) : c < (8592 : Int32)), own_f4_126, if_pos (Int32.lt_iff_toInt_lt.mpr (show c.toInt < 12272 by omega) : c < (12272 : Int32)), own_f4_140, if_pos (Int32.lt_iff_toInt_lt.mpr (show c.toInt < 55296 by omega) : c < (55296 : Int32)), own_f4_152, if_pos (Int32.lt_iff_toInt_lt.mpr (show c.toInt < 64976 by omega) : c < (64976 : Int32)), own_f4_164, if_neg (fun q => absurd (congrArg Int32.toInt q) (show ¬ c.toInt = 65534 by omega) : ¬ c = (65534 : Int32)), if_neg (fun q => absurd (congrArg Int32.toInt q) (show ¬ c.toInt = 65535 by omega) : ¬ c = (65535 : Int32)), own_f4_181]
    try rfl
  by_cases g22 : c.toInt < 8191
  · rw [own_F1, if_neg (fun q => absurd (Int32.lt_iff_toInt_lt.mp q) (show ¬ c.toInt < 128 by omega) : ¬ c < (128 : Int32)), if_neg (fun q => absurd (Int32.lt_iff_toInt_lt.mp q) (show ¬ c.toInt < 192 by omega) : ¬ c < (192 : Int32)), if_pos (Int32.lt_iff_toInt_lt.mpr (show 214 < c.toInt by omega) : (214 : Int32) < c), own_f1_37, if_neg (fun q => absurd (Int32.lt_iff_toInt_lt.mp q) (show ¬ c.toInt < 216 by omega) : ¬ c < (216 : Int32)), if_pos (Int32.lt_iff_toInt_lt.mpr (show 246 < c.toInt by omega) : (246 : Int32) < c), own_f1_51, if_neg (fun q => absurd (Int32.lt_iff_toInt_lt.mp q) (show ¬ c.toInt < 248 by omega) : ¬ c < (248 : Int32)), if_pos (Int32.lt_iff_toInt_lt.mpr (show 767 < c.toInt by omega) : (767 : Int32) < c), own_f1_65, if_neg (fun q => absurd (Int32.lt_iff_toInt_lt.mp q) (show ¬ c.toInt < 880 by omega) : ¬ c < (880 : Int32)), if_pos (Int32.lt_iff_toInt_lt.mpr (show 893 < c.toInt by omega) : (893 : Int32) < c), own_f1_79, if_neg (fun q => absurd (Int32.lt_iff_toInt_lt.mp q) (show ¬ c.toInt < 895 by omega) : ¬ c < (895 : Int32)), if_neg (fun q => absurd (Int32.lt_iff_toInt_lt.mp q) (show ¬ 8191 < c.toInt by omega) : ¬ (8191 : Int32) < c), own_f1_184, own_f1_189, own_F4, if_pos (Int32.lt_iff_toInt_lt.mpr (show 57 < c.toInt by omega) : (57 : Int32) < c), if_neg (fun q => absurd (Int32.lt_iff_toInt_lt.mp q) (show ¬ c.toInt < 59 by omega) : ¬ c < (59 : Int32)), if_pos (Int32.lt_iff_toInt_lt.mpr (show 64 < c.toInt by omega) : (64 : Int32) < c), own_f4_18, if_neg (fun q => absurd (Int32.lt_iff_toInt_lt.mp q) (show ¬ c.toInt < 91 by omega) : ¬ c < (91 : Int32)), if_pos (Int32.lt_iff_toInt_lt.mpr (show 94 < c.toInt by omega) : (94 : Int32) < c), own_f4_30, if_neg (fun q => absurd (congrArg Int32.toInt q) (show ¬ c.toInt = 96 by omega) : ¬ c = (96 : Int32)), if_neg (fun q => absurd (Int32.lt_iff_toInt_lt.mp q) (show ¬ c.toInt < 123 by omega) : ¬ c < (123 : Int32)), if_pos (Int32.lt_iff_toInt_lt.mpr (show 191 < c.toInt by omega) : (191 : Int32) < c), own_f4_49, if_neg (fun q => absurd (congrArg Int32.toInt q) (show ¬ c.toInt = 215 by omega) : ¬ c = (215 : Int32)), if_neg (fun q => absurd (congrArg Int32.toInt q) (show ¬ c.toInt = 247 by omega) : ¬ c = (247 : Int32)), if_neg (fun q => absurd (Int32.lt_iff_toInt_lt.mp q) (show ¬ c.toInt < 768 by omega) : ¬ c < (768 : Int32)), if_pos (Int32.lt_iff_toInt_lt.mpr (show 879 < c.toInt by omega) : (879 : Int32) < c), own_f4_77, if_neg (fun q => absurd (congrArg Int32.toInt q) (show ¬ c.toInt = 894 by omega) : ¬ c = (894 : Int32)), if_pos (Int32.lt_iff_toInt_lt.mpr (show c.toInt < 8192 by omega) : c < (8192 : Int32)), own_f4_98, if_pos (Int32.lt_iff_toInt_lt.mpr (show c.toInt < 8206 by omega) : c < (8206 : Int32)), own_f4_112, if_pos (Int32.lt_iff_toInt_lt.mpr (show c.toInt < 8592 by omega) : c < (8592 : Int32)), own_f4_126, if_pos (Int32.lt_iff_toInt_lt.mpr (show c.toInt < 12272 by omega) : c < (12272 : Int32)), own_f4_140, if_pos (Int32.lt_iff_toInt_lt.mpr (show c.toInt < 55296 by omega) : c < (55296 : Int32)), own_f4_152, if_pos (Int32.lt_iff_toInt_lt.mpr (show c.toInt < 64976 by omega) : c < (64976 : Int32)), own_f4_164, if_neg (fun q => absurd (congrArg Int32.toInt q) (show ¬ c.toInt = 65534 by omega) : ¬ c = (65534 : Int32)), if_neg (fun q => absurd (congrArg Int32.toInt q) (show ¬ c.toInt = 65535 by omega) : ¬ c = (65535 : Int32)), own_f4_181]
    try rfl
  by_cases g23 : c.toInt < 8192
  · rw [own_F1, if_neg (fun q => absurd (Int32.lt_iff_toInt_lt.mp q) (show ¬ c.toInt < 128 by omega) : ¬ c < (128 : Int32)), if_neg (fun q => absurd (Int32.lt_iff_toInt_lt.mp q) (show ¬ c.toInt < 192 by omega) : ¬ c < (192 : Int32)), if_pos (Int32.lt_iff_toInt_lt.mpr (show 214 < c.toInt by omega) : (214 : Int32) < c), own_f1_37, if_neg (fun q => absurd (Int32.lt_iff_toInt_lt.mp q) (show ¬ c.toInt < 216 by omega) : ¬ c < (216 : Int32)), if_pos (Int32.lt_iff_toInt_lt.mpr (show 246 < c.toInt by omega) : (246 : Int32) < c), own_f1_51, if_neg (fun q => absurd (Int32.lt_iff_toInt_lt.mp q) (show ¬ c.toInt < 248 by omega) : ¬ c < (248 : Int32)), if_pos (Int32.lt_iff_toInt_lt.mpr (show 767 < c.toInt by omega) : (767 : Int32) < c), own_f1_65, if_neg (fun q => absurd (Int32.lt_iff_toInt_lt.mp q) (show ¬ c.toInt < 880 by omega) : ¬ c < (880 : Int32)), if_pos (Int32.lt_iff_toInt_lt.mpr (show 893 < c.toInt by omega) : (893 : Int32) < c), own_f1_79, if_neg (fun q => absurd (Int32.lt_iff_toInt_lt.mp q) (show ¬ c.toInt < 895 by omega) : ¬ c < (895 : Int32)), if_neg (fun q => absurd (Int32.lt_iff_toInt_lt.mp q) (show ¬ 8191 < c.toInt by omega) : ¬ (8191 : Int32) < c), own_f1_184, own_f1_189, own_F4, if_pos (Int32.lt_iff_toInt_lt.mpr (show 57 < c.toInt by omega) : (57 : Int32) < c), if_neg (fun q => absurd (Int32.lt_iff_toInt_lt.mp q) (show ¬ c.toInt < 59 by omega) : ¬ c < (59 : Int32)), if_pos (Int32.lt_iff_toInt_lt.mpr (show 64 < c.toInt by omega) : (64 : Int32) < c), own_f4_18, if_neg (fun q => absurd (Int32.lt_iff_toInt_lt.mp q) (show ¬ c.toInt < 91 by omega) : ¬ c < (91 : Int32)), if_pos (Int32.lt_iff_toInt_lt.mpr (show 94 < c.toInt by omega) : (94 : Int32) < c), own_f4_30, if_neg (fun q => absurd (congrArg Int32.toInt q) (show ¬ c.toInt = 96 by omega) : ¬ c = (96 : Int32)), if_neg (fun q => absurd (Int32.lt_iff_toInt_lt.mp q) (show ¬ c.toInt < 123 by omega) : ¬ c < (123 : Int32)), if_pos (Int32.lt_iff_toInt_lt.mpr (show 191 < c.toInt by omega) : (191 : Int32) < c), own_f4_49, if_neg (fun q => absurd (congrArg Int32.toInt q) (show ¬ c.toInt = 215 by omega) : ¬ c = (215 : Int32)), if_neg (fun q => absurd (congrArg Int32.toInt q) (show ¬ c.toInt = 247 by omega) : ¬ c = (247 : Int32)), if_neg (fun q => absurd (Int32.lt_iff_toInt_lt.mp q) (show ¬ c.toInt < 768 by omega) : ¬ c < (768 : Int32)), if_pos (Int32.lt_iff_toInt_lt.mpr (show 879 < c.toInt by omega) : (879 : Int32) < c), own_f4_77, if_neg (fun q => absurd (congrArg Int32.toInt q) (show ¬ c.toInt = 894 by omega) : ¬ c = (894 : Int32)), if_pos (Int32.lt_iff_toInt_lt.mpr (show c.toInt < 8192 by omega) : c < (8192 : Int32)), own_f4_98, if_pos (Int32.lt_iff_toInt_lt.mpr (show c.toInt < 8206 by omega) : c < (8206 : Int32)), own_f4_112, if_pos (Int32.lt_iff_toInt_lt.mpr (show c.toInt < 8592 by omega) : c < (8592 : Int32)), own_f4_126, if_pos (Int32.lt_iff_toInt_lt.mpr (show c.toInt < 12272 by omega) : c < (12272 : Int32)), own_f4_140, if_pos (Int32.lt_iff_toInt_lt.mpr (show c.toInt < 55296 by omega) : c < (55296 : Int32)), own_f4_152, if_pos (Int32.lt_iff_toInt_lt.mpr (show c.toInt < 64976 by omega) : c < (64976 : Int32)), own_f4_164, if_neg (fun q => absurd (congrArg Int32.toInt q) (show ¬ c.toInt = 65534 by omega) : ¬ c = (65534 : Int32)), if_neg (fun q => absurd (congrArg Int32.toInt q) (show ¬ c.toInt = 65535 by omega) : ¬ c = (65535 : Int32)), own_f4_181]
    try rfl
  by_cases g24 : c.toInt < 8193
  · rw [own_F1, if_neg (fun q => absurd (Int32.lt_iff_toInt_lt.mp q) (show ¬ c.toInt < 128 by omega) : ¬ c < (128 : Int32)), if_neg (fun q => absurd (Int32.lt_iff_toInt_lt.mp q) (show ¬ c.toInt < 192 by omega) : ¬ c < (192 : Int32)), if_pos (Int32.lt_iff_toInt_lt.mpr (show 214 < c.toInt by omega) : (214 : Int32) < c), own_f1_37, if_neg (fun q => absurd (Int32.lt_iff_toInt_lt.mp q) (show ¬ c.toInt < 216 by omega) : ¬ c < (216 : Int32)), if_pos (Int32.lt_iff_toInt_lt.mpr (show 246 < c.toInt by omega) : (246 : Int32) < c), own_f1_51, if_neg (fun q => absurd (Int32.lt_iff_toInt_lt.mp q) (show ¬ c.toInt < 248 by omega) : ¬ c < (248 : Int32)), if_pos (Int32.lt_iff_toInt_lt.mpr (show 767 < c.toInt by omega) : (767 : Int32) < c), own_f1_65, if_neg (fun q => absurd (Int32.lt_iff_toInt_lt.mp q) (show ¬ c.toInt < 880 by omega) : ¬ c < (880 : Int32)), if_pos (Int32.lt_iff_toInt_lt.mpr (show 893 < c.toInt by omega) : (893 : Int32) < c), own_f1_79, if_neg (fun q => absurd (Int32.lt_iff_toInt_lt.mp q) (show ¬ c.toInt < 895 by omega) : ¬ c < (895 : Int32)), if_pos (Int32.lt_iff_toInt_lt.mpr (show 8191 < c.toInt by omega) : (8191 : Int32) < c), own_f1_93, if_neg (fun q => absurd (congrArg Int32.toInt q) (show ¬ c.toInt = 8204 by omega) : ¬ c = (8204 : Int32)), if_neg (fun q => absurd (congrArg Int32.toInt q) (show ¬ c.toInt = 8205 by omega) : ¬ c = (8205 : Int32)), if_pos (Int32.lt_iff_toInt_lt.mpr (show c.toInt < 8304 by omega) : c < (8304 : Int32)), own_f1_121, if_pos (Int32.lt_iff_toInt_lt.mpr (show c.toInt < 11264 by omega) : c < (11264 : Int32)), own_f1_135, if_pos (Int32.lt_iff_toInt_lt.mpr (show c.toInt < 12289 by omega) : c < (12289 : Int32)), own_f1_148, if_pos (Int32.lt_iff_toInt_lt.mpr (show c.toInt < 63744 by omega) : c < (63744 : Int32)), own_f1_160, if_pos (Int32.lt_iff_toInt_lt.mpr (show c.toInt < 65008 by omega) : c < (65008 : Int32)), own_f1_172, if_pos (Int32.lt_iff_toInt_lt.mpr (show c.toInt < 65536 by omega) : c < (65536 : Int32)), own_f1_188, own_f1_189, own_F4, if_pos (Int32.lt_iff_toInt_lt.mpr (show 57 < c.toInt by omega) : (57 : Int32) < c), if_neg (fun q => absurd (Int32.lt_iff_toInt_lt.mp q) (show ¬ c.toInt < 59 by omega) : ¬ c < (59 : Int32)), if_pos (Int32.lt_iff_toInt_lt.mpr (show 64 < c.toInt by omega) : (64 : Int32) < c), own_f4_18, if_neg (fun q => absurd (Int32.lt_iff_toInt_lt.mp q) (show ¬ c.toInt < 91 by omega) : ¬ c < (91 : Int32)), if_pos (Int32.lt_iff_toInt_lt.mpr (show 94 < c.toInt by omega) : (94 : Int32) < c), own_f4_30, if_neg (fun q => absurd (congrArg Int32.toInt q) (show ¬ c.toInt = 96 by omega) : ¬ c = (96 : Int32)), if_neg (fun q => absurd (Int32.lt_iff_toInt_lt.mp q) (show ¬ c.toInt < 123 by omega) : ¬ c < (123 : Int32)), if_pos (Int32.lt_iff_toInt_lt.mpr (show 191 < c.toInt by omega) : (191 : Int32) < c), own_f4_49, if_neg (fun q => absurd (congrArg Int32.toInt q) (show ¬ c.toInt = 215 by omega) : ¬ c = (215 : Int32)), if_neg (fun q => absurd (congrArg Int32.toInt q) (show ¬ c.toInt = 247 by omega) : ¬ c = (247 : Int32)), if_neg (fun q => absurd (Int32.lt_iff_toInt_lt.mp q) (show ¬ c.toInt < 768 by omega) : ¬ c < (768 : Int32)), if_pos (Int32.lt_iff_toInt_lt.mpr (show 879 < c.toInt by omega) : (879 : Int32) < c), own_f4_77, if_neg (fun q => absurd (congrArg Int32.toInt q) (show ¬ c.toInt = 894 by omega) : ¬ c = (894 : Int32)), if_neg (fun q => absurd (Int32.lt_iff_toInt_lt.mp q) (show ¬ c.toInt < 8192 by omega) : ¬ c < (8192 : Int32)), if_neg (fun q => absurd (Int32.lt_iff_toInt_lt.mp q) (show ¬ 8203 < c.toInt by omega) : ¬ (8203 : Int32) < c), own_f4_176, own_f4_181]
    try rfl
  by_cases g25 : c.toInt < 8203
  · rw [own_F1, if_neg (fun q => absurd (Int32.lt_iff_toInt_lt.mp q) (show ¬ c.toInt < 128 by omega) : ¬ c < (128 : Int32)), if_neg (fun q => absurd (Int32.lt_iff_toInt_lt.mp q) (show ¬ c.toInt < 192 by omega) : ¬ c < (192 : Int32)), if_pos (Int32.lt_iff_toInt_lt.mpr (show 214 < c.toInt by omega) : (214 : Int32) < c), own_f1_37, if_neg (fun q => absurd (Int32.lt_iff_toInt_lt.mp q) (show ¬ c.toInt < 216 by omega) : ¬ c < (216 : Int32)), if_pos (Int32.lt_iff_toInt_lt.mpr (show 246 < c.toInt by omega) : (246 : Int32) < c), own_f1_51, if_neg (fun q => absurd (Int32.lt_iff_toInt_lt.mp q) (show ¬ c.toInt < 248 by omega) : ¬ c < (248 : Int32)), if_pos (Int32.lt_iff_toInt_lt.mpr (show 767 < c.toInt by omega) : (767 : Int32) < c), own_f1_65, if_neg (fun q => absurd (Int32.lt_iff_toInt_lt.mp q) (show ¬ c.toInt < 880 by omega) : ¬ c < (880 : Int32)), if_pos (Int32.lt_iff_toInt_lt.mpr (show 893 < c.toInt by omega) : (893 : Int32) < c), own_f1_79, if_neg (fun q => absurd (Int32.lt_iff_toInt_lt.mp q) (show ¬ c.toInt < 895 by omega) : ¬ c < (895 : Int32)), if_pos (Int32.lt_iff_toInt_lt.mpr (show 8191 < c.toInt by omega) : (8191 : Int32) < c), own_f1_93, if_neg (fun q => absurd (congrArg Int32.toInt q) (show ¬ c.toInt = 8204 by omega) : ¬ c = (8204 : Int32)), if_neg (fun q => absurd (congrArg Int32.toInt q) (show ¬ c.toInt = 8205 by omega) : ¬ c = (8205 : Int32)), if_pos (Int32.lt_iff_toInt_lt.mpr (show c.toInt < 8304 by omega) : c < (8304 : Int32)), own_f1_121, if_pos (Int32.lt_iff_toInt_lt.mpr (show c.toInt < 11264 by omega) : c < (11264 : Int32)), own_f1_135, if_pos (Int32.lt_iff_toInt_lt.mpr (show c.toInt < 12289 by omega) : c < (12289 : Int32)), own_f1_148, if_pos (Int32.lt_iff_toInt_lt.mpr (show c.toInt < 63744 by omega) : c < (63744 : Int32)), own_f1_160, if_pos (Int32.lt_iff_toInt_lt.mpr (show c.toInt < 65008 by omega) : c < (65008 : Int32)), own_f1_172, if_pos (Int32.lt_iff_toInt_lt.mpr (show c.toInt < 65536 by omega) : c < (65536 : Int32)), own_f1_188, own_f1_189, own_F4, if_pos (Int32.lt_iff_toInt_lt.mpr (show 57 < c.toInt by omega) : (57 : Int32) < c), if_neg (fun q => absurd (Int32.lt_iff_toInt_lt.mp q) (show ¬ c.toInt < 59 by omega) : ¬ c < (59 : Int32)), if_pos (Int32.lt_iff_toInt_lt.mpr (show 64 < c.toInt by omega) : (64 : Int32) < c), own_f4_18, if_neg (fun q => absurd (Int32.lt_iff_toInt_lt.mp q) (show ¬ c.toInt < 91 by omega) : ¬ c < (91 : Int32)), if_pos (Int32.lt_iff_toInt_lt.mpr (show 94 < c.toInt by omega) : (94 : Int32) < c), own_f4_30, if_neg (fun q => absurd (congrArg Int32.toInt q) (show ¬ c.toInt = 96 by omega) : ¬ c = (96 : Int32)), if_neg (fun q => absurd (Int32.lt_iff_toInt_lt.mp q) (show ¬ c.toInt < 123 by omega) : ¬ c < (123 : Int32)), if_pos (Int32.lt_iff_toInt_lt.mpr (show 191 < c.toInt by omega) : (191 : Int32) < c), own_f4_49, if_neg (fun q => absurd (congrArg Int32.toInt q) (show ¬ c.toInt = 215 by omega) : ¬ c = (215 : Int32)), if_neg (fun q => absurd (congrArg Int32.toInt q) (show ¬ c.toInt = 247 by omega) : ¬ c = (247 : Int32)), if_neg (fun q => absurd (Int32.lt_iff_toInt_lt.mp q) (show ¬ c.toInt < 768 by omega) : ¬ c < (768 : Int32)), if_pos (Int32.lt_iff_toInt_lt.mpr (show 879 < c.toInt by omega) : (879 : Int32) < c), own_f4_77, if_neg (fun q => absurd (congrArg Int32.toInt q) (show ¬ c.toInt = 894 by omega) : ¬ c = (894 : Int32)), if_neg (fun q => absurd (Int32.lt_iff_toInt_lt.mp q) (show ¬ c.toInt < 8192 by omega) : ¬ c < (8192 : Int32)), if_neg (fun q => absurd (Int32.lt_iff_toInt_lt.mp q) (show ¬ 8203 < c.toInt by omega) : ¬ (8203 : Int32) < c), own_f4_176, own_f4_181]
    try rfl
  by_cases g26 : c.toInt < 8204
  · rw [own_F1, if_neg (fun q => absurd (Int32.lt_iff_toInt_lt.mp q) (show ¬ c.toInt < 128 by omega) : ¬ c < (128 : Int32)), if_neg (fun q => absurd (Int32.lt_iff_toInt_lt.mp q) (show ¬ c.toInt < 192 by omega) : ¬ c < (192 : Int32)), if_pos (Int32.lt_iff_toInt_lt.mpr (show 214 < c.toInt by omega) : (214 : Int32) < c), own_f1_37, if_neg (fun q => absurd (Int32.lt_iff_toInt_lt.mp q) (show ¬ c.toInt < 216 by omega) : ¬ c < (216 : Int32)), if_pos (Int32.lt_iff_toInt_lt.mpr (show 246 < c.toInt by omega) : (246 : Int32) < c), own_f1_51, if_neg (fun q => absurd (Int32.lt_iff_toInt_lt.mp q) (show ¬ c.toInt < 248 by omega) : ¬ c < (248 : Int32)), if_pos (Int32.lt_iff_toInt_lt.mpr (show 767 < c.toInt by omega) : (767 : Int32) < c), own_f1_65, if_neg (fun q => absurd (Int32.lt_iff_toInt_lt.mp q) (show ¬ c.toInt < 880 by omega) : ¬ c < (880 : Int32)), if_pos (Int32.lt_iff_toInt_lt.mpr (show 893 < c.toInt by omega) : (893 : Int32) < c), own_f1_79, if_neg (fun q => absurd (Int32.lt_iff_toInt_lt.mp q) (show ¬ c.toInt < 895 by omega) : ¬ c < (895 : Int32)), if_pos (Int32.lt_iff_toInt_lt.mpr (show 8191 < c.toInt by omega) : (8191 : Int32) < c), own_f1_93, if_neg (fun q => absurd (congrArg Int32.toInt q) (show ¬ c.toInt = 8204 by omega) : ¬ c = (8204 : Int32)), if_neg (fun q => absurd (congrArg Int32.toInt q) (show ¬ c.toInt = 8205 by omega) : ¬ c = (8205 : Int32)), if_pos (Int32.lt_iff_toInt_lt.mpr (show c.toInt < 8304 by omega) : c < (8304 : Int32)), own_f1_121, if_pos (Int32.lt_iff_toInt_lt.mpr (show c.toInt < 11264 by omega) : c < (11264 : Int32)), own_f1_135, if_pos (Int32.lt_iff_toInt_lt.mpr (show c.toInt < 12289 by omega) : c < (12289 : Int32)), own_f1_148, if_pos (Int32.lt_iff_toInt_lt.mpr (show c.toInt < 63744 by omega) : c < (63744 : Int32)), own_f1_160, if_pos (Int32.lt_iff_toInt_lt.mpr (show c.toInt < 65008 by omega) : c < (65008 : Int32)), own_f1_172, if_pos (Int32.lt_iff_toInt_lt.mpr (show c.toInt < 65536 by omega) : c < (65536 : Int32)), own_f1_188, own_f1_189, own_F4, if_pos (Int32.lt_iff_toInt_lt.mpr (show 57 < c.toInt by omega) : (57 : Int32) < c), if_neg (fun q => absurd (Int32.lt_iff_toInt_lt.mp q) (show ¬ c.toInt < 59 by omega) : ¬ c < (59 : Int32)), if_pos (Int32.lt_iff_toInt_lt.mpr (show 64 < c.toInt by omega) : (64 : Int32) < c), own_f4_18, if_neg (fun q => absurd (Int32.lt_iff_toInt_lt.mp q) (show ¬ c.toInt < 91 by omega) : ¬ c < (91 : Int32)), if_pos (Int32.lt_iff_toInt_lt.mpr (show 94 < c.toInt by omega) : (94 : Int32) < c), own_f4_30, if_neg (fun q => absurd (congrArg Int32.toInt q) (show ¬ c.toInt = 96 by omega) : ¬ c = (96 : Int32)), if_neg (fun q => absurd (Int32.lt_iff_toInt_lt.mp q) (show ¬ c.toInt < 123 by omega) : ¬ c < (123 : Int32)), if_pos (Int32.lt_iff_toInt_lt.mpr (show 191 < c.toInt by omega) : (191 : Int32) < c), own_f4_49, if_neg (fun q => absurd (congrArg Int32.toInt q) (show ¬ c.toInt = 215 by omega) : ¬ c = (215 : Int32)), if_neg (fun q => absurd (congrArg Int32.toInt q) (show ¬ c.toInt = 247 by omega) : ¬ c = (247 : Int32)), if_neg (fun q => absurd (Int32.lt_iff_toInt_lt.mp q) (show ¬ c.toInt < 768 by omega) : ¬ c < (768 : Int32)), if_pos (Int32.lt_iff_toInt_lt.mpr (show 879 < c.toInt by omega) : (879 : Int32) < c), own_f4_77, if_neg (fun q => absurd (congrArg Int32.toInt q) (show ¬ c.toInt = 894 by omega) : ¬ c = (894 : Int32)), if_neg (fun q => absurd (Int32.lt_iff_toInt_lt.mp q) (show ¬ c.toInt < 8192 by omega) : ¬ c < (8192 : Int32)), if_neg (fun q => absurd (Int32.lt_iff_toInt_lt.mp q) (show ¬ 8203 < c.toInt by omega) : ¬ (8203 : Int32) < c), own_f4_176, own_f4_181]
    try rfl
  by_cases g27 : c.toInt < 8205
  · rw [own_F1, if_neg (fun q => absurd (Int32.lt_iff_toInt_lt.mp q) (show ¬ c.toInt < 128 by omega) : ¬ c < (128 : Int32)), if_neg (fun q => absurd (Int32.lt_iff_toInt_lt.mp q) (show ¬ c.toInt < 192 by omega) : ¬ c < (192 : Int32)), if_pos (Int32.lt_iff_toInt_lt.mpr (show 214 < c.toInt by omega) : (214 : Int32) < c), own_f1_37, if_neg (fun q => absurd (Int32.lt_iff_toInt_lt.mp q) (show ¬ c.toInt < 216 by omega) : ¬ c < (216 : Int32)), if_pos (Int32.lt_iff_toInt_lt.mpr (show 246 < c.toInt by omega) : (246 : Int32) < c), own_f1_51, if_neg (fun q => absurd (Int32.lt_iff_toInt_lt.mp q) (show ¬ c.toInt < 248 by omega) : ¬ c < (248 : Int32)), if_pos (Int32.lt_iff_toInt_lt.mpr (show 767 < c.toInt by omega) : (767 : Int32) < c), own_f1_65, if_neg (fun q => absurd (Int32.lt_iff_toInt_lt.mp q) (show ¬ c.toInt < 880 by omega) : ¬ c < (880 : Int32)), if_pos (Int32.lt_iff_toInt_lt.mpr (show 893 < c.toInt by omega) : (893 : Int32) < c), own_f1_79, if_neg (fun q => absurd (Int32.lt_iff_toInt_lt.mp q) (show ¬ c.toInt < 895 by omega) : ¬ c < (895 : Int32)), if_pos (Int32.lt_iff_toInt_lt.mpr (show 8191 < c.toInt by omega) : (8191 : Int32) < c), own_f1_93, if_pos (Int32.toInt_inj.mp (show c.toInt = 8204 by omega) : c = (8204 : Int32)), own_f1_184, own_f1_189, own_F4, if_pos (Int32.lt_iff_toInt_lt.mpr (show 57 < c.toInt by omega) : (57 : Int32) < c), if_neg (fun q => absurd (Int32.lt_iff_toInt_lt.mp q) (show ¬ c.toInt < 59 by omega) : ¬ c < (59 : Int32)), if_pos (Int32.lt_iff_toInt_lt.mpr (show 64 < c.toInt by omega) : (64 : Int32) < c), own_f4_18, if_neg (fun q => absurd (Int32.lt_iff_toInt_lt.mp q) (show ¬ c.toInt < 91 by omega) : ¬ c < (91 : Int32)), if_pos (Int32.lt_iff_toInt_lt.mpr (show 94 < c.toInt by omega) : (94 : Int32) < c), own_f4_30, if_neg (fun q => absurd (congrArg Int32.toInt q) (show ¬ c.toInt = 96 by omega) : ¬ c = (96 : Int32)), if_neg (fun q => absurd (Int32.lt_iff_toInt_lt.mp q) (show ¬ c.toInt < 123 by omega) : ¬ c < (123 : Int32)), if_pos (Int32.lt_iff_toInt_lt.mpr (show 191 < c.toInt by omega) : (191 : Int32) < c), own_f4_49, if_neg (fun q => absurd (congrArg Int32.toInt q) (show ¬ c.toInt = 215 by omega) : ¬ c = (215 : Int32)), if_neg (fun q => absurd (congrArg Int32.toInt q) (show ¬ c.toInt = 247 by omega) : ¬ c = (247 : Int32)), if_neg (fun q => absurd (Int32.lt_iff_toInt_lt.mp q) (show ¬ c.toInt < 768 by omega) : ¬ c < (768 : Int32)), if_pos (Int32.lt_iff_toInt_lt.mpr (show 879 < c.toInt by omega) : (879 : Int32) < c), own_f4_77, if_neg (fun q => absurd (congrArg Int32.toInt q) (show ¬ c.toInt = 894 by omega) : ¬ c = (894 : Int32)), if_neg (fun q => absurd (Int32.lt_iff_toInt_lt.mp q) (show ¬ c.toInt < 8192 by omega) : ¬ c < (8192 : Int32)), if_pos (Int32.lt_iff_toInt_lt.mpr (show 8203 < c.toInt by omega) : (8203 : Int32) < c), own_f4_98, if_pos (Int32.lt_iff_toInt_lt.mpr (show c.toInt < 8206 by omega) : c < (8206 : Int32)), own_f4_112, if_pos (Int32.lt_iff_toInt_lt.mpr (show c.toInt < 8592 by omega) : c < (8592 : Int32)), own_f4_126, if_pos (Int32.lt_iff_toInt_lt.mpr (show c.toInt < 12272 by omega) : c < (12272 : Int32)), own_f4_140, if_pos (Int32.lt_iff_toInt_lt.mpr (show c.toInt < 55296 by omega) : c < (55296 : Int32)), own_f4_152, if_pos (Int32.lt_iff_toInt_lt.mpr (show c.toInt < 64976 by omega) : c < (64976 : Int32)), own_f4_164, if_neg (fun q => absurd (congrArg Int32.toInt q) (show ¬ c.toInt = 65534 by omega) : ¬ c = (65534 : Int32)), if_neg (fun q => absurd (congrArg Int32.toInt q) (show ¬ c.toInt = 65535 by omega) : ¬ c = (65535 : Int32)), own_f4_181]
    try rfl
  by_cases g28 : c.toInt < 8206
  · rw [own_F1, if_neg (fun q => absurd (Int32.lt_iff_toInt_lt.mp q) (show ¬ c.toInt < 128 by omega) : ¬ c < (128 : Int32)), if_neg (fun q => absurd (Int32.lt_iff_toInt_lt.mp q) (show ¬ c.toInt < 192 by omega) : ¬ c < (192 : Int32)), if_pos (Int32.lt_iff_toInt_lt.mpr (show 214 < c.toInt by omega) : (214 : Int32) < c), own_f1_37, if_neg (fun q => absurd (Int32.lt_iff_toInt_lt.mp q) (show ¬ c.toInt < 216 by omega) : ¬ c < (216 : Int32)), if_pos (Int32.lt_iff_toInt_lt.mpr (show 246 < c.toInt by omega) : (246 : Int32) < c), own_f1_51, if_neg (fun q => absurd (Int32.lt_iff_toInt_lt.mp q) (show ¬ c.toInt < 248 by omega) : ¬ c < (248 : Int32)), if_pos (Int32.lt_iff_toInt_lt.mpr (show 767 < c.toInt by omega) : (767 : Int32) < c), own_f1_65, if_neg (fun q => absurd (Int32.lt_iff_toInt_lt.mp q) (show ¬ c.toInt < 880 by omega) : ¬ c < (880 : Int32)), if_pos (Int32.lt_iff_toInt_lt.mpr (show 893 < c.toInt by omega) : (893 : Int32) < c), own_f1_79, if_neg (fun q => absurd (Int32.lt_iff_toInt_lt.mp q) (show ¬ c.toInt < 895 by omega) : ¬ c < (895 : Int32)), if_pos (Int32.lt_iff_toInt_lt.mpr (show 8191 < c.toInt by omega) : (8191 : Int32) < c), own_f1_93, if_neg (fun q => absurd (congrArg Int32.toInt q) (show ¬ c.toInt = 8204 by omega) : ¬ c = (8204 : Int32)), if_pos (Int32.toInt_inj.mp (show c.toInt = 8205 by omega) : c = (8205 : Int32)), own_f1_184, own_f1_189, own_F4, if_pos (Int32.lt_iff_toInt_lt.mpr (show 57 < c.toInt by omega) : (57 : Int32) < c), if_neg (fun q => absurd (Int32.lt_iff_toInt_lt.mp q) (show ¬ c.toInt < 59 by omega) : ¬ c < (59 : Int32)), if_pos (Int32.lt_iff_toInt_lt.mpr (show 64 < c.toInt by omega) : (64 : Int32) < c), own_f4_18, if_neg (fun q => absurd (Int32.lt_iff_toInt_lt.mp q) (show ¬ c.toInt < 91 by omega) : ¬ c < (91 : Int32)), if_pos (Int32.lt_iff_toInt_lt.mpr (show 94 < c.toInt by omega) : (94 : Int32) < c), own_f4_30, if_neg (fun q => absurd (congrArg Int32.toInt q) (show ¬ c.toInt = 96 by omega) : ¬ c = (96 : Int32)), if_neg (fun q => absurd (Int32.lt_iff_toInt_lt.mp q) (show ¬ c.toInt < 123 by omega) : ¬ c < (123 : Int32)), if_pos (Int32.lt_iff_toInt_lt.mpr (show 191 < c.toInt by omega) : (191 : Int32) < c), own_f4_49, if_neg (fun q => absurd (congrArg Int32.toInt q) (show ¬ c.toInt = 215 by omega) : ¬ c = (215 : Int32)), if_neg (fun q => absurd (congrArg Int32.toInt q) (show ¬ c.toInt = 247 by omega) : ¬ c = (247 : Int32)), if_neg (fun q => absurd (Int32.lt_iff_toInt_lt.mp q) (show ¬ c.toInt < 768 by omega) : ¬ c < (768 : Int32)), if_pos (Int32.lt_iff_toInt_lt.mpr (show 879 < c.toInt by omega) : (879 : Int32) < c), own_f4_77, if_neg (fun q => absurd (congrArg Int32.toInt q) (show ¬ c.toInt = 894 by omega) : ¬ c = (894 : Int32)), if_neg (fun q => absurd (Int32.lt_iff_toInt_lt.mp q) (show ¬ c.toInt < 8192 by omega) : ¬ c < (8192 : Int32)), if_pos (Int32.lt_iff_toInt_lt.mpr (show 8203 < c.toInt by omega) : (8203 : Int32) < c), own_f4_98, if_pos (Int32.lt_iff_toInt_lt.mpr (show c.toInt < 8206 by omega) : c < (8206 : Int32)), own_f4_112, if_pos (Int32.lt_iff_toInt_lt.mpr (show c.toInt < 8592 by omega) : c < (8592 : Int32)), own_f4_126, if_pos (Int32.lt_iff_toInt_lt.mpr (show c.toInt < 12272 by omega) : c < (12272 : Int32)), own_f4_140, if_pos (Int32.lt_iff_toInt_lt.mpr (show c.toInt < 55296 by omega) : c < (55296 : Int32)), own_f4_152, if_pos (Int32.lt_iff_toInt_lt.mpr (show c.toInt < 64976 by omega) : c < (64976 : Int32)), own_f4_164, if_neg (fun q => absurd (congrArg Int32.toInt q) (show ¬ c.toInt = 65534 by omega) : ¬ c = (65534 : Int32)), if_neg (fun q => absurd (congrArg Int32.toInt q) (show ¬ c.toInt = 65535 by omega) : ¬ c = (65535 : Int32)), own_f4_181]
    try rfl
  by_cases g29 : c.toInt < 8207
  · rw [own_F1, if_neg (fun q => absurd (Int32.lt_iff_toInt_lt.mp q) (show ¬ c.toInt < 128 by omega) : ¬ c < (128 : Int32)), if_neg (fun q => absurd (Int32.lt_iff_toInt_lt.mp q) (show ¬ c.toInt < 192 by omega) : ¬ c < (192 : Int32)), if_pos (Int32.lt_iff_toInt_lt.mpr (show 214 < c.toInt by omega) : (214 : Int32) < c), own_f1_37, if_neg (fun q => absurd (Int32.lt_iff_toInt_lt.mp q) (show ¬ c.toInt < 216 by omega) : ¬ c < (216 : Int32)), if_pos (Int32.lt_iff_toInt_lt.mpr (show 246 < c.toInt by omega) : (246 : Int32) < c), own_f1_51, if_neg (fun q => absurd (Int32.lt_iff_toInt_lt.mp q) (show ¬ c.toInt < 248 by omega) : ¬ c < (248 : Int32)), if_pos (Int32.lt_iff_toInt_lt.mpr (show 767 < c.toInt by omega) : (767 : Int32) < c), own_f1_65, if_neg (fun q => absurd (Int32.lt_iff_toInt_lt.mp q) (show ¬ c.toInt < 880 by omega) : ¬ c < (880 : Int32)), if_pos (Int32.lt_iff_toInt_lt.mpr (show 893 < c.toInt by omega) : (893 : Int32) < c), own_f1_79, if_neg (fun q => absurd (Int32.lt_iff_toInt_lt.mp q) (show ¬ c.toInt < 895 by omega) : ¬ c < (895 : Int32)), if_pos (Int32.lt_iff_toInt_lt.mpr (show 8191 < c.toInt by omega) : (8191 : Int32) < c), own_f1_93, if_neg (fun q => absurd (congrArg Int32.toInt q) (show ¬ c.toInt = 8204 by omega) : ¬ c = (8204 : Int32)), if_neg (fun q => absurd (congrArg Int32.toInt q) (show ¬ c.toInt = 8205 by omega) : ¬ c = (8205 : Int32)), if_pos (Int32.lt_iff_toInt_lt.mpr (show c.toInt < 8304 by omega) : c < (8304 : Int32)), own_f1_121, if_pos (Int32.lt_iff_toInt_lt.mpr (show c.toInt < 11264 by omega) : c < (11264 : Int32)), own_f1_135, if_pos (Int32.lt_iff_toInt_lt.mpr (show c.toInt < 12289 by omega) : c < (12289 : Int32)), own_f1_148, if_pos (Int32.lt_iff_toInt_lt.mpr (show c.toInt < 63744 by omega) : c < (63744 : Int32)), own_f1_160, if_pos (Int32.lt_iff_toInt_lt.mpr (show c.toInt < 65008 by omega) : c < (65008 : Int32)), own_f1_172, if_pos (Int32.lt_iff_toInt_lt.mpr (show c.toInt < 65536 by omega) : c < (65536 : Int32)), own_f1_188, own_f1_189, own_F4, if_pos (Int32.lt_iff_toInt_lt.mpr (show 57 < c.toInt by omega) : (57 : Int32) < c), if_neg (fun q => absurd (Int32.lt_iff_toInt_lt.mp q) (show ¬ c.toInt < 59 by omega) : ¬ c < (59 : Int32)), if_pos (Int32.lt_iff_toInt_lt.mpr (show 64 < c.toInt by omega) : (64 : Int32) < c), own_f4_18, if_neg (fun q => absurd (Int32.lt_iff_toInt_lt.mp q) (show ¬ c.toInt < 91 by omega) : ¬ c < (91 : Int32)), if_pos (Int32.lt_iff_toInt_lt.mpr (show 94 < c.toInt by omega) : (94 : Int32) < c), own_f4_30, if_neg (fun q => absurd (congrArg Int32.toInt q) (show ¬ c.toInt = 96 by omega) : ¬ c = (96 : Int32)), if_neg (fun q => absurd (Int32.lt_iff_toInt_lt.mp q) (show ¬ c.toInt < 123 by omega) : ¬ c < (123 : Int32)), if_pos (Int32.lt_iff_toInt_lt.mpr (show 191 < c.toInt by omega) : (191 : Int32) < c), own_f4_49, if_neg (fun q => absurd (congrArg Int32.toInt q) (show ¬ c.toInt = 215 by omega) : ¬ c = (215 : Int32)), if_neg (fun q => absurd (congrArg Int32.toInt q) (show ¬ c.toInt = 247 by omega) : ¬ c = (247 : Int32)), if_neg (fun q => absurd (Int32.lt_iff_toInt_lt.mp q) (show ¬ c.toInt < 768 by omega) : ¬ c < (768 : Int32)), if_pos (Int32.lt_iff_toInt_lt.mpr (show 879 < c.toInt by omega) : (879 : Int32) < c), own_f4_77, if_neg (fun q => absurd (congrArg Int32.toInt q) (show ¬ c.toInt = 894 by omega) : ¬ c = (894 : Int32)), if_neg (fun q => absurd (Int32.lt_iff_toInt_lt.mp q) (show ¬ c.toInt < 8192 by omega) : ¬ c < (8192 : Int32)), if_pos (Int32.lt_iff_toInt_lt.mpr (show 8203 < c.toInt by omega) : (8203 : Int32) < c), own_f4_98, if_neg (fun q => absurd (Int32.lt_iff_toInt_lt.mp q) (show ¬ c.toInt < 8206 by omega) : ¬ c < (8206 : Int32)), if_neg (fun q => absurd (Int32.lt_iff_toInt_lt.mp q) (show ¬ 8303 < c.toInt by omega) : ¬ (8303 : Int32) < c), own_f4_176, own_f4_181]
    try rfl
  by_cases g30 : c.toInt < 8303
  · rw [own_F1, if_neg (fun q => absurd (Int32.lt_iff_toInt_lt.mp q) (show ¬ c.toInt < 128 by omega) : ¬ c < (128 : Int32)), if_neg (fun q => absurd (Int32.lt_iff_toInt_lt.mp q) (show ¬ c.toInt < 192 by omega) : ¬ c < (192 : Int32)), if_pos (Int32.lt_iff_toInt_lt.mpr (show 214 < c.toInt by omega) : (214 : Int32) < c), own_f1_37, if_neg (fun q => absurd (Int32.lt_iff_toInt_lt.mp q) (show ¬ c.toInt < 216 by omega) : ¬ c < (216 : Int32)), if_pos (Int32.lt_iff_toInt_lt.mpr (show 246 < c.toInt by omega) : (246 : Int32) < c), own_f1_51, if_neg (fun q => absurd (Int32.lt_iff_toInt_lt.mp q) (show ¬ c.toInt < 248 by omega) : ¬ c < (248 : Int32)), if_pos (Int32.lt_iff_toInt_lt.mpr (show 767 < c.toInt by omega) : (767 : Int32) < c), own_f1_65, if_neg (fun q => absurd (Int32.lt_iff_toInt_lt.mp q) (show ¬ c.toInt < 880 by omega) : ¬ c < (880 : Int32)), if_pos (Int32.lt_iff_toInt_lt.mpr (show 893 < c.toInt by omega) : (893 : Int32) < c), own_f1_79, if_neg (fun q => absurd (Int32.lt_iff_toInt_lt.mp q) (show ¬ c.toInt < 895 by omega) : ¬ c < (895 : Int32)), if_pos (Int32.lt_iff_toInt_lt.mpr (show 8191 < c.toInt by omega) : (8191 : Int32) < c), own_f1_93, if_neg (fun q => absurd (congrArg Int32.toInt q) (show ¬ c.toInt = 8204 by omega) : ¬ c = (8204 : Int32)), if_neg (fun q => absurd (congrArg Int32.toInt q) (show ¬ c.toInt = 8205 by omega) : ¬ c = (8205 : Int32)), if_pos (Int32.lt_iff_toInt_lt.mpr (show c.toInt < 8304 by omega) : c < (8304 : Int32)), own_f1_121, if_pos (Int32.lt_iff_toInt_lt.mpr (show c.toInt < 11264 by omega) : c < (11264 : Int32)), own_f1_135, if_pos (Int32.lt_iff_toInt_lt.mpr (show c.toInt < 12289 by omega) : c < (12289 : Int32)), own_f1_148, if_pos (Int32.lt_iff_toInt_lt.mpr (show c.toInt < 63744 by omega) : c < (63744 : Int32)), own_f1_160, if_pos (Int32.lt_iff_toInt_lt.mpr (show c.toInt < 65008 by omega) : c < (65008 : Int32)), own_f1_172, if_pos (Int32.lt_iff_toInt_lt.mpr (show c.toInt < 65536 by omega) : c < (65536 : Int32)), own_f1_188, own_f1_189, own_F4, if_pos (Int32.lt_iff_toInt_lt.mpr (show 57 < c.toInt by omega) : (57 : Int32) < c), if_neg (fun q => absurd (Int32.lt_iff_toInt_lt.mp q) (show ¬ c.toInt < 59 by omega) : ¬ c < (59 : Int32)), if_pos (Int32.lt_iff_toInt_lt.mpr (show 64 < c.toInt by omega) : (64 : Int32) < c), own_f4_18, if_neg (fun q => absurd (Int32.lt_iff_toInt_lt.mp q) (show ¬ c.toInt < 91 by omega) : ¬ c < (91 : Int32)), if_pos (Int32.lt_iff_toInt_lt.mpr (show 94 < c.toInt by omega) : (94 : Int32) < c), own_f4_30, if_neg (fun q => absurd (congrArg Int32.toInt q) (show ¬ c.toInt = 96 by omega) : ¬ c = (96 : Int32)), if_neg (fun q => absurd (Int32.lt_iff_toInt_lt.mp q) (show ¬ c.toInt < 123 by omega) : ¬ c < (123 : Int32)), if_pos (Int32.lt_iff_toInt_lt.mpr (show 191 < c.toInt by omega) : (191 : Int32) < c), own_f4_49, if_neg (fun q => absurd (congrArg Int32.toInt q) (show ¬ c.toInt = 215 by omega) : ¬ c = (215 : Int32)), if_neg (fun q => absurd (congrArg Int32.toInt q) (show ¬ c.toInt = 247 by omega) : ¬ c = (247 : Int32)), if_neg (fun q => absurd (Int32.lt_iff_toInt_lt.mp q) (show ¬ c.toInt < 768 by omega) : ¬ c < (768 : Int32)), if_pos (Int32.lt_iff_toInt_lt.mpr (show 879 < c.toInt by omega) : (879 : Int32) < c), own_f4_77, if_neg (fun q => absurd (congrArg Int32.toInt q) (show ¬ c.toInt = 894 by omega) : ¬ c = (894 : Int32)), if_neg (fun q => absurd (Int32.lt_iff_toInt_lt.mp q) (show ¬ c.toInt < 8192 by omega) : ¬ c < (8192 : Int32)), if_pos (Int32.lt_iff_toInt_lt.mpr (show 8203 < c.toInt by omega) : (8203 : Int32) < c), own_f4_98, if_neg (fun q => absurd (Int32.lt_iff_toInt_lt.mp q) (show ¬ c.toInt < 8206 by omega) : ¬ c < (8206 : Int32)), if_neg (fun q => absurd (Int32.lt_iff_toInt_lt.mp q) (show ¬ 8303 < c.toInt by omega) : ¬ (8303 : Int32) < c), own_f4_176, own_f4_181]
    try rfl
  by_cases g31 : c.toInt < 8304
  · rw [own_F1, if_neg (fun q => absurd (Int32.lt_iff_toInt_lt.mp q) (show ¬ c.toInt < 128 by omega) : ¬ c < (128 : Int32)), if_neg (fun q => absurd (Int32.lt_iff_toInt_lt.mp q) (show ¬ c.toInt < 192 by omega) : ¬ c < (192 : Int32)), if_pos (Int32.lt_iff_toInt_lt.mpr (show 214 < c.toInt by omega) : (214 : Int32) < c), own_f1_37, if_neg (fun q => absurd (Int32.lt_iff_toInt_lt.mp q) (show ¬ c.toInt < 216 by omega) : ¬ c < (216 : Int32)), if_pos (Int32.lt_iff_toInt_lt.mpr (show 246 < c.toInt by omega) : (246 : Int32) < c), own_f1_51, if_neg (fun q => absurd (Int32.lt_iff_toInt_lt.mp q) (show ¬ c.toInt < 248 by omega) : ¬ c < (248 : Int32)), if_pos (Int32.lt_iff_toInt_lt.mpr (show 767 < c.toInt by omega) : (767 : Int32) < c), own_f1_65, if_neg (fun q => absurd (Int32.lt_iff_toInt_lt.mp q) (show ¬ c.toInt < 880 by omega) : ¬ c < (880 : Int32)), if_pos (Int32.lt_iff_toInt_lt.mpr (show 893 < c.toInt by omega) : (893 : Int32) < c), own_f1_79, if_neg (fun q => absurd (Int32.lt_iff_toInt_lt.mp q) (show ¬ c.toInt < 895 by omega) : ¬ c < (895 : Int32)), if_pos (Int32.lt_iff_toInt_lt.mpr (show 8191 < c.toInt by omega) : (8191 : Int32) < c), own_f1_93, if_neg (fun q => absurd (congrArg Int32.toInt q) (show ¬ c.toInt = 8204 by omega) : ¬ c = (8204 : Int32)), if_neg (fun q => absurd (congrArg Int32.toInt q) (show ¬ c.toInt = 8205 by omega) : ¬ c = (8205 : Int32)), if_pos (Int32.lt_iff_toInt_lt.mpr (show c.toInt < 8304 by omega) : c < (8304 : Int32)), own_f1_121, if_pos (Int32.lt_iff_toInt_lt.mpr (show c.toInt < 11264 by omega) : c < (11264 : Int32)), own_f1_135, if_pos (Int32.lt_iff_toInt_lt.mpr (show c.toInt < 12289 by omega) : c < (12289 : Int32)), own_f1_148, if_pos (Int32.lt_iff_toInt_lt.mpr (show c.toInt < 63744 by omega) : c < (63744 : Int32)), own_f1_160, if_pos (Int32.lt_iff_toInt_lt.mpr (show c.toInt < 65008 by omega) : c < (65008 : Int32)), own_f1_172, if_pos (Int32.lt_iff_toInt_lt.mpr (show c.toInt < 65536 by omega) : c < (65536 : Int32)), own_f1_188, own_f1_189, own_F4, if_pos (Int32.lt_iff_toInt_lt.mpr (show 57 < c.toInt by omega) : (57 : Int32) < c), if_neg (fun q => absurd (Int32.lt_iff_toInt_lt.mp q) (show ¬ c.toInt < 59 by omega) : ¬ c < (59 : Int32)), if_pos (Int32.lt_iff_toInt_lt.mpr (show 64 < c.toInt by omega) : (64 : Int32) < c), own_f4_18, if_neg (fun q => absurd (Int32.lt_iff_toInt_lt.mp q) (show ¬ c.toInt < 91 by omega) : ¬ c < (91 : Int32)), if_pos (Int32.lt_iff_toInt_lt.mpr (show 94 < c.toInt by omega) : (94 : Int32) < c), own_f4_30, if_neg (fun q => absurd (congrArg Int32.toInt q) (show ¬ c.toInt = 96 by omega) : ¬ c = (96 : Int32)), if_neg (fun q => absurd (Int32.lt_iff_toInt_lt.mp q) (show ¬ c.toInt < 123 by omega) : ¬ c < (123 : Int32)), if_pos (Int32.lt_iff_toInt_lt.mpr (show 191 < c.toInt by omega) : (191 : Int32) < c), own_f4_49, if_neg (fun q => absurd (congrArg Int32.toInt q) (show ¬ c.toInt = 215 by omega) : ¬ c = (215 : Int32)), if_neg (fun q => absurd (congrArg Int32.toInt q) (show ¬ c.toInt = 247 by omega) : ¬ c = (247 : Int32)), if_neg (fun q => absurd (Int32.lt_iff_toInt_lt.mp q) (show ¬ c.toInt < 768 by omega) : ¬ c < (768 : Int32)), if_pos (Int32.lt_iff_toInt_lt.mpr (show 879 < c.toInt by omega) : (879 : Int32) < c), own_f4_77, if_neg (fun q => absurd (congrArg Int32.toInt q) (show ¬ c.toInt = 894 by omega) : ¬ c = (894 : Int32)), if_neg (fun q => absurd (Int32.lt_iff_toInt_lt.mp q) (show ¬ c.toInt < 8192 by omega) : ¬ c < (8192 : Int32)), if_pos (Int32.lt_iff_toInt_lt.mpr (show 8203 < c.toInt by omega) : (8203 : Int32) < c), own_f4_98, if_neg (fun q => absurd (Int32.lt_iff_toInt_lt.mp q) (show ¬ c.toInt < 8206 by omega) : ¬ c < (8206 : Int32)), if_neg (fun q => absurd (Int32.lt_iff_toInt_lt.mp q) (show ¬ 8303 < c.toInt by omega) : ¬ (8303 : Int32) < c), own_f4_176, own_f4_181]
    try rfl
  by_cases g32 : c.toInt < 8305
  · rw [own_F1, if_neg (fun q => absurd (Int32.lt_iff_toInt_lt.mp q) (show ¬ c.toInt < 128 by omega) : ¬ c < (128 : Int32)), if_neg (fun q => absurd (Int32.lt_iff_toInt_lt.mp q) (show ¬ c.toInt < 192 by omega) : ¬ c < (192 : Int32)), if_pos (Int32.lt_iff_toInt_lt.mpr (show 214 < c.toInt by omega) : (214 : Int32) < c), own_f1_37, if_neg (fun q => absurd (Int32.lt_iff_toInt_lt.mp q) (show ¬ c.toInt < 216 by omega) : ¬ c < (216 : Int32)), if_pos (Int32.lt_iff_toInt_lt.mpr (show 246 < c.toInt by omega) : (246 : Int32) < c), own_f1_51, if_neg (fun q => absurd (Int32.lt_iff_toInt_lt.mp q) (show ¬ c.toInt < 248 by omega) : ¬ c < (248 : Int32)), if_pos (Int32.lt_iff_toInt_lt.mpr (show 767 < c.toInt by omega) : (767 : Int32) < c), own_f1_65, if_neg (fun q => absurd (Int32.lt_iff_toInt_lt.mp q) (show ¬ c.toInt < 880 by omega) : ¬ c < (880 : Int32)), if_pos (Int32.lt_iff_toInt_lt.mpr (show 893 < c.toInt by omega) : (893 : Int32) < c), own_f1_79, if_neg (fun q => absurd (Int32.lt_iff_toInt_lt.mp q) (show ¬ c.toInt < 895 by omega) : ¬ c < (895 : Int32)), if_pos (Int32.lt_iff_toInt_lt.mpr (show 8191 < c.toInt by omega) : (8191 : Int32) < c), own_f1_93, if_neg (fun q => absurd (congrArg Int32.toInt q) (show ¬ c.toInt = 8204 by omega) : ¬ c = (8204 : Int32)), if_neg (fun q => absurd (congrArg Int32.toInt q) (show ¬ c.toInt = 8205 by omega) : ¬ c = (8205 : Int32)), if_neg (fun q => absurd (Int32.lt_iff_toInt_lt.mp q) (show ¬ c.toInt < 8304 by omega) : ¬ c < (8304 : Int32)), if_neg (fun q => absurd (Int32.lt_iff_toInt_lt.mp q) (show ¬ 8591 < c.toInt by omega) : ¬ (8591 : Int32) < c), own_f1_184, own_f1_189, own_F4, if_pos (Int32.lt_iff_toInt_lt.mpr (show 57 < c.toInt by omega) : (57 : Int32) < c), if_neg (fun q => absurd (Int32.lt_iff_toInt_lt.mp q) (show ¬ c.toInt < 59 by omega) : ¬ c < (59 : Int32)), if_pos (Int32.lt_iff_toInt_lt.mpr (show 64 < c.toInt by omega) : (64 : Int32) < c), own_f4_18, if_neg (fun q => absurd (Int32.lt_iff_toInt_lt.mp q) (show ¬ c.toInt < 91 by omega) : ¬ c < (91 : Int32)), if_pos (Int32.lt_iff_toInt_lt.mpr (show 94 < c.toInt by omega) : (94 : Int32) < c), own_f4_30, if_neg (fun q => absurd (congrArg Int32.toInt q) (show ¬ c.toInt = 96 by omega) : ¬ c = (96 : Int32)), if_neg (fun q => absurd (Int32.lt_iff_toInt_lt.mp q) (show ¬ c.toInt < 123 by omega) : ¬ c < (123 : Int32)), if_pos (Int32.lt_iff_toInt_lt.mpr (show 191 < c.toInt by omega) : (191 : Int32) < c), own_f4_49, if_neg (fun q => absurd (congrArg Int32.toInt q) (show ¬ c.toInt = 215 by omega) : ¬ c = (215 : Int32)), if_neg (fun q => absurd (congrArg Int32.toInt q) (show ¬ c.toInt = 247 by omega) : ¬ c = (247 : Int32)), if_neg (fun q => absurd (Int32.lt_iff_toInt_lt.mp q) (show ¬ c.toInt < 768 by omega) : ¬ c < (768 : Int32)), if_pos (Int32.lt_iff_toInt_lt.mpr (show 879 < c.toInt by omega) : (879 : Int32) < c), own_f4_77, if_neg (fun q => absurd (congrArg Int32.toInt q) (show ¬ c.toInt = 894 by omega) : ¬ c = (894 : Int32)), if_neg (fun q => absurd (Int32.lt_iff_toInt_lt.mp q) (show ¬ c.toInt < 8192 by omega) : ¬ c < (8192 : Int32)), if_pos (Int32.lt_iff_toInt_lt.mpr (show 8203 < c.toInt by omega) : (8203 : Int32) < c), own_f4_98, if_neg (fun q => absurd (Int32.lt_iff_toInt_lt.mp q) (show ¬ c.toInt < 8206 by omega) : ¬ c < (8206 : Int32)), if_pos (Int32.lt_iff_toInt_lt.mpr (show 8303 < c.toInt by omega) : (8303 : Int32) < c), own_f4_112, if_pos (Int32.lt_iff_toInt_lt.mpr (show c.toInt < 8592 by omega) : c < (8592 : Int32)), own_f4_126, if_pos (Int32.lt_iff_toInt_lt.mpr (show c.toInt < 12272 by omega) : c < (12272 : Int32)), own_f4_140, if_pos (Int32.lt_iff_toInt_lt.mpr (show c.toInt < 55296 by omega) : c < (55296 : Int32)), own_f4_152, if_pos (Int32.lt_iff_toInt_lt.mpr (show c.toInt < 64976 by omega) : c < (64976 : Int32)), own_f4_164, if_neg (fun q => absurd (congrArg Int32.toInt q) (show ¬ c.toInt = 65534 by omega) : ¬ c = (65534 : Int32)), if_neg (fun q => absurd (congrArg Int32.toInt q) (show ¬ c.toInt = 65535 by omega) : ¬ c = (65535 : Int32)), own_f4_181]
    try rfl
  by_cases g33 : c.toInt < 8591
  · rw [own_F1, if_neg (fun q => absurd (Int32.lt_iff_toInt_lt.mp q) (show ¬ c.toInt < 128 by omega) : ¬ c < (128 : Int32)), if_neg (fun q => absurd (Int32.lt_iff_toInt_lt.mp q) (show ¬ c.toInt < 192 by omega) : ¬ c < (192 : Int32)), if_pos (Int32.lt_iff_toInt_lt.mpr (show 214 < c.toInt by omega) : (214 : Int32) < c), own_f1_37, if_neg (fun q => absurd (Int32.lt_iff_toInt_lt.mp q) (show ¬ c.toInt < 216 by omega) : ¬ c < (216 : Int32)), if_pos (Int32.lt_iff_toInt_lt.mpr (show 246 < c.toInt by omega) : (246 : Int32) < c), own_f1_51, if_neg (fun q => absurd (Int32.lt_iff_toInt_lt.mp q) (show ¬ c.toInt < 248 by omega) : ¬ c < (248 : Int32)), if_pos (Int32.lt_iff_toInt_lt.mpr (show 767 < c.toInt by omega) : (767 : Int32) < c), own_f1_65, if_neg (fun q => absurd (Int32.lt_iff_toInt_lt.mp q) (show ¬ c.toInt < 880 by omega) : ¬ c < (880 : Int32)), if_pos (Int32.lt_iff_toInt_lt.mpr (show 893 < c.toInt by omega) : (893 : Int32) < c), own_f1_79, if_neg (fun q => absurd (Int32.lt_iff_toInt_lt.mp q) (show ¬ c.toInt < 895 by omega) : ¬ c < (895 : Int32)), if_pos (Int32.lt_iff_toInt_lt.mpr (show 8191 < c.toInt by omega) : (8191 : Int32) < c), own_f1_93, if_neg (fun q => absurd (congrArg Int32.toInt q) (show ¬ c.toInt = 8204 by omega) : ¬ c = (8204 : Int32)), if_neg (fun q => absurd (congrArg Int32.toInt q) (show ¬ c.toInt = 8205 by omega) : ¬ c = (8205 : Int32)), if_neg (fun q => absurd (Int32.lt_iff_toInt_lt.mp q) (show ¬ c.toInt < 8304 by omega) : ¬ c < (8304 : Int32)), if_neg (fun q => absurd (Int32.lt_iff_toInt_lt.mp q) (show ¬ 8591 < c.toInt by omega) : ¬ (8591 : Int32) < c), own_f1_184, own_f1_189, own_F4, if_pos (Int32.lt_iff_toInt_lt.mpr (show 57 < c.toInt by omega) : (57 : Int32) < c), if_neg (fun q => absurd (Int32.lt_iff_toInt_lt.mp q) (show ¬ c.toInt < 59 by omega) : ¬ c < (59 : Int32)), if_pos (Int32.lt_iff_toInt_lt.mpr (show 64 < c.toInt by omega) : (64 : Int32) < c), own_f4_18, if_neg (fun q => absurd (Int32.lt_iff_toInt_lt.mp q) (show ¬ c.toInt < 91 by omega) : ¬ c < (91 : Int32)), if_pos (Int32.lt_iff_toInt_lt.mpr (show 94 < c.toInt by omega) : (94 : Int32) < c), own_f4_30, if_neg (fun q => absurd (congrArg Int32.toInt q) (show ¬ c.toInt = 96 by omega) : ¬ c = (96 : Int32)), if_neg (fun q => absurd (Int32.lt_iff_toInt_lt.mp q) (show ¬ c.toInt < 123 by omega) : ¬ c < (123 : Int32)), if_pos (Int32.lt_iff_toInt_lt.mpr (show 191 < c.toInt by omega) : (191 : Int32) < c), own_f4_49, if_neg (fun q => absurd (congrArg Int32.toInt q) (show ¬ c.toInt = 215 by omega) : ¬ c = (215 : Int32)), if_neg (fun q => absurd (congrArg Int32.toInt q) (show ¬ c.toInt = 247 by omega) : ¬ c = (247 : Int32)), if_neg (fun q => absurd (Int32.lt_iff_toInt_lt.mp q) (show ¬ c.toInt < 768 by omega) : ¬ c < (768 : Int32)), if_pos (Int32.lt_iff_toInt_lt.mpr (show 879 < c.toInt by omega) : (879 : Int32) < c), own_f4_77, if_neg (fun q => absurd (congrArg Int32.toInt q) (show ¬ c.toInt = 894 by omega) : ¬ c = (894 : Int32)), if_neg (fun q => absurd (Int32.lt_iff_toInt_lt.mp q) (show ¬ c.toInt < 8192 by omega) : ¬ c < (8192 : Int32)), if_pos (Int32.lt_iff_toInt_lt.mpr (show 8203 < c.toInt by omega) : (8203 : Int32) < c), own_f4_98, if_neg (fun q => absurd (Int32.lt_iff_toInt_lt.mp q) (show ¬ c.toInt < 8206 by omega) : ¬ c < (8206 : Int32)), if_pos (Int32.lt_iff_toInt_lt.mpr (show 8303 < c.toInt by omega) : (8303 : Int32) < c), own_f4_112, if_pos (Int32.lt_iff_toInt_lt.mpr (show c.toInt < 8592 by omega) : c < (8592 : Int32)), own_f4_126, if_pos (Int32.lt_iff_toInt_lt.mpr (show c.toInt < 12272 by omega) : c < (12272 : Int32)), own_f4_140, if_pos (Int32.lt_iff_toInt_lt.mpr (show c.toInt < 55296 by omega) : c < (55296 : Int32)), own_f4_152, if_pos (Int32.lt_iff_toInt_lt.mpr (show c.toInt < 64976 by omega) : c < (64976 : Int32)), own_f4_164, if_neg (fun q => absurd (congrArg Int32.toInt q) (show ¬ c.toInt = 65534 by omega) : ¬ c = (65534 : Int32)), if_neg (fun q => absurd (congrArg Int32.toInt q) (show ¬ c.toInt = 65535 by omega) : ¬ c = (65535 : Int32)), own_f4_181]
    try rfl
  by_cases g34 : c.toInt < 8592
  · rw [own_F1, if_neg (fun q => absurd (Int32.lt_iff_toInt_lt.mp q) (show ¬ c.toInt < 128 by omega) : ¬ c < (128 : Int32)), if_neg (fun q => absurd (Int32.lt_iff_toInt_lt.mp q) (show ¬ c.toInt < 192 by omega) : ¬ c < (192 : Int32)), if_pos (Int32.lt_iff_toInt_lt.mpr (show 214 < c.toInt by omega) : (214 : Int32) < c), own_f1_37, if_neg (fun q => absurd (Int32.lt_iff_toInt_lt.mp q) (show ¬ c.toInt < 216 by omega) : ¬ c < (216 : Int32)), if_pos (Int32.lt_iff_toInt_lt.mpr (show 246 < c.toInt by omega) : (246 : Int32) < c), own_f1_51, if_neg (fun q => absurd (Int32.lt_iff_toInt_lt.mp q) (show ¬ c.toInt < 248 by omega) : ¬ c < (248 : Int32)), if_pos (Int32.lt_iff_toInt_lt.mpr (show 767 < c.toInt by omega) : (767 : Int32) < c), own_f1_65, if_neg (fun q => absurd (Int32.lt_iff_toInt_lt.mp q) (show ¬ c.toInt < 880 by omega) : ¬ c < (880 : Int32)), if_pos (Int32.lt_iff_toInt_lt.mpr (show 893 < c.toInt by omega) : (893 : Int32) < c), own_f1_79, if_neg (fun q => absurd (Int32.lt_iff_toInt_lt.mp q) (show ¬ c.toInt < 895 by omega) : ¬ c < (895 : Int32)), if_pos (Int32.lt_iff_toInt_lt.mpr (show 8191 < c.toInt by omega) : (8191 : Int32) < c), own_f1_93, if_neg (fun q => absurd (congrArg Int32.toInt q) (show ¬ c.toInt = 8204 by omega) : ¬ c = (8204 : Int32)), if_neg (fun q => absurd (congrArg Int32.toInt q) (show ¬ c.toInt = 8205 by omega) : ¬ c = (8205 : Int32)), if_neg (fun q => absurd (Int32.lt_iff_toInt_lt.mp q) (show ¬ c.toInt < 8304 by omega) : ¬ c < (8304 : Int32)), if_neg (fun q => absurd (Int32.lt_iff_toInt_lt.mp q) (show ¬ 8591 < c.toInt by omega) : ¬ (8591 : Int32) < c), own_f1_184, own_f1_189, own_F4, if_pos (Int32.lt_iff_toInt_lt.mpr (show 57 < c.toInt by omega) : (57 : Int32) < c), if_neg (fun q => absurd (Int32.lt_iff_toInt_lt.mp q) (show ¬ c.toInt < 59 by omega) : ¬ c < (59 : Int32)), if_pos (Int32.lt_iff_toInt_lt.mpr (show 64 < c.toInt by omega) : (64 : Int32) < c), own_f4_18, if_neg (fun q => absurd (Int32.lt_iff_toInt_lt.mp q) (show ¬ c.toInt < 91 by omega) : ¬ c < (91 : Int32)), if_pos (Int32.lt_iff_toInt_lt.mpr (show 94 < c.toInt by omega) : (94 : Int32) < c), own_f4_30, if_neg (fun q => absurd (congrArg Int32.toInt q) (show ¬ c.toInt = 96 by omega) : ¬ c = (96 : Int32)), if_neg (fun q => absurd (Int32.lt_iff_toInt_lt.mp q) (show ¬ c.toInt < 123 by omega) : ¬ c < (123 : Int32)), if_pos (Int32.lt_iff_toInt_lt.mpr (show 191 < c.toInt by omega) : (191 : Int32) < c), own_f4_49, if_neg (fun q => absurd (congrArg Int32.toInt q) (show ¬ c.toInt = 215 by omega) : ¬ c = (215 : Int32)), if_neg (fun q => absurd (congrArg Int32.toInt q) (show ¬ c.toInt = 247 by omega) : ¬ c = (247 : Int32)), if_neg (fun q => absurd (Int32.lt_iff_toInt_lt.mp q) (show ¬ c.toInt < 768 by omega) : ¬ c < (768 : Int32)), if_pos (Int32.lt_iff_toInt_lt.mpr (show 879 < c.toInt by omega) : (879 : Int32) < c), own_f4_77, if_neg (fun q => absurd (congrArg Int32.toInt q) (show ¬ c.toInt = 894 by omega) : ¬ c = (894 : Int32)), if_neg (fun q => absurd (Int32.lt_iff_toInt_lt.mp q) (show ¬ c.toInt < 8192 by omega) : ¬ c < (8192 : Int32)), if_pos (Int32.lt_iff_toInt_lt.mpr (show 8203 < c.toInt by omega) : (8203 : Int32) < c), own_f4_98, if_neg (fun q => absurd (Int32.lt_iff_toInt_lt.mp q) (show ¬ c.toInt < 8206 by omega) : ¬ c < (8206 : Int32)), if_pos (Int32.lt_iff_toInt_lt.mpr (show 8303 < c.toInt by omega) : (8303 : Int32) < c), own_f4_112, if_pos (Int32.lt_iff_toInt_lt.mpr (show c.toInt < 8592 by omega) : c < (8592 : Int32)), own_f4_126, if_pos (Int32.lt_iff_toInt_lt.mpr (show c.toInt < 12272 by omega) : c < (12272 : Int32)), own_f4_140, if_pos (Int32.lt_iff_toInt_lt.mpr (show c.toInt < 55296 by omega) : c < (55296 : Int32)), own_f4_152, if_pos (Int32.lt_iff_toInt_lt.mpr (show c.toInt < 64976 by omega) : c < (64976 : Int32)), own_f4_164, if_neg (fun q => absurd (congrArg Int32.toInt q) (show ¬ c.toInt = 65534 by omega) : ¬ c = (65534 : Int32)), if_neg (fun q => absurd (congrArg Int32.toInt q) (show ¬ c.toInt = 65535 by omega) : ¬ c = (65535 : Int32)), own_f4_181]
    try rfl
  by_cases g35 : c.toInt < 8593
  · rw [own_F1, if_neg (fun q => absurd (Int32.lt_iff_toInt_lt.mp q) (show ¬ c.toInt < 128 by omega) : ¬ c < (128 : Int32)), if_neg (fun q => absurd (Int32.lt_iff_toInt_lt.mp q) (show ¬ c.toInt < 192 by omega) : ¬ c < (192 : Int32)), if_pos (Int32.lt_iff_toInt_lt.mpr (show 214 < c.toInt by omega) : (214 : Int32) < c), own_f1_37, if_neg (fun q => absurd (Int32.lt_iff_toInt_lt.mp q) (show ¬ c.toInt < 216 by omega) : ¬ c < (216 : Int32)), if_pos (Int32.lt_iff_toInt_lt.mpr (show 246 < c.toInt by omega) : (246 : Int32) < c), own_f1_51, if_neg (fun q => absurd (Int32.lt_iff_toInt_lt.mp q) (show ¬ c.toInt < 248 by omega) : ¬ c < (248 : Int32)), if_pos (Int32.lt_iff_toInt_lt.mpr (show 767 < c.toInt by omega) : (767 : Int32) < c), own_f1_65, if_neg (fun q => absurd (Int32.lt_iff_toInt_lt.mp q) (show ¬ c.toInt < 880 by omega) : ¬ c < (880 : Int32)), if_pos (Int32.lt_iff_toInt_lt.mpr (show 893 < c.toInt by omega) : (893 : Int32) < c), own_f1_79, if_neg (fun q => absurd (Int32.lt_iff_toInt_lt.mp q) (show ¬ c.toInt < 895 by omega) : ¬ c < (895 : Int32)), if_pos (Int32.lt_iff_toInt_lt.mpr (show 8191 < c.toInt by omega) : (8191 : Int32) < c), own_f1_93, if_neg (fun q => absurd (congrArg Int32.toInt q) (show ¬ c.toInt = 8204 by omega) : ¬ c = (8204 : Int32)), if_neg (fun q => absurd (congrArg Int32.toInt q) (show ¬ c.toInt = 8205 by omega) : ¬ c = (8205 : Int32)), if_neg (fun q => absurd (Int32.lt_iff_toInt_lt.mp q) (show ¬ c.toInt < 8304 by omega) : ¬ c < (8304 : Int32)), if_pos (Int32.lt_iff_toInt_lt.mpr (show 8591 < c.toInt by omega) : (8591 : Int32) < c), own_f1_121, if_pos (Int32.lt_iff_toInt_lt.mpr (show c.toInt < 11264 by omega) : c < (11264 : Int32)), own_f1_135, if_pos (Int32.lt_iff_toInt_lt.mpr (show c.toInt < 12289 by omega) : c < (12289 : Int32)), own_f1_148, if_pos (Int32.lt_iff_toInt_lt.mpr (show c.toInt < 63744 by omega) : c < (63744 : Int32)), own_f1_160, if_pos (Int32.lt_iff_toInt_lt.mpr (show c.toInt < 65008 by omega) : c < (65008 : Int32)), own_f1_172, if_pos (Int32.lt_iff_toInt_lt.mpr (show c.toInt < 65536 by omega) : c < (65536 : Int32)), own_f1_188, own_f1_189, own_F4, if_pos (Int32.lt_iff_toInt_lt.mpr (show 57 < c.toInt by omega) : (57 : Int32) < c), if_neg (fun q => absurd (Int32.lt_iff_toInt_lt.mp q) (show ¬ c.toInt < 59 by omega) : ¬ c < (59 : Int32)), if_pos (Int32.lt_iff_toInt_lt.mpr (show 64 < c.toInt by omega) : (64 : Int32) < c), own_f4_18, if_neg (fun q => absurd (Int32.lt_iff_toInt_lt.mp q) (show ¬ c.toInt < 91 by omega) : ¬ c < (91 : Int32)), if_pos (Int32.lt_iff_toInt_lt.mpr (show 94 < c.toInt by omega) : (94 : Int32) < c), own_f4_30, if_neg (fun q => absurd (congrArg Int32.toInt q) (show ¬ c.toInt = 96 by omega) : ¬ c = (96 : Int32)), if_neg (fun q => absurd (Int32.lt_iff_toInt_lt.mp q) (show ¬ c.toInt < 123 by omega) : ¬ c < (123 : Int32)), if_pos (Int32.lt_iff_toInt_lt.mpr (show 191 < c.toInt by omega) : (191 : Int32) < c), own_f4_49, if_neg (fun q => absurd (congrArg Int32.toInt q) (show ¬ c.toInt = 215 by omega) : ¬ c = (215 : Int32)), if_neg (fun q => absurd (congrArg Int32.toInt q) (show ¬ c.toInt = 247 by omega) : ¬ c = (247 : Int32)), if_neg (fun q => absurd (Int32.lt_iff_toInt_lt.mp q) (show ¬ c.toInt < 768 by omega) : ¬ c < (768 : Int32)), if_pos (Int32.lt_iff_toInt_lt.mpr (show 879 < c.toInt by omega) : (879 : Int32) < c), own_f4_77, if_neg (fun q => absurd (congrArg Int32.toInt q) (show ¬ c.toInt = 894 by omega) : ¬ c = (894 : Int32)), if_neg (fun q => absurd (Int32.lt_iff_toInt_lt.mp q) (show ¬ c.toInt < 8192 by omega) : ¬ c < (8192 : Int32)), if_pos (Int32.lt_iff_toInt_lt.mpr (show 8203 < c.toInt by omega) : (8203 : Int32) < c), own_f4_98, if_neg (fun q => absurd (Int32.lt_iff_toInt_lt.mp q) (show ¬ c.toInt < 8206 by omega) : ¬ c < (8206 : Int32)), if_pos (Int32.lt_iff_toInt_lt.mpr (show 8303 < c.toInt by omega) : (8303 : Int32) < c), own_f4_112, if_neg (fun q => absurd (Int32.lt_iff_toInt_lt.mp q) (show ¬ c.toInt < 8592 by omega) : ¬ c < (8592 : Int32)), if_neg (fun q => absurd (Int32.lt_iff_toInt_lt.mp q) (show ¬ 11263 < c.toInt by omega) : ¬ (11263 : Int32) < c), own_f4_176, own_f4_181]
    try rfl
  by_cases g36 : c.toInt < 11263
  · rw [own_F1, if_neg (fun q => absurd (Int32.lt_iff_toInt_lt.mp q) (show ¬ c.toInt < 128 by omega) : ¬ c < (128 : Int32)), if_neg (fun q => absurd (Int32.lt_iff_toInt_lt.mp q) (show ¬ c.toInt < 192 by omega) : ¬ c < (192 : Int32)), if_pos (Int32.lt_iff_toInt_lt.mpr (show 214 < c.toInt by omega) : (214 : Int32) < c), own_f1_37, if_neg (fun q => absurd (Int32.lt_iff_toInt_lt.mp q) (show ¬ c.toInt < 216 by omega) : ¬ c < (216 : Int32)), if_pos (Int32.lt_iff_toInt_lt.mpr (show 246 < c.toInt by omega) : (246 : Int32) < c), own_f1_51, if_neg (fun q => absurd (Int32.lt_iff_toInt_lt.mp q) (show ¬ c.toInt < 248 by omega) : ¬ c < (248 : Int32)), if_pos (Int32.lt_iff_toInt_lt.mpr (show 767 < c.toInt by omega) : (767 : Int32) < c), own_f1_65, if_neg (fun q => absurd (Int32.lt_iff_toInt_lt.mp q) (show ¬ c.toInt < 880 by omega) : ¬ c < (880 : Int32)), if_pos (Int32.lt_iff_toInt_lt.mpr (show 893 < c.toInt by omega) : (893 : Int32) < c), own_f1_79, if_neg (fun q => absurd (Int32.lt_iff_toInt_lt.mp q) (show ¬ c.toInt < 895 by omega) : ¬ c < (895 : Int32)), if_pos (Int32.lt_iff_toInt_lt.mpr (show 8191 < c.toInt by omega) : (8191 : Int32) < c), own_f1_93, if_neg (fun q => absurd (congrArg Int32.toInt q) (show ¬ c.toInt = 8204 by omega) : ¬ c = (8204 : Int32)), if_neg (fun q => absurd (congrArg Int32.toInt q) (show ¬ c.toInt = 8205 by omega) : ¬ c = (8205 : Int32)), if_neg (fun q => absurd (Int32.lt_iff_toInt_lt.mp q) (show ¬ c.toInt < 8304 by omega) : ¬ c < (8304 : Int32)), if_pos (Int32.lt_iff_toInt_lt.mpr (show 8591 < c.toInt by omega) : (8591 : Int32) < c), own_f1_121, if_pos (Int32.lt_iff_toInt_lt.mpr (show c.toInt < 11264 by omega) : c < (11264 : Int32)), own_f1_135, if_pos (Int32.lt_iff_toInt_lt.mpr (show c.toInt < 12289 by omega) : c < (12289 : Int32)), own_f1_148, if_pos (Int32.lt_iff_toInt_lt.mpr (show c.toInt < 63744 by omega) : c < (63744 : Int32)), own_f1_160, if_pos (Int32.lt_iff_toInt_lt.mpr (show c.toInt < 65008 by omega) : c < (65008 : Int32)), own_f1_172, if_pos (Int32.lt_iff_toInt_lt.mpr (show c.toInt < 65536 by omega) : c < (65536 : Int32)), own_f1_188, own_f1_189, own_F4, if_pos (Int32.lt_iff_toInt_lt.mpr (show 57 < c.toInt by omega) : (57 : Int32) < c), if_neg (fun q => absurd (Int32.lt_iff_toInt_lt.mp q) (show ¬ c.toInt < 59 by omega) : ¬ c < (59 : Int32)), if_pos (Int32.lt_iff_toInt_lt.mpr (show 64 < c.toInt by omega) : (64 : Int32) < c), own_f4_18, if_neg (fun q => absurd (Int32.lt_iff_toInt_lt.mp q) (show ¬ c.toInt < 91 by omega) : ¬ c < (91 : Int32)), if_pos (Int32.lt_iff_toInt_lt.mpr (show 94 < c.toInt by omega) : (94 : Int32) < c), own_f4_30, if_neg (fun q => absurd (congrArg Int32.toInt q) (show ¬ c.toInt = 96 by omega) : ¬ c = (96 : Int32)), if_neg (fun q => absurd (Int32.lt_iff_toInt_lt.mp q) (show ¬ c.toInt < 123 by omega) : ¬ c < (123 : Int32)), if_pos (Int32.lt_iff_toInt_lt.mpr (show 191 < c.toInt by omega) : (191 : Int32) < c), own_f4_49, if_neg (fun q => absurd (congrArg Int32.toInt q) (show ¬ c.toInt = 215 by omega) : ¬ c = (215 : Int32)), if_neg (fun q => absurd (congrArg Int32.toInt q) (show ¬ c.toInt = 247 by omega) : ¬ c = (247 : Int32)), if_neg (fun q => absurd (Int32.lt_iff_toInt_lt.mp q) (show ¬ c.toInt < 768 by omega) : ¬ c < (768 : Int32)), if_pos (Int32.lt_iff_toInt_lt.mpr (show 879 < c.toInt by omega) : (879 : Int32) < c), own_f4_77, if_neg (fun q => absurd (congrArg Int32.toInt q) (show ¬ c.toInt = 894 by omega) : ¬ c = (894 : Int32)), if_neg (fun q => absurd (Int32.lt_iff_toInt_lt.mp q) (show ¬ c.toInt < 8192 by omega) : ¬ c < (8192 : Int32)), if_pos (Int32.lt_iff_toInt_lt.mpr (show 8203 < c.toInt by omega) : (8203 : Int32) < c), own_f4_98, if_neg (fun q => absurd (Int32.lt_iff_toInt_lt.mp q) (show ¬ c.toInt < 8206 by omega) : ¬ c < (8206 : Int32)), if_pos (Int32.lt_iff_toInt_lt.mpr (show 8303 < c.toInt by omega) : (8303 : Int32) < c), own_f4_112, if_neg (fun q => absurd (Int32.lt_iff_toInt_lt.mp q) (show ¬ c.toInt < 8592 by omega) : ¬ c < (8592 : Int32)), if_neg (fun q => absurd (Int32.lt_iff_toInt_lt.mp q) (show ¬ 11263 < c.toInt by omega) : ¬ (11263 : Int32) < c), own_f4_176, own_f4_181]
    try rfl
  by_cases g37 : c.toInt < 11264
  · rw [own_F1, if_neg (fun q => absurd (Int32.lt_iff_toInt_lt.mp q) (show ¬ c.toInt < 128 by omega) : ¬ c < (128 : Int32)), if_neg (fun q => absurd (Int32.lt_iff_toInt_lt.mp q) (show ¬ c.toInt < 192 by omega) : ¬ c < (192 : Int32)), if_pos (Int32.lt_iff_toInt_lt.mpr (show 214 < c.toInt by omega) : (214 : Int32) < c), own_f1_37, if_neg (fun q => absurd (Int32.lt_iff_toInt_lt.mp q) (show ¬ c.toInt < 216 by omega) : ¬ c < (216 : Int32)), if_pos (Int32.lt_iff_toInt_lt.mpr (show 246 < c.toInt by omega) : (246 : Int32) < c), own_f1_51, if_neg (fun q => absurd (Int32.lt_iff_toInt_lt.mp q) (show ¬ c.toInt < 248 by omega) : ¬ c < (248 : Int32)), if_pos (Int32.lt_iff_toInt_lt.mpr (show 767 < c.toInt by omega) : (767 : Int32) < c), own_f1_65, if_neg (fun q => absurd (Int32.lt_iff_toInt_lt.mp q) (show ¬ c.toInt < 880 by omega) : ¬ c < (880 : Int32)), if_pos (Int32.lt_iff_toInt_lt.mpr (show 893 < c.toInt by omega) : (893 : Int32) < c), own_f1_79, if_neg (fun q => absurd (Int32.lt_iff_toInt_lt.mp q) (show ¬ c.toInt < 895 by omega) : ¬ c < (895 : Int32)), if_pos (Int32.lt_iff_toInt_lt.mpr (show 8191 < c.toInt by omega) : (8191 : Int32) < c), own_f1_93, if_neg (fun q => absurd (congrArg Int32.toInt q) (show ¬ c.toInt = 8204 by omega) : ¬ c = (8204 : Int32)), if_neg (fun q => absurd (congrArg Int32.toInt q) (show ¬ c.toInt = 8205 by omega) : ¬ c = (8205 : Int32)), if_neg (fun q => absurd (Int32.lt_iff_toInt_lt.mp q) (show ¬ c.toInt < 8304 by omega) : ¬ c < (8304 : Int32)), if_pos (Int32.lt_iff_toInt_lt.mpr (show 8591 < c.toInt by omega) : (8591 : Int32) < c), own_f1_121, if_pos (Int32.lt_iff_toInt_lt.mpr (show c.toInt < 11264 by omega) : c < (11264 : Int32)), own_f1_135, if_pos (Int32.lt_iff_toInt_lt.mpr (show c.toInt < 12289 by omega) : c < (12289 : Int32)), own_f1_148, if_pos (Int32.lt_iff_toInt_lt.mpr (show c.toInt < 63744 by omega) : c < (63744 : Int32)), own_f1_160, if_pos (Int32.lt_iff_toInt_lt.mpr (show c.toInt < 65008 by omega) : c < (65008 : Int32)), own_f1_172, if_pos (Int32.lt_iff_toInt_lt.mpr (show c.toInt < 65536 by omega) : c < (65536 : Int32)), own_f1_188, own_f1_189, own_F4, if_pos (Int32.lt_iff_toInt_lt.mpr (show 57 < c.toInt by omega) : (57 : Int32) < c), if_neg (fun q => absurd (Int32.lt_iff_toInt_lt.mp q) (show ¬ c.toInt < 59 by omega) : ¬ c < (59 : Int32)), if_pos (Int32.lt_iff_toInt_lt.mpr (show 64 < c.toInt by omega) : (64 : Int32) < c), own_f4_18, if_neg (fun q => absurd (Int32.lt_iff_toInt_lt.mp q) (show ¬ c.toInt < 91 by omega) : ¬ c < (91 : Int32)), if_pos (Int32.lt_iff_toInt_lt.mpr (show 94 < c.toInt by omega) : (94 : Int32) < c), own_f4_30, if_neg (fun q => absurd (congrArg Int32.toInt q) (show ¬ c.toInt = 96 by omega) : ¬ c = (96 : Int32)), if_neg (fun q => absurd (Int32.lt_iff_toInt_lt.mp q) (show ¬ c.toInt < 123 by omega) : ¬ c < (123 : Int32)), if_pos (Int32.lt_iff_toInt_lt.mpr (show 191 < c.toInt by omega) : (191 : Int32) < c), own_f4_49, if_neg (fun q => absurd (congrArg Int32.toInt q) (show ¬ c.toInt = 215 by omega) : ¬ c = (215 : Int32)), if_neg (fun q => absurd (congrArg Int32.toInt q) (show ¬ c.toInt = 247 by omega) : ¬ c = (247 : Int32)), if_neg (fun q => absurd (Int32.lt_iff_toInt_lt.mp q) (show ¬ c.toInt < 768 by omega) : ¬ c < (768 : Int32)), if_pos (Int32.lt_iff_toInt_lt.mpr (show 879 < c.toInt by omega) : (879 : Int32) < c), own_f4_77, if_neg (fun q => absurd (congrArg Int32.toInt q) (show ¬ c.toInt = 894 by omega) : ¬ c = (894 : Int32)), if_neg (fun q => absurd (Int32.lt_iff_toInt_lt.mp q) (show ¬ c.toInt < 8192 by omega) : ¬ c < (8192 : Int32)), if_pos (Int32.lt_iff_toInt_lt.mpr (show 8203 < c.toInt by omega) : (8203 : Int32) < c), own_f4_98, if_neg (fun q => absurd (Int32.lt_iff_toInt_lt.mp q) (show ¬ c.toInt < 8206 by omega) : ¬ c < (8206 : Int32)), if_pos (Int32.lt_iff_toInt_lt.mpr (show 8303 < c.toInt by omega) : (8303 : Int32) < c), own_f4_112, if_neg (fun q => absurd (Int32.lt_iff_toInt_lt.mp q) (show ¬ c.toInt < 8592 by omega) : ¬ c < (8592 : Int32)), if_neg (fun q => absurd (Int32.lt_iff_toInt_lt.mp q) (show ¬ 11263 < c.toInt by omega) : ¬ (11263 : Int32) < c), own_f4_176, own_f4_181]
    try rfl
  by_cases g38 : c.toInt < 11265
  · rw [own_F1, if_neg (fun q => absurd (Int32.lt_iff_toInt_lt.mp q) (show ¬ c.toInt < 128 by omega) : ¬ c < (128 : Int32)), if_neg (fun q => absurd (Int32.lt_iff_toInt_lt.mp q) (show ¬ c.toInt < 192 by omega) : ¬ c < (192 : Int32)), if_pos (Int32.lt_iff_toInt_lt.mpr (show 214 < c.toInt by omega) : (214 : Int32) < c), own_f1_37, if_neg (fun q => absurd (Int32.lt_iff_toInt_lt.mp q) (show ¬ c.toInt < 216 by omega) : ¬ c < (216 : Int32)), if_pos (Int32.lt_iff_toInt_lt.mpr (show 246 < c.toInt by omega) : (246 : Int32) < c), own_f1_51, if_neg (fun q => absurd (Int32.lt_iff_toInt_lt.mp q) (show ¬ c.toInt < 248 by omega) : ¬ c < (248 : Int32)), if_pos (Int32.lt_iff_toInt_lt.mpr (show 767 < c.toInt by omega) : (767 : Int32) < c), own_f1_65, if_neg (fun q => absurd (Int32.lt_iff_toInt_lt.mp q) (show ¬ c.toInt < 880 by omega) : ¬ c < (880 : Int32)), if_pos (Int32.lt_iff_toInt_lt.mpr (show 893 < c.toInt by omega) : (893 : Int32) < c), own_f1_79, if_neg (fun q => absurd (Int32.lt_iff_toInt_lt.mp q) (show ¬ c.toInt < 895 by omega) : ¬ c < (895 : Int32)), if_pos (Int32.lt_iff_toInt_lt.mpr (show 8191 < c.toInt by omega) : (8191 : Int32) < c), own_f1_93, if_neg (fun q => absurd (congrArg Int32.toInt q) (show ¬ c.toInt = 8204 by omega) : ¬ c = (8204 : Int32)), if_neg (fun q => absurd (congrArg Int32.toInt q) (show ¬ c.toInt = 8205 by omega) : ¬ c = (8205 : Int32)), if_neg (fun q => absurd (Int32.lt_iff_toInt_lt.mp q) (show ¬ c.toInt < 8304 by omega) : ¬ c < (8304 : Int32)), if_pos (Int32.lt_iff_toInt_lt.mpr (show 8591 < c.toInt by omega) : (8591 : Int32) < c), own_f1_121, if_neg (fun q => absurd (Int32.lt_iff_toInt_lt.mp q) (show ¬ c.toInt < 11264 by omega) : ¬ c < (11264 : Int32)), if_neg (fun q => absurd (Int32.lt_iff_toInt_lt.mp q) (show ¬ 12271 < c.toInt by omega) : ¬ (12271 : Int32) < c), own_f1_184, own_f1_189, own_F4, if_pos (Int32.lt_iff_toInt_lt.mpr (show 57 < c.toInt by omega) : (57 : Int32) < c), if_neg (fun q => absurd (Int32.lt_iff_toInt_lt.mp q) (show ¬ c.toInt < 59 by omega) : ¬ c < (59 : Int32)), if_pos (Int32.lt_iff_toInt_lt.mpr (show 64 < c.toInt by omega) : (64 : Int32) < c), own_f4_18, if_neg (fun q => absurd (Int32.lt_iff_toInt_lt.mp q) (show ¬ c.toInt < 91 by omega) : ¬ c < (91 : Int32)), if_pos (Int32.lt_iff_toInt_lt.mpr (show 94 < c.toInt by omega) : (94 : Int32) < c), own_f4_30, if_neg (fun q => absurd (congrArg Int32.toInt q) (show ¬ c.toInt = 96 by omega) : ¬ c = (96 : Int32)), if_neg (fun q => absurd (Int32.lt_iff_toInt_lt.mp q) (show ¬ c.toInt < 123 by omega) : ¬ c < (123 : Int32)), if_pos (Int32.lt_iff_toInt_lt.mpr (show 191 < c.toInt by omega) : (191 : Int32) < c), own_f4_49, if_neg (fun q => absurd (congrArg Int32.toInt q) (show ¬ c.toInt = 215 by omega) : ¬ c = (215 : Int32)), if_neg (fun q => absurd (congrArg Int32.toInt q) (show ¬ c.toInt = 247 by omega) : ¬ c = (247 : Int32)), if_neg (fun q => absurd (Int32.lt_iff_toInt_lt.mp q) (show ¬ c.toInt < 768 by omega) : ¬ c < (768 : Int32)), if_pos (Int32.lt_iff_toInt_lt.mpr (show 879 < c.toInt by omega) : (879 : Int32) < c), own_f4_77, if_neg (fun q => absurd (congrArg Int32.toInt q) (show ¬ c.toInt = 894 by omega) : ¬ c = (894 : Int32)), if_neg (fun q => absurd (Int32.lt_iff_toInt_lt.mp q) (show ¬ c.toInt < 8192 by omega) : ¬ c < (8192 : Int32)), if_pos (Int32.lt_iff_toInt_lt.mpr (show 8203 < c.toInt by omega) : (8203 : Int32) < c), own_f4_98, if_neg (fun q => absurd (Int32.lt_iff_toInt_lt.mp q) (show ¬ c.toInt < 8206 by omega) : ¬ c < (8206 : Int32)), if_pos (Int32.lt_iff_toInt_lt.mpr (show 8303 < c.toInt by omega) : (8303 : Int32) < c), own_f4_112, if_neg (fun q => absurd (Int32.lt_iff_toInt_lt.mp q) (show ¬ c.toInt < 8592 by omega) : ¬ c < (8592 : Int32)), if_pos (Int32.lt_iff_toInt_lt.mpr (show 11263 < c.toInt by omega) : (11263 : Int32) < c), own_f4_126, if_pos (Int32.lt_iff_toInt_lt.mpr (show c.toInt < 12272 by omega) : c < (12272 : Int32)), own_f4_140, if_pos (Int32.lt_iff_toInt_lt.mpr (show c.toInt < 55296 by omega) : c < (55296 : Int32)), own_f4_152, if_pos (Int32.lt_iff_toInt_lt.mpr (show c.toInt < 64976 by omega) : c < (64976 : Int32)), own_f4_164, if_neg (fun q => absurd (congrArg Int32.toInt q) (show ¬ c.toInt = 65534 by omega) : ¬ c = (65534 : Int32)), if_neg (fun q => absurd (congrArg Int32.toInt q) (show ¬ c.toInt = 65535 by omega) : ¬ c = (65535 : Int32)), own_f4_181]
    try rfl
  by_cases g39 : c.toInt < 12271
  · rw [own_F1, if_neg (fun q => absurd (Int32.lt_iff_toInt_lt.mp q) (show ¬ c.toInt < 128 by omega) : ¬ c < (128 : Int32)), if_neg (fun q => absurd (Int32.lt_iff_toInt_lt.mp q) (show ¬ c.toInt < 192 by omega) : ¬ c < (192 : Int32)), if_pos (Int32.lt_iff_toInt_lt.mpr (show 214 < c.toInt by omega) : (214 : Int32) < c), own_f1_37, if_neg (fun q => absurd (Int32.lt_iff_toInt_lt.mp q) (show ¬ c.toInt < 216 by omega) : ¬ c < (216 : Int32)), if_pos (Int32.lt_iff_toInt_lt.mpr (show 246 < c.toInt by omega) : (246 : Int32) < c), own_f1_51, if_neg (fun q => absurd (Int32.lt_iff_toInt_lt.mp q) (show ¬ c.toInt < 248 by omega) : ¬ c < (248 : Int32)), if_pos (Int32.lt_iff_toInt_lt.mpr (show 767 < c.toInt by omega) : (767 : Int32) < c), own_f1_65, if_neg (fun q => absurd (Int32.lt_iff_toInt_lt.mp q) (show ¬ c.toInt < 880 by omega) : ¬ c < (880 : Int32)), if_pos (Int32.lt_iff_toInt_lt.mpr (show 893 < c.toInt by omega) : (893 : Int32) < c), own_f1_79, if_neg (fun q => absurd (Int32.lt_iff_toInt_lt.mp q) (show ¬ c.toInt < 895 by omega) : ¬ c < (895 : Int32)), if_pos (Int32.lt_iff_toInt_lt.mpr (show 8191 < c.toInt by omega) : (8191 : Int32) < c), own_f1_93, if_neg (fun q => absurd (congrArg Int32.toInt q) (show ¬ c.toInt = 8204 by omega) : ¬ c = (8204 : Int32)), if_neg (fun q => absurd (congrArg Int32.toInt q) (show ¬ c.toInt = 8205 by omega) : ¬ c = (8205 : Int32)), if_neg (fun q => absurd (Int32.lt_iff_toInt_lt.mp q) (show ¬ c.toInt < 8304 by omega) : ¬ c < (8304 : Int32)), if_pos (Int32.lt_iff_toInt_lt.mpr (show 8591 < c.toInt by omega) : (8591 : Int32) < c), own_f1_121, if_neg (fun q => absurd (Int32.lt_iff_toInt_lt.mp q) (show ¬ c.toInt < 11264 by omega) : ¬ c < (11264 : Int32)), if_neg (fun q => absurd (Int32.lt_iff_toInt_lt.mp q) (show ¬ 12271 < c.toInt by omega) : ¬ (12271 : Int32) < c), own_f1_184, own_f1_189, own_F4, if_pos (Int32.lt_iff_toInt_lt.mpr (show 57 < c.toInt by omega) : (57 : Int32) < c), if_neg (fun q => absurd (Int32.lt_iff_toInt_lt.mp q) (show ¬ c.toInt < 59 by omega) : ¬ c < (59 : Int32)), if_pos (Int32.lt_iff_toInt_lt.mpr (show 64 < c.toInt by omega) : (64 : Int32) < c), own_f4_18, if_neg (fun q => absurd (Int32.lt_iff_toInt_lt.mp q) (show ¬ c.toInt < 91 by omega) : ¬ c < (91 : Int32)), if_pos (Int32.lt_iff_toInt_lt.mpr (show 94 < c.toInt by omega) : (94 : Int32) < c), own_f4_30, if_neg (fun q => absurd (congrArg Int32.toInt q) (show ¬ c.toInt = 96 by omega) : ¬ c = (96 : Int32)), if_neg (fun q => absurd (Int32.lt_iff_toInt_lt.mp q) (show ¬ c.toInt < 123 by omega) : ¬ c < (123 : Int32)), if_pos (Int32.lt_iff_toInt_lt.mpr (show 191 < c.toInt by omega) : (191 : Int32) < c), own_f4_49, if_neg (fun q => absurd (congrArg Int32.toInt q) (show ¬ c.toInt = 215 by omega) : ¬ c = (215 : Int32)), if_neg (fun q => absurd (congrArg Int32.toInt q) (show ¬ c.toInt = 247 by omega) : ¬ c = (247 : Int32)), if_neg (fun q => absurd (Int32.lt_iff_toInt_lt.mp q) (show ¬ c.toInt < 768 by omega) : ¬ c < (768 : Int32)), if_pos (Int32.lt_iff_toInt_lt.mpr (show 879 < c.toInt by omega) : (879 : Int32) < c), own_f4_77, if_neg (fun q => absurd (congrArg Int32.toInt q) (show ¬ c.toInt = 894 by omega) : ¬ c = (894 : Int32)), if_neg (fun q => absurd (Int32.lt_iff_toInt_lt.mp q) (show ¬ c.toInt < 8192 by omega) : ¬ c < (8192 : Int32)), if_pos (Int32.lt_iff_toInt_lt.mpr (show 8203 < c.toInt by omega) : (8203 : Int32) < c), own_f4_98, if_neg (fun q => absurd (Int32.lt_iff_toInt_lt.mp q) (show ¬ c.toInt < 8206 by omega) : ¬ c < (8206 : Int32)), if_pos (Int32.lt_iff_toInt_lt.mpr (show 8303 < c.toInt by omega) : (8303 : Int32) < c), own_f4_112, if_neg (fun q => absurd (Int32.lt_iff_toInt_lt.mp q) (show ¬ c.toInt < 8592 by omega) : ¬ c < (8592 : Int32)), if_pos (Int32.lt_iff_toInt_lt.mpr (show 11263 < c.toInt by omega) : (11263 : Int32) < c), own_f4_126, if_pos (Int32.lt_iff_toInt_lt.mpr (show c.toInt < 12272 by omega) : c < (12272 : Int32)), own_f4_140, if_pos (Int32.lt_iff_toInt_lt.mpr (show c.toInt < 55296 by omega) : c < (55296 : Int32)), own_f4_152, if_pos (Int32.lt_iff_toInt_lt.mpr (show c.toInt < 64976 by omega) : c < (64976 : Int32)), own_f4_164, if_neg (fun q => absurd (congrArg Int32.toInt q) (show ¬ c.toInt = 65534 by omega) : ¬ c = (65534 : Int32)), if_neg (fun q => absurd (congrArg Int32.toInt q) (show ¬ c.toInt = 65535 by omega) : ¬ c = (65535 : Int32)), own_f4_181]
    try rfl
  by_cases g40 : c.toInt < 12272
  · rw [own_F1, if_neg (fun q => absurd (Int32.lt_iff_toInt_lt.mp q) (show ¬ c.toInt < 128 by omega) : ¬ c < (128 : Int32)), if_neg (fun q => absurd (Int32.lt_iff_toInt_lt.mp q) (show ¬ c.toInt < 192 by omega) : ¬ c < (192 : Int32)), if_pos (Int32.lt_iff_toInt_lt.mpr (show 214 < c.toInt by omega) : (214 : Int32) < c), own_f1_37, if_neg (fun q => absurd (Int32.lt_iff_toInt_lt.mp q) (show ¬ c.toInt < 216 by omega) : ¬ c < (216 : Int32)), if_pos (Int32.lt_iff_toInt_lt.mpr (show 246 < c.toInt by omega) : (246 : Int32) < c), own_f1_51, if_neg (fun q => absurd (Int32.lt_iff_toInt_lt.mp q) (show ¬ c.toInt < 248 by omega) : ¬ c < (248 : Int32)), if_pos (Int32.lt_iff_toInt_lt.mpr (show 767 < c.toInt by omega) : (767 : Int32) < c), own_f1_65, if_neg (fun q => absurd (Int32.lt_iff_toInt_lt.mp q) (show ¬ c.toInt < 880 by omega) : ¬ c < (880 : Int32)), if_pos (Int32.lt_iff_toInt_lt.mpr (show 893 < c.toInt by omega) : (893 : Int32) < c), own_f1_79, if_neg (fun q => absurd (Int32.lt_iff_toInt_lt.mp q) (show ¬ c.toInt < 895 by omega) : ¬ c < (895 : Int32)), if_pos (Int32.lt_iff_toInt_lt.mpr (show 8191 < c.toInt by omega) : (8191 : Int32) < c), own_f1_93, if_neg (fun q => absurd (congrArg Int32.toInt q) (show ¬ c.toInt = 8204 by omega) : ¬ c = (8204 : Int32)), if_neg (fun q => absurd (congrArg Int32.toInt q) (show ¬ c.toInt = 8205 by omega) : ¬ c = (8205 : Int32)), if_neg (fun q => absurd (Int32.lt_iff_toInt_lt.mp q) (show ¬ c.toInt < 8304 by omega) : ¬ c < (8304 : Int32)), if_pos (Int32.lt_iff_toInt_lt.mpr (show 8591 < c.toInt by omega) : (8591 : Int32) < c), own_f1_121, if_neg (fun q => absurd (Int32.lt_iff_toInt_lt.mp q) (show ¬ c.toInt < 11264 by omega) : ¬ c < (11264 : Int32)), if_neg (fun q => absurd (Int32.lt_iff_toInt_lt.mp q) (show ¬ 12271 < c.toInt by omega) : ¬ (12271 : Int32) < c), own_f1_184, own_f1_189, own_F4, if_pos (Int32.lt_iff_toInt_lt.mpr (show 57 < c.toInt by omega) : (57 : Int32) < c), if_neg (fun q => absurd (Int32.lt_iff_toInt_lt.mp q) (show ¬ c.toInt < 59 by omega) : ¬ c < (59 : Int32)), if_pos (Int32.lt_iff_toInt_lt.mpr (show 64 < c.toInt by omega) : (64 : Int32) < c), own_f4_18, if_neg (fun q => absurd (Int32.lt_iff_toInt_lt.mp q) (show ¬ c.toInt < 91 by omega) : ¬ c < (91 : Int32)), if_pos (Int32.lt_iff_toInt_lt.mpr (show 94 < c.toInt by omega) : (94 : Int32) < c), own_f4_30, if_neg (fun q => absurd (congrArg Int32.toInt q) (show ¬ c.toInt = 96 by omega) : ¬ c = (96 : Int32)), if_neg (fun q => absurd (Int32.lt_iff_toInt_lt.mp q) (show ¬ c.toInt < 123 by omega) : ¬ c < (123 : Int32)), if_pos (Int32.lt_iff_toInt_lt.mpr (show 191 < c.toInt by omega) : (191 : Int32) < c), own_f4_49, if_neg (fun q => absurd (congrArg Int32.toInt q) (show ¬ c.toInt = 215 by omega) : ¬ c = (215 : Int32)), if_neg (fun q => absurd (congrArg Int32.toInt q) (show ¬ c.toInt = 247 by omega) : ¬ c = (247 : Int32)), if_neg (fun q => absurd (Int32.lt_iff_toInt_lt.mp q) (show ¬ c.toInt < 768 by omega) : ¬ c < (768 : Int32)), if_pos (Int32.lt_iff_toInt_lt.mpr (show 879 < c.toInt by omega) : (879 : Int32) < c), own_f4_77, if_neg (fun q => absurd (congrArg Int32.toInt q) (show ¬ c.toInt = 894 by omega) : ¬ c = (894 : Int32)), if_neg (fun q => absurd (Int32.lt_iff_toInt_lt.mp q) (show ¬ c.toInt < 8192 by omega) : ¬ c < (8192 : Int32)), if_pos (Int32.lt_iff_toInt_lt.mpr (show 8203 < c.toInt by omega) : (8203 : Int32) < c), own_f4_98, if_neg (fun q => absurd (Int32.lt_iff_toInt_lt.mp q) (show ¬ c.toInt < 8206 by omega) : ¬ c < (8206 : Int32)), if_pos (Int32.lt_iff_toInt_lt.mpr (show 8303 < c.toInt by omega) : (8303 : Int32) < c), own_f4_112, if_neg (fun q => absurd (Int32.lt_iff_toInt_lt.mp q) (show ¬ c.toInt < 8592 by omega) : ¬ c < (8592 : Int32)), if_pos (Int32.lt_iff_toInt_lt.mpr (show 11263 < c.toInt by omega) : (11263 : Int32) < c), own_f4_126, if_pos (Int32.lt_iff_toInt_lt.mpr (show c.toInt < 12272 by omega) : c < (12272 : Int32)), own_f4_140, if_pos (Int32.lt_iff_toInt_lt.mpr (show c.toInt < 55296 by omega) : c < (55296 : Int32)), own_f4_152, if_pos (Int32.lt_iff_toInt_lt.mpr (show c.toInt < 64976 by omega) : c < (64976 : Int32)), own_f4_164, if_neg (fun q => absurd (congrArg Int32.toInt q) (show ¬ c.toInt = 65534 by omega) : ¬ c = (65534 : Int32)), if_neg (fun q => absurd (congrArg Int32.toInt q) (show ¬ c.toInt = 65535 by omega) : ¬ c = (65535 : Int32)), own_f4_181]
    try rfl
  by_cases g41 : c.toInt < 12273
  · rw [own_F1, if_neg (fun q => absurd (Int32.lt_iff_toInt_lt.mp q) (show ¬ c.toInt < 128 by omega) : ¬ c < (128 : Int32)), if_neg (fun q => absurd (Int32.lt_iff_toInt_lt.mp q) (show ¬ c.toInt < 192 by omega) : ¬ c < (192 : Int32)), if_pos (Int32.lt_iff_toInt_lt.mpr (show 214 < c.toInt by omega) : (214 : Int32) < c), own_f1_37, if_neg (fun q => absurd (Int32.lt_iff_toInt_lt.mp q) (show ¬ c.toInt < 216 by omega) : ¬ c < (216 : Int32)), if_pos (Int32.lt_iff_toInt_lt.mpr (show 246 < c.toInt by omega) : (246 : Int32) < c), own_f1_51, if_neg (fun q => absurd (Int32.lt_iff_toInt_lt.mp q) (show ¬ c.toInt < 248 by omega) : ¬ c < (248 : Int32)), if_pos (Int32.lt_iff_toInt_lt.mpr (show 767 < c.toInt by omega) : (767 : Int32) < c), own_f1_65, if_neg (fun q => absurd (Int32.lt_iff_toInt_lt.mp q) (show ¬ c.toInt < 880 by omega) : ¬ c < (880 : Int32)), if_pos (Int32.lt_iff_toInt_lt.mpr (show 893 < c.toInt by omega) : (893 : Int32) < c), own_f1_79, if_neg (fun q => absurd (Int32.lt_iff_toInt_lt.mp q) (show ¬ c.toInt < 895 by omega) : ¬ c < (895 : Int32)), if_pos (Int32.lt_iff_toInt_lt.mpr (show 8191 < c.toInt by omega) : (8191 : Int32) < c), own_f1_93, if_neg (fun q => absurd (congrArg Int32.toInt q) (show ¬ c.toInt = 8204 by omega) : ¬ c = (8204 : Int32)), if_neg (fun q => absurd (congrArg Int32.toInt q) (show ¬ c.toInt = 8205 by omega) : ¬ c = (8205 : Int32)), if_neg (fun q => absurd (Int32.lt_iff_toInt_lt.mp q) (show ¬ c.toInt < 8304 by omega) : ¬ c < (8304 : Int32)), if_pos (Int32.lt_iff_toInt_lt.mpr (show 8591 < c.toInt by omega) : (8591 : Int32) < c), own_f1_121, if_neg (fun q => absurd (Int32.lt_iff_toInt_lt.mp q) (show ¬ c.toInt < 11264 by omega) : ¬ c < (11264 : Int32)), if_pos (Int32.lt_iff_toInt_lt.mpr (show 12271 < c.toInt by omega) : (12271 : Int32) < c), own_f1_135, if_pos (Int32.lt_iff_toInt_lt.mpr (show c.toInt < 12289 by omega) : c < (12289 : Int32)), own_f1_148, if_pos (Int32.lt_iff_toInt_lt.mpr (show c.toInt < 63744 by omega) : c < (63744 : Int32)), own_f1_160, if_pos (Int32.lt_iff_toInt_lt.mpr (show c.toInt < 65008 by omega) : c < (65008 : Int32)), own_f1_172, if_pos (Int32.lt_iff_toInt_lt.mpr (show c.toInt < 65536 by omega) : c < (65536 : Int32)), own_f1_188, own_f1_189, own_F4, if_pos (Int32.lt_iff_toInt_lt.mpr (show 57 < c.toInt by omega) : (57 : Int32) < c), if_neg (fun q => absurd (Int32.lt_iff_toInt_lt.mp q) (show ¬ c.toInt < 59 by omega) : ¬ c < (59 : Int32)), if_pos (Int32.lt_iff_toInt_lt.mpr (show 64 < c.toInt by omega) : (64 : Int32) < c), own_f4_18, if_neg (fun q => absurd (Int32.lt_iff_toInt_lt.mp q) (show ¬ c.toInt < 91 by omega) : ¬ c < (91 : Int32)), if_pos (Int32.lt_iff_toInt_lt.mpr (show 94 < c.toInt by omega) : (94 : Int32) < c), own_f4_30, if_neg (fun q => absurd (congrArg Int32.toInt q) (show ¬ c.toInt = 96 by omega) : ¬ c = (96 : Int32)), if_neg (fun q => absurd (Int32.lt_iff_toInt_lt.mp q) (show ¬ c.toInt < 123 by omega) : ¬ c < (123 : Int32)), if_pos (Int32.lt_iff_toInt_lt.mpr (show 191 < c.toInt by omega) : (191 : Int32) < c), own_f4_49, if_neg (fun q => absurd (congrArg Int32.toInt q) (show ¬ c.toInt = 215 by omega) : ¬ c = (215 : Int32)), if_neg (fun q => absurd (congrArg Int32.toInt q) (show ¬ c.toInt = 247 by omega) : ¬ c = (247 : Int32)), if_neg (fun q => absurd (Int32.lt_iff_toInt_lt.mp q) (show ¬ c.toInt < 768 by omega) : ¬ c < (768 : Int32)), if_pos (Int32.lt_iff_toInt_lt.mpr (show 879 < c.toInt by omega) : (879 : Int32) < c), own_f4_77, if_neg (fun q => absurd (congrArg Int32.toInt q) (show ¬ c.toInt = 894 by omega) : ¬ c = (894 : Int32)), if_neg (fun q => absurd (Int32.lt_iff_toInt_lt.mp q) (show ¬ c.toInt < 8192 by omega) : ¬ c < (8192 : Int32)), if_pos (Int32.lt_iff_toInt_lt.mpr (show 8203 < c.toInt by omega) : (8203 : Int32) < c), own_f4_98, if_neg (fun q => absurd (Int32.lt_iff_toInt_lt.mp q) (show ¬ c.toInt < 8206 by omega) : ¬ c < (8206 : Int32)), if_pos (Int32.lt_iff_toInt_lt.mpr (show 8303 < c.toInt by omega) : (8303 : Int32) < c), own_f4_112, if_neg (fun q => absurd (Int32.lt_iff_toInt_lt.mp q) (show ¬ c.toInt < 8592 by omega) : ¬ c < (8592 : Int32)), if_pos (Int32.lt_iff_toInt_lt.mpr (show 11263 < c.toInt by omega) : (11263 : Int32) < c), own_f4_126, if_neg (fun q => absurd (Int32.lt_iff_toInt_lt.mp q) (show ¬ c.toInt < 12272 by omega) : ¬ c < (12272 : Int32)), if_neg (fun q => absurd (Int32.lt_iff_toInt_lt.mp q) (show ¬ 12288 < c.toInt by omega) : ¬ (12288 : Int32) < c), own_f4_176, own_f4_181]
    try rfl
  by_cases g42 : c.toInt < 12288
  · rw [own_F1, if_neg (fun q => absurd (Int32.lt_iff_toInt_lt.mp q) (show ¬ c.toInt < 128 by omega) : ¬ c < (128 : Int32)), if_neg (fun q => absurd (Int32.lt_iff_toInt_lt.mp q) (show ¬ c.toInt < 192 by omega) : ¬ c < (192 : Int32)), if_pos (Int32.lt_iff_toInt_lt.mpr (show 214 < c.toInt by omega) : (214 : Int32) < c), own_f1_37, if_neg (fun q => absurd (Int32.lt_iff_toInt_lt.mp q) (show ¬ c.toInt < 216 by omega) : ¬ c < (216 : Int32)), if_pos (Int32.lt_iff_toInt_lt.mpr (show 246 < c.toInt by omega) : (246 : Int32) < c), own_f1_51, if_neg (fun q => absurd (Int32.lt_iff_toInt_lt.mp q) (show ¬ c.toInt < 248 by omega) : ¬ c < (248 : Int32)), if_pos (Int32.lt_iff_toInt_lt.mpr (show 767 < c.toInt by omega) : (767 : Int32) < c), own_f1_65, if_neg (fun q => absurd (Int32.lt_iff_toInt_lt.mp q) (show ¬ c.toInt < 880 by omega) : ¬ c < (880 : Int32)), if_pos (Int32.lt_iff_toInt_lt.mpr (show 893 < c.toInt by omega) : (893 : Int32) < c), own_f1_79, if_neg (fun q => absurd (Int32.lt_iff_toInt_lt.mp q) (show ¬ c.toInt < 895 by omega) : ¬ c < (895 : Int32)), if_pos (Int32.lt_iff_toInt_lt.mpr (show 8191 < c.toInt by omega) : (8191 : Int32) < c), own_f1_93, if_neg (fun q => absurd (congrArg Int32.toInt q) (show ¬ c.toInt = 8204 by omega) : ¬ c = (8204 : Int32)), if_neg (fun q => absurd (congrArg Int32.toInt q) (show ¬ c.toInt = 8205 by omega) : ¬ c = (8205 : Int32)), if_neg (fun q => absurd (Int32.lt_iff_toInt_lt.mp q) (show ¬ c.toInt < 8304 by omega) : ¬ c < (8304 : Int32)), if_pos (Int32.lt_iff_toInt_lt.mpr (show 8591 < c.toInt by omega) : (8591 : Int32) < c), own_f1_121, if_neg (fun q => absurd (Int32.lt_iff_toInt_lt.mp q) (show ¬ c.toInt < 11264 by omega) : ¬ c < (11264 : Int32)), if_pos (Int32.lt_iff_toInt_lt.mpr (show 12271 < c.toInt by omega) : (12271 : Int32) < c), own_f1_135, if_pos (Int32.lt_iff_toInt_lt.mpr (show c.toInt < 12289 by omega) : c < (12289 : Int32)), own_f1_148, if_pos (Int32.lt_iff_toInt_lt.mpr (show c.toInt < 63744 by omega) : c < (63744 : Int32)), own_f1_160, if_pos (Int32.lt_iff_toInt_lt.mpr (show c.toInt < 65008 by omega) : c < (65008 : Int32)), own_f1_172, if_pos (Int32.lt_iff_toInt_lt.mpr (show c.toInt < 65536 by omega) : c < (65536 : Int32)), own_f1_188, own_f1_189, own_F4, if_pos (Int32.lt_iff_toInt_lt.mpr (show 57 < c.toInt by omega) : (57 : Int32) < c), if_neg (fun q => absurd (Int32.lt_iff_toInt_lt.mp q) (show ¬ c.toInt < 59 by omega) : ¬ c < (59 : Int32)), if_pos (Int32.lt_iff_toInt_lt.mpr (show 64 < c.toInt by omega) : (64 : Int32) < c), own_f4_18, if_neg (fun q => absurd (Int32.lt_iff_toInt_lt.mp q) (show ¬ c.toInt < 91 by omega) : ¬ c < (91 : Int32)), if_pos (Int32.lt_iff_toInt_lt.mpr (show 94 < c.toInt by omega) : (94 : Int32) < c), own_f4_30, if_neg (fun q => absurd (congrArg Int32.toInt q) (show ¬ c.toInt = 96 by omega) : ¬ c = (96 : Int32)), if_neg (fun q => absurd (Int32.lt_iff_toInt_lt.mp q) (show ¬ c.toInt < 123 by omega) : ¬ c < (123 : Int32)), if_pos (Int32.lt_iff_toInt_lt.mpr (show 191 < c.toInt by omega) : (191 : Int32) < c), own_f4_49, if_neg (fun q => absurd (congrArg Int32.toInt q) (show ¬ c.toInt = 215 by omega) : ¬ c = (215 : Int32)), if_neg (fun q => absurd (congrArg Int32.toInt q) (show ¬ c.toInt = 247 by omega) : ¬ c = (247 : Int32)), if_neg (fun q => absurd (Int32.lt_iff_toInt_lt.mp q) (show ¬ c.toInt < 768 by omega) : ¬ c < (768 : Int32)), if_pos (Int32.lt_iff_toInt_lt.mpr (show 879 < c.toInt by omega) : (879 : Int32) < c), own_f4_77, if_neg (fun q => absurd (congrArg Int32.toInt q) (show ¬ c.toInt = 894 by omega) : ¬ c = (894 : Int32)), if_neg (fun q => absurd (Int32.lt_iff_toInt_lt.mp q) (show ¬ c.toInt < 8192 by omega) : ¬ c < (8192 : Int32)), if_pos (Int32.lt_iff_toInt_lt.mpr (show 8203 < c.toInt by omega) : (8203 : Int32) < c), own_f4_98, if_neg (fun q => absurd (Int32.lt_iff_toInt_lt.mp q) (show ¬ c.toInt < 8206 by omega) : ¬ c < (8206 : Int32)), if_pos (Int32.lt_iff_toInt_lt.mpr (show 8303 < c.toInt by omega) : (8303 : Int32) < c), own_f4_112, if_neg (fun q => absurd (Int32.lt_iff_toInt_lt.mp q) (show ¬ c.toInt < 8592 by omega) : ¬ c < (8592 : Int32)), if_pos (Int32.lt_iff_toInt_lt.mpr (show 11263 < c.toInt by omega) : (11263 : Int32) < c), own_f4_126, if_neg (fun q => absurd (Int32.lt_iff_toInt_lt.mp q) (show ¬ c.toInt < 12272 by omega) : ¬ c < (12272 : Int32)), if_neg (fun q => absurd (Int32.lt_iff_toInt_lt.mp q) (show ¬ 12288 < c.toInt by omega) : ¬ (12288 : Int32) < c), own_f4_176, own_f4_181]
    try rfl
  by_cases g43 : c.toInt < 12289
  · rw [own_F1, if_neg (fun q => absurd (Int32.lt_iff_toInt_lt.mp q) (show ¬ c.toInt < 128 by omega) : ¬ c < (128 : Int32)), if_neg (fun q => absurd (Int32.lt_iff_toInt_lt.mp q) (show ¬ c.toInt < 192 by omega) : ¬ c < (192 : Int32)), if_pos (Int32.lt_iff_toInt_lt.mpr (show 214 < c.toInt by omega) : (214 : Int32) < c), own_f1_37, if_neg (fun q => absurd (Int32.lt_iff_toInt_lt.mp q) (show ¬ c.toInt < 216 by omega) : ¬ c < (216 : Int32)), if_pos (Int32.lt_iff_toInt_lt.mpr (show 246 < c.toInt by omega) : (246 : Int32) < c), own_f1_51, if_neg (fun q => absurd (Int32.lt_iff_toInt_lt.mp q) (show ¬ c.toInt < 248 by omega) : ¬ c < (248 : Int32)), if_pos (Int32.lt_iff_toInt_lt.mpr (show 767 < c.toInt by omega) : (767 : Int32) < c), own_f1_65, if_neg (fun q => absurd (Int32.lt_iff_toInt_lt.mp q) (show ¬ c.toInt < 880 by omega) : ¬ c < (880 : Int32)), if_pos (Int32.lt_iff_toInt_lt.mpr (show 893 < c.toInt by omega) : (893 : Int32) < c), own_f1_79, if_neg (fun q => absurd (Int32.lt_iff_toInt_lt.mp q) (show ¬ c.toInt < 895 by omega) : ¬ c < (895 : Int32)), if_pos (Int32.lt_iff_toInt_lt.mpr (show 8191 < c.toInt by omega) : (8191 : Int32) < c), own_f1_93, if_neg (fun q => absurd (congrArg Int32.toInt q) (show ¬ c.toInt = 8204 by omega) : ¬ c = (8204 : Int32)), if_neg (fun q => absurd (congrArg Int32.toInt q) (show ¬ c.toInt = 8205 by omega) : ¬ c = (8205 : Int32)), if_neg (fun q => absurd (Int32.lt_iff_toInt_lt.mp q) (show ¬ c.toInt < 8304 by omega) : ¬ c < (8304 : Int32)), if_pos (Int32.lt_iff_toInt_lt.mpr (show 8591 < c.toInt by omega) : (8591 : Int32) < c), own_f1_121, if_neg (fun q => absurd (Int32.lt_iff_toInt_lt.mp q) (show ¬ c.toInt < 11264 by omega) : ¬ c < (11264 : Int32)), if_pos (Int32.lt_iff_toInt_lt.mpr (show 12271 < c.toInt by omega) : (12271 : Int32) < c), own_f1_135, if_pos (Int32.lt_iff_toInt_lt.mpr (show c.toInt < 12289 by omega) : c < (12289 : Int32)), own_f1_148, if_pos (Int32.lt_iff_toInt_lt.mpr (show c.toInt < 63744 by omega) : c < (63744 : Int32)), own_f1_160, if_pos (Int32.lt_iff_toInt_lt.mpr (show c.toInt < 65008 by omega) : c < (65008 : Int32)), own_f1_172, if_pos (Int32.lt_iff_toInt_lt.mpr (show c.toInt < 65536 by omega) : c < (65536 : Int32)), own_f1_188, own_f1_189, own_F4, if_pos (Int32.lt_iff_toInt_lt.mpr (show 57 < c.toInt by omega) : (57 : Int32) < c), if_neg (fun q => absurd (Int32.lt_iff_toInt_lt.mp q) (show ¬ c.toInt < 59 by omega) : ¬ c < (59 : Int32)), if_pos (Int32.lt_iff_toInt_lt.mpr (show 64 < c.toInt by omega) : (64 : Int32) < c), own_f4_18, if_neg (fun q => absurd (Int32.lt_iff_toInt_lt.mp q) (show ¬ c.toInt < 91 by omega) : ¬ c < (91 : Int32)), if_pos (Int32.lt_iff_toInt_lt.mpr (show 94 < c.toInt by omega) : (94 : Int32) < c), own_f4_30, if_neg (fun q => absurd (congrArg Int32.toInt q) (show ¬ c.toInt = 96 by omega) : ¬ c = (96 : Int32)), if_neg (fun q => absurd (Int32.lt_iff_toInt_lt.mp q) (show ¬ c.toInt < 123 by omega) : ¬ c < (123 : Int32)), if_pos (Int32.lt_iff_toInt_lt.mpr (show 191 < c.toInt by omega) : (191 : Int32) < c), own_f4_49, if_neg (fun q => absurd (congrArg Int32.toInt q) (show ¬ c.toInt = 215 by omega) : ¬ c = (215 : Int32)), if_neg (fun q => absurd (congrArg Int32.toInt q) (show ¬ c.toInt = 247 by omega) : ¬ c = (247 : Int32)), if_neg (fun q => absurd (Int32.lt_iff_toInt_lt.mp q) (show ¬ c.toInt < 768 by omega) : ¬ c < (768 : Int32)), if_pos (Int32.lt_iff_toInt_lt.mpr (show 879 < c.toInt by omega) : (879 : Int32) < c), own_f4_77, if_neg (fun q => absurd (congrArg Int32.toInt q) (show ¬ c.toInt = 894 by omega) : ¬ c = (894 : Int32)), if_neg (fun q => absurd (Int32.lt_iff_toInt_lt.mp q) (show ¬ c.toInt < 8192 by omega) : ¬ c < (8192 : Int32)), if_pos (Int32.lt_iff_toInt_lt.mpr (show 8203 < c.toInt by omega) : (8203 : Int32) < c), own_f4_98, if_neg (fun q => absurd (Int32.lt_iff_toInt_lt.mp q) (show ¬ c.toInt < 8206 by omega) : ¬ c < (8206 : Int32)), if_pos (Int32.lt_iff_toInt_lt.mpr (show 8303 < c.toInt by omega) : (8303 : Int32) < c), own_f4_112, if_neg (fun q => absurd (Int32.lt_iff_toInt_lt.mp q) (show ¬ c.toInt < 8592 by omega) : ¬ c < (8592 : Int32)), if_pos (Int32.lt_iff_toInt_lt.mpr (show 11263 < c.toInt by omega) : (11263 : Int32) < c), own_f4_126, if_neg (fun q => absurd (Int32.lt_iff_toInt_lt.mp q) (show ¬ c.toInt < 12272 by omega) : ¬ c < (12272 : Int32)), if_neg (fun q => absurd (Int32.lt_iff_toInt_lt.mp q) (show ¬ 12288 < c.toInt by omega) : ¬ (12288 : Int32) < c), own_f4_176, own_f4_181]
    try rfl
  by_cases g44 : c.toInt < 12290
  · rw [own_F1, if_neg (fun q => absurd (Int32.lt_iff_toInt_lt.mp q) (show ¬ c.toInt < 128 by omega) : ¬ c < (128 : Int32)), if_neg (fun q => absurd (Int32.lt_iff_toInt_lt.mp q) (show ¬ c.toInt < 192 by omega) : ¬ c < (192 : Int32)), if_pos (Int32.lt_iff_toInt_lt.mpr (show 214 < c.toInt by omega) : (214 : Int32) < c), own_f1_37, if_neg (fun q => absurd (Int32.lt_iff_toInt_lt.mp q) (show ¬ c.toInt < 216 by omega) : ¬ c < (216 : Int32)), if_pos (Int32.lt_iff_toInt_lt.mpr (show 246 < c.toInt by omega) : (246 : Int32) < c), own_f1_51, if_neg (fun q => absurd (Int32.lt_iff_toInt_lt.mp q) (show ¬ c.toInt < 248 by omega) : ¬ c < (248 : Int32)), if_pos (Int32.lt_iff_toInt_lt.mpr (show 767 < c.toInt by omega) : (767 : Int32) < c), own_f1_65, if_neg (fun q => absurd (Int32.lt_iff_toInt_lt.mp q) (show ¬ c.toInt < 880 by omega) : ¬ c < (880 : Int32)), if_pos (Int32.lt_iff_toInt_lt.mpr (show 893 < c.toInt by omega) : (893 : Int32) < c), own_f1_79, if_neg (fun q => absurd (Int32.lt_iff_toInt_lt.mp q) (show ¬ c.toInt < 895 by omega) : ¬ c < (895 : Int32)), if_pos (Int32.lt_iff_toInt_lt.mpr (show 8191 < c.toInt by omega) : (8191 : Int32) < c), own_f1_93, if_neg (fun q => absurd (congrArg Int32.toInt q) (show ¬ c.toInt = 8204 by omega) : ¬ c = (8204 : Int32)), if_neg (fun q => absurd (congrArg Int32.toInt q) (show ¬ c.toInt = 8205 by omega) : ¬ c = (8205 : Int32)), if_neg (fun q => absurd (Int32.lt_iff_toInt_lt.mp q) (show ¬ c.toInt < 8304 by omega) : ¬ c < (8304 : Int32)), if_pos (Int32.lt_iff_toInt_lt.mpr (show 8591 < c.toInt by omega) : (8591 : Int32) < c), own_f1_121, if_neg (fun q => absurd (Int32.lt_iff_toInt_lt.mp q) (show ¬ c.toInt < 11264 by omega) : ¬ c < (11264 : Int32)), if_pos (Int32.lt_iff_toInt_lt.mpr (show 12271 < c.toInt by omega) : (12271 : Int32) < c), own_f1_135, if_neg (fun q => absurd (Int32.lt_iff_toInt_lt.mp q) (show ¬ c.toInt < 12289 by omega) : ¬ c < (12289 : Int32)), if_neg (fun q => absurd (Int32.lt_iff_toInt_lt.mp q) (show ¬ 55295 < c.toInt by omega) : ¬ (55295 : Int32) < c), own_f1_184, own_f1_189, own_F4, if_pos (Int32.lt_iff_toInt_lt.mpr (show 57 < c.toInt by omega) : (57 : Int32) < c), if_neg (fun q => absurd (Int32.lt_iff_toInt_lt.mp q) (show ¬ c.toInt < 59 by omega) : ¬ c < (59 : Int32)), if_pos (Int32.lt_iff_toInt_lt.mpr (show 64 < c.toInt by omega) : (64 : Int32) < c), own_f4_18, if_neg (fun q => absurd (Int32.lt_iff_toInt_lt.mp q) (show ¬ c.toInt < 91 by omega) : ¬ c < (91 : Int32)), if_pos (Int32.lt_iff_toInt_lt.mpr (show 94 < c.toInt by omega) : (94 : Int32) < c), own_f4_30, if_neg (fun q => absurd (congrArg Int32.toInt q) (show ¬ c.toInt = 96 by omega) : ¬ c = (96 : Int32)), if_neg (fun q => absurd (Int32.lt_iff_toInt_lt.mp q) (show ¬ c.toInt < 123 by omega) : ¬ c < (123 : Int32)), if_pos (Int32.lt_iff_toInt_lt.mpr (show 191 < c.toInt by omega) : (191 : Int32) < c), own_f4_49, if_neg (fun q => absurd (congrArg Int32.toInt q) (show ¬ c.toInt = 215 by omega) : ¬ c = (215 : Int32)), if_neg (fun q => absurd (congrArg Int32.toInt q) (show ¬ c.toInt = 247 by omega) : ¬ c = (247 : Int32)), if_neg (fun q => absurd (Int32.lt_iff_toInt_lt.mp q) (show ¬ c.toInt < 768 by omega) : ¬ c < (768 : Int32)), if_pos (Int32.lt_iff_toInt_lt.mpr (show 879 < c.toInt by omega) : (879 : Int32) < c), own_f4_77, if_neg (fun q => absurd (congrArg Int32.toInt q) (show ¬ c.toInt = 894 by omega) : ¬ c = (894 : Int32)), if_neg (fun q => absurd (Int32.lt_iff_toInt_lt.mp q) (show ¬ c.toInt < 8192 by omega) : ¬ c < (8192 : Int32)), if_pos (Int32.lt_iff_toInt_lt.mpr (show 8203 < c.toInt by omega) : (8203 : Int32) < c), own_f4_98, if_neg (fun q => absurd (Int32.lt_iff_toInt_lt.mp q) (show ¬ c.toInt < 8206 by omega) : ¬ c < (8206 : Int32)), if_pos (Int32.lt_iff_toInt_lt.mpr (show 8303 < c.toInt by omega) : (8303 : Int32) < c), own_f4_112, if_neg (fun q => absurd (Int32.lt_iff_toInt_lt.mp q) (show ¬ c.toInt < 8592 by omega) : ¬ c < (8592 : Int32)), if_pos (Int32.lt_iff_toInt_lt.mpr (show 11263 < c.toInt by omega) : (11263 : Int32) < c), own_f4_126, if_neg (fun q => absurd (Int32.lt_iff_toInt_lt.mp q) (show ¬ c.toInt < 12272 by omega) : ¬ c < (12272 : Int32)), if_pos (Int32.lt_iff_toInt_lt.mpr (show 12288 < c.toInt by omega) : (12288 : Int32) < c), own_f4_140, if_pos (Int32.lt_iff_toInt_lt.mpr (show c.toInt < 55296 by omega) : c < (55296 : Int32)), own_f4_152, if_pos (Int32.lt_iff_toInt_lt.mpr (show c.toInt < 64976 by omega) : c < (64976 : Int32)), own_f4_164, if_neg (fun q => absurd (congrArg Int32.toInt q) (show ¬ c.toInt = 65534 by omega) : ¬ c = (65534 : Int32)), if_neg (fun q => absurd (congrArg Int32.toInt q) (show ¬ c.toInt = 65535 by omega) : ¬ c = (65535 : Int32)), own_f4_181]
    try rfl
  by_cases g45 : c.toInt < 55295
  · rw [own_F1, if_neg (fun q => absurd (Int32.lt_iff_toInt_lt.mp q) (show ¬ c.toInt < 128 by omega) : ¬ c < (128 : Int32)), if_neg (fun q => absurd (Int32.lt_iff_toInt_lt.mp q) (show ¬ c.toInt < 192 by omega) : ¬ c < (192 : Int32)), if_pos (Int32.lt_iff_toInt_lt.mpr (show 214 < c.toInt by omega) : (214 : Int32) < c), own_f1_37, if_neg (fun q => absurd (Int32.lt_iff_toInt_lt.mp q) (show ¬ c.toInt < 216 by omega) : ¬ c < (216 : Int32)), if_pos (Int32.lt_iff_toInt_lt.mpr (show 246 < c.toInt by omega) : (246 : Int32) < c), own_f1_51, if_neg (fun q => absurd (Int32.lt_iff_toInt_lt.mp q) (show ¬ c.toInt < 248 by omega) : ¬ c < (248 : Int32)), if_pos (Int32.lt_iff_toInt_lt.mpr (show 767 < c.toInt by omega) : (767 : Int32) < c), own_f1_65, if_neg (fun q => absurd (Int32.lt_iff_toInt_lt.mp q) (show ¬ c.toInt < 880 by omega) : ¬ c < (880 : Int32)), if_pos (Int32.lt_iff_toInt_lt.mpr (show 893 < c.toInt by omega) : (893 : Int32) < c), own_f1_79, if_neg (fun q => absurd (Int32.lt_iff_toInt_lt.mp q) (show ¬ c.toInt < 895 by omega) : ¬ c < (895 : Int32)), if_pos (Int32.lt_iff_toInt_lt.mpr (show 8191 < c.toInt by omega) : (8191 : Int32) < c), own_f1_93, if_neg (fun q => absurd (congrArg Int32.toInt q) (show ¬ c.toInt = 8204 by omega) : ¬ c = (8204 : Int32)), if_neg (fun q => absurd (congrArg Int32.toInt q) (show ¬ c.toInt = 8205 by omega) : ¬ c = (8205 : Int32)), if_neg (fun q => absurd (Int32.lt_iff_toInt_lt.mp q) (show ¬ c.toInt < 8304 by omega) : ¬ c < (8304 : Int32)), if_pos (Int32.lt_iff_toInt_lt.mpr (show 8591 < c.toInt by omega) : (8591 : Int32) < c), own_f1_121, if_neg (fun q => absurd (Int32.lt_iff_toInt_lt.mp q) (show ¬ c.toInt < 11264 by omega) : ¬ c < (11264 : Int32)), if_pos (Int32.lt_iff_toInt_lt.mpr (show 12271 < c.toInt by omega) : (12271 : Int32) < c), own_f1_135, if_neg (fun q => absurd (Int32.lt_iff_toInt_lt.mp q) (show ¬ c.toInt < 12289 by omega) : ¬ c < (12289 : Int32)), if_neg (fun q => absurd (Int32.lt_iff_toInt_lt.mp q) (show ¬ 55295 < c.toInt by omega) : ¬ (55295 : Int32) < c), own_f1_184, own_f1_189, own_F4, if_pos (Int32.lt_iff_toInt_lt.mpr (show 57 < c.toInt by omega) : (57 : Int32) < c), if_neg (fun q => absurd (Int32.lt_iff_toInt_lt.mp q) (show ¬ c.toInt < 59 by omega) : ¬ c < (59 : Int32)), if_pos (Int32.lt_iff_toInt_lt.mpr (show 64 < c.toInt by omega) : (64 : Int32) < c), own_f4_18, if_neg (fun q => absurd (Int32.lt_iff_toInt_lt.mp q) (show ¬ c.toInt < 91 by omega) : ¬ c < (91 : Int32)), if_pos (Int32.lt_iff_toInt_lt.mpr (show 94 < c.toInt by omega) : (94 : Int32) < c), own_f4_30, if_neg (fun q => absurd (congrArg Int32.toInt q) (show ¬ c.toInt = 96 by omega) : ¬ c = (96 : Int32)), if_neg (fun q => absurd (Int32.lt_iff_toInt_lt.mp q) (show ¬ c.toInt < 123 by omega) : ¬ c < (123 : Int32)), if_pos (Int32.lt_iff_toInt_lt.mpr (show 191 < c.toInt by omega) : (191 : Int32) < c), own_f4_49, if_neg (fun q => absurd (congrArg Int32.toInt q) (show ¬ c.toInt = 215 by omega) : ¬ c = (215 : Int32)), if_neg (fun q => absurd (congrArg Int32.toInt q) (show ¬ c.toInt = 247 by omega) : ¬ c = (247 : Int32)), if_neg (fun q => absurd (Int32.lt_iff_toInt_lt.mp q) (show ¬ c.toInt < 768 by omega) : ¬ c < (768 : Int32)), if_pos (Int32.lt_iff_toInt_lt.mpr (show 879 < c.toInt by omega) : (879 : Int32) < c), own_f4_77, if_neg (fun q => absurd (congrArg Int32.toInt q) (show ¬ c.toInt = 894 by omega) : ¬ c = (894 : Int32)), if_neg (fun q => absurd (Int32.lt_iff_toInt_lt.mp q) (show ¬ c.toInt < 8192 by omega) : ¬ c < (8192 : Int32)), if_pos (Int32.lt_iff_toInt_lt.mpr (show 8203 < c.toInt by omega) : (8203 : Int32) < c), own_f4_98, if_neg (fun q => absurd (Int32.lt_iff_toInt_lt.mp q) (show ¬ c.toInt < 8206 by omega) : ¬ c < (8206 : Int32)), if_pos (Int32.lt_iff_toInt_lt.mpr (show 8303 < c.toInt by omega) : (8303 : Int32) < c), own_f4_112, if_neg (fun q => absurd (Int32.lt_iff_toInt_lt.mp q) (show ¬ c.toInt < 8592 by omega) : ¬ c < (8592 : Int32)), if_pos (Int32.lt_iff_toInt_lt.mpr (show 11263 < c.toInt by omega) : (11263 : Int32) < c), own_f4_126, if_neg (fun q => absurd (Int32.lt_iff_toInt_lt.mp q) (show ¬ c.toInt < 12272 by omega) : ¬ c < (12272 : Int32)), if_pos (Int32.lt_iff_toInt_lt.mpr (show 12288 < c.toInt by omega) : (12288 : Int32) < c), own_f4_140, if_pos (Int32.lt_iff_toInt_lt.mpr (show c.toInt < 55296 by omega) : c < (55296 : Int32)), own_f4_152, if_pos (Int32.lt_iff_toInt_lt.mpr (show c.toInt < 64976 by omega) : c < (64976 : Int32)), own_f4_164, if_neg (fun q => absurd (congrArg Int32.toInt q) (show ¬ c.toInt = 65534 by omega) : ¬ c = (65534 : Int32)), if_neg (fun q => absurd (congrArg Int32.toInt q) (show ¬ c.toInt = 65535 by omega) : ¬ c = (65535 : Int32)), own_f4_181]
    try rfl
  by_cases g46 : c.toInt < 55296
  · rw [own_F1, if_neg (fun q => absurd (Int32.lt_iff_toInt_lt.mp q) (show ¬ c.toInt < 128 by omega) : ¬ c < (128 : Int32)), if_neg (fun q => absurd (Int32.lt_iff_toInt_lt.mp q) (show ¬ c.toInt < 192 by omega) : ¬ c < (192 : Int32)), if_pos (Int32.lt_iff_toInt_lt.mpr (show 214 < c.toInt by omega) : (214 : Int32) < c), own_f1_37, if_neg (fun q => absurd (Int32.lt_iff_toInt_lt.mp q) (show ¬ c.toInt < 216 by omega) : ¬ c < (216 : Int32)), if_pos (Int32.lt_iff_toInt_lt.mpr (show 246 < c.toInt by omega) : (246 : Int32) < c), own_f1_51, if_neg (fun q => absurd (Int32.lt_iff_toInt_lt.mp q) (show ¬ c.toInt < 248 by omega) : ¬ c < (248 : Int32)), if_pos (Int32.lt_iff_toInt_lt.mpr (show 767 < c.toInt by omega) : (767 : Int32) < c), own_f1_65, if_neg (fun q => absurd (Int32.lt_iff_toInt_lt.mp q) (show ¬ c.toInt < 880 by omega) : ¬ c < (880 : Int32)), if_pos (Int32.lt_iff_toInt_lt.mpr (show 893 < c.toInt by omega) : (893 : Int32) < c), own_f1_79, if_neg (fun q => absurd (Int32.lt_iff_toInt_lt.mp q) (show ¬ c.toInt < 895 by omega) : ¬ c < (895 : Int32)), if_pos (Int32.lt_iff_toInt_lt.mpr (show 8191 < c.toInt by omega) : (8191 : Int32) < c), own_f1_93, if_neg (fun q => absurd (congrArg Int32.toInt q) (show ¬ c.toInt = 8204 by omega) : ¬ c = (8204 : Int32)), if_neg (fun q => absurd (congrArg Int32.toInt q) (show ¬ c.toInt = 8205 by omega) : ¬ c = (8205 : Int32)), if_neg (fun q => absurd (Int32.lt_iff_toInt_lt.mp q) (show ¬ c.toInt < 8304 by omega) : ¬ c < (8304 : Int32)), if_pos (Int32.lt_iff_toInt_lt.mpr (show 8591 < c.toInt by omega) : (8591 : Int32) < c), own_f1_121, if_neg (fun q => absurd (Int32.lt_iff_toInt_lt.mp q) (show ¬ c.toInt < 11264 by omega) : ¬ c < (11264 : Int32)), if_pos (Int32.lt_iff_toInt_lt.mpr (show 12271 < c.toInt by omega) : (12271 : Int32) < c), own_f1_135, if_neg (fun q => absurd (Int32.lt_iff_toInt_lt.mp q) (show ¬ c.toInt < 12289 by omega) : ¬ c < (12289 : Int32)), if_neg (fun q => absurd (Int32.lt_iff_toInt_lt.mp q) (show ¬ 55295 < c.toInt by omega) : ¬ (55295 : Int32) < c), own_f1_184, own_f1_189, own_F4, if_pos (Int32.lt_iff_toInt_lt.mpr (show 57 < c.toInt by omega) : (57 : Int32) < c), if_neg (fun q => absurd (Int32.lt_iff_toInt_lt.mp q) (show ¬ c.toInt < 59 by omega) : ¬ c < (59 : Int32)), if_pos (Int32.lt_iff_toInt_lt.mpr (show 64 < c.toInt by omega) : (64 : Int32) < c), own_f4_18, if_neg (fun q => absurd (Int32.lt_iff_toInt_lt.mp q) (show ¬ c.toInt < 91 by omega) : ¬ c < (91 : Int32)), if_pos (Int32.lt_iff_toInt_lt.mpr (show 94 < c.toInt by omega) : (94 : Int32) < c), own_f4_30, if_neg (fun q => absurd (congrArg Int32.toInt q) (show ¬ c.toInt = 96 by omega) : ¬ c = (96 : Int32)), if_neg (fun q => absurd (Int32.lt_iff_toInt_lt.mp q) (show ¬ c.toInt < 123 by omega) : ¬ c < (123 : Int32)), if_pos (Int32.lt_iff_toInt_lt.mpr (show 191 < c.toInt by omega) : (191 : Int32) < c), own_f4_49, if_neg (fun q => absurd (congrArg Int32.toInt q) (show ¬ c.toInt = 215 by omega) : ¬ c = (215 : Int32)), if_neg (fun q => absurd (congrArg Int32.toInt q) (show ¬ c.toInt = 247 by omega) : ¬ c = (247 : Int32)), if_neg (fun q => absurd (Int32.lt_iff_toInt_lt.mp q) (show ¬ c.toInt < 768 by omega) : ¬ c < (768 : Int32)), if_pos (Int32.lt_iff_toInt_lt.mpr (show 879 < c.toInt by omega) : (879 : Int32) < c), own_f4_77, if_neg (fun q => absurd (congrArg Int32.toInt q) (show ¬ c.toInt = 894 by omega) : ¬ c = (894 : Int32)), if_neg (fun q => absurd (Int32.lt_iff_toInt_lt.mp q) (show ¬ c.toInt < 8192 by omega) : ¬ c < (8192 : Int32)), if_pos (Int32.lt_iff_toInt_lt.mpr (show 8203 < c.toInt by omega) : (8203 : Int32) < c), own_f4_98, if_neg (fun q => absurd (Int32.lt_iff_toInt_lt.mp q) (show ¬ c.toInt < 8206 by omega) : ¬ c < (8206 : Int32)), if_pos (Int32.lt_iff_toInt_lt.mpr (show 8303 < c.toInt by omega) : (8303 : Int32) < c), own_f4_112, if_neg (fun q => absurd (Int32.lt_iff_toInt_lt.mp q) (show ¬ c.toInt < 8592 by omega) : ¬ c < (8592 : Int32)), if_pos (Int32.lt_iff_toInt_lt.mpr (show 11263 < c.toInt by omega) : (11263 : Int32) < c), own_f4_126, if_neg (fun q => absurd (Int32.lt_iff_toInt_lt.mp q) (show ¬ c.toInt < 12272 by omega) : ¬ c < (12272 : Int32)), if_pos (Int32.lt_iff_toInt_lt.mpr (show 12288 < c.toInt by omega) : (12288 : Int32) < c), own_f4_140, if_pos (Int32.lt_iff_toInt_lt.mpr (show c.toInt < 55296 by omega) : c < (55296 : Int32)), own_f4_152, if_pos (Int32.lt_iff_toInt_lt.mpr (show c.toInt < 64976 by omega) : c < (64976 : Int32)), own_f4_164, if_neg (fun q => absurd (congrArg Int32.toInt q) (show ¬ c.toInt = 65534 by omega) : ¬ c = (65534 : Int32)), if_neg (fun q => absurd (congrArg Int32.toInt q) (show ¬ c.toInt = 65535 by omega) : ¬ c = (65535 : Int32)), own_f4_181]
    try rfl
  by_cases g47 : c.toInt < 55297
  · rw [own_F1, if_neg (fun q => absurd (Int32.lt_iff_toInt_lt.mp q) (show ¬ c.toInt < 128 by omega) : ¬ c < (128 : Int32)), if_neg (fun q => absurd (Int32.lt_iff_toInt_lt.mp q) (show ¬ c.toInt < 192 by omega) : ¬ c < (192 : Int32)), if_pos (Int32.lt_iff_toInt_lt.mpr (show 214 < c.toInt by omega) : (214 : Int32) < c), own_f1_37, if_neg (fun q => absurd (Int32.lt_iff_toInt_lt.mp q) (show ¬ c.toInt < 216 by omega) : ¬ c < (216 : Int32)), if_pos (Int32.lt_iff_toInt_lt.mpr (show 246 < c.toInt by omega) : (246 : Int32) < c), own_f1_51, if_neg (fun q => absurd (Int32.lt_iff_toInt_lt.mp q) (show ¬ c.toInt < 248 by omega) : ¬ c < (248 : Int32)), if_pos (Int32.lt_iff_toInt_lt.mpr (show 767 < c.toInt by omega) : (767 : Int32) < c), own_f1_65, if_neg (fun q => absurd (Int32.lt_iff_toInt_lt.mp q) (show ¬ c.toInt < 880 by omega) : ¬ c < (880 : Int32)), if_pos (Int32.lt_iff_toInt_lt.mpr (show 893 < c.toInt by omega) : (893 : Int32) < c), own_f1_79, if_neg (fun q => absurd (Int32.lt_iff_toInt_lt.mp q) (show ¬ c.toInt < 895 by omega) : ¬ c < (895 : Int32)), if_pos (Int32.lt_iff_toInt_lt.mpr (show 8191 < c.toInt by omega) : (8191 : Int32) < c), own_f1_93, if_neg (fun q => absurd (congrArg Int32.toInt q) (show ¬ c.toInt = 8204 by omega) : ¬ c = (8204 : Int32)), if_neg (fun q => absurd (congrArg Int32.toInt q) (show ¬ c.toInt = 8205 by omega) : ¬ c = (8205 : Int32)), if_neg (fun q => absurd (Int32.lt_iff_toInt_lt.mp q) (show ¬ c.toInt < 8304 by omega) : ¬ c < (8304 : Int32)), if_pos (Int32.lt_iff_toInt_lt.mpr (show 8591 < c.toInt by omega) : (8591 : Int32) < c), own_f1_121, if_neg (fun q => absurd (Int32.lt_iff_toInt_lt.mp q) (show ¬ c.toInt < 11264 by omega) : ¬ c < (11264 : Int32)), if_pos (Int32.lt_iff_toInt_lt.mpr (show 12271 < c.toInt by omega) : (12271 : Int32) < c), own_f1_135, if_neg (fun q => absurd (Int32.lt_iff_toInt_lt.mp q) (show ¬ c.toInt < 12289 by omega) : ¬ c < (12289 : Int32)), if_pos (Int32.lt_iff_toInt_lt.mpr (show 55295 < c.toInt by omega) : (55295 : Int32) < c), own_f1_148, if_pos (Int32.lt_iff_toInt_lt.mpr (show c.toInt < 63744 by omega) : c < (63744 : Int32)), own_f1_160, if_pos (Int32.lt_iff_toInt_lt.mpr (show c.toInt < 65008 by omega) : c < (65008 : Int32)), own_f1_172, if_pos (Int32.lt_iff_toInt_lt.mpr (show c.toInt < 65536 by omega) : c < (65536 : Int32)), own_f1_188, own_f1_189, own_F4, if_pos (Int32.lt_iff_toInt_lt.mpr (show 57 < c.toInt by omega) : (57 : Int32) < c), if_neg (fun q => absurd (Int32.lt_iff_toInt_lt.mp q) (show ¬ c.toInt < 59 by omega) : ¬ c < (59 : Int32)), if_pos (Int32.lt_iff_toInt_lt.mpr (show 64 < c.toInt by omega) : (64 : Int32) < c), own_f4_18, if_neg (fun q => absurd (Int32.lt_iff_toInt_lt.mp q) (show ¬ c.toInt < 91 by omega) : ¬ c < (91 : Int32)), if_pos (Int32.lt_iff_toInt_lt.mpr (show 94 < c.toInt by omega) : (94 : Int32) < c), own_f4_30, if_neg (fun q => absurd (congrArg Int32.toInt q) (show ¬ c.toInt = 96 by omega) : ¬ c = (96 : Int32)), if_neg (fun q => absurd (Int32.lt_iff_toInt_lt.mp q) (show ¬ c.toInt < 123 by omega) : ¬ c < (123 : Int32)), if_pos (Int32.lt_iff_toInt_lt.mpr (show 191 < c.toInt by omega) : (191 : Int32) < c), own_f4_49, if_neg (fun q => absurd (congrArg Int32.toInt q) (show ¬ c.toInt = 215 by omega) : ¬ c = (215 : Int32)), if_neg (fun q => absurd (congrArg Int32.toInt q) (show ¬ c.toInt = 247 by omega) : ¬ c = (247 : Int32)), if_neg (fun q => absurd (Int32.lt_iff_toInt_lt.mp q) (show ¬ c.toInt < 768 by omega) : ¬ c < (768 : Int32)), if_pos (Int32.lt_iff_toInt_lt.mpr (show 879 < c.toInt by omega) : (879 : Int32) < c), own_f4_77, if_neg (fun q => absurd (congrArg Int32.toInt q) (show ¬ c.toInt = 894 by omega) : ¬ c = (894 : Int32)), if_neg (fun q => absurd (Int32.lt_iff_toInt_lt.mp q) (show ¬ c.toInt < 8192 by omega) : ¬ c < (8192 : Int32)), if_pos (Int32.lt_iff_toInt_lt.mpr (show 8203 < c.toInt by omega) : (8203 : Int32) < c), own_f4_98, if_neg (fun q => absurd (Int32.lt_iff_toInt_lt.mp q) (show ¬ c.toInt < 8206 by omega) : ¬ c < (8206 : Int32)), if_pos (Int32.lt_iff_toInt_lt.mpr (show 8303 < c.toInt by omega) : (8303 : Int32) < c), own_f4_112, if_neg (fun q => absurd (Int32.lt_iff_toInt_lt.mp q) (show ¬ c.toInt < 8592 by omega) : ¬ c < (8592 : Int32)), if_pos (Int32.lt_iff_toInt_lt.mpr (show 11263 < c.toInt by omega) : (11263 : Int32) < c), own_f4_126, if_neg (fun q => absurd (Int32.lt_iff_toInt_lt.mp q) (show ¬ c.toInt < 12272 by omega) : ¬ c < (12272 : Int32)), if_pos (Int32.lt_iff_toInt_lt.mpr (show 12288 < c.toInt by omega) : (12288 : Int32) < c), own_f4_140, if_neg (fun q => absurd (Int32.lt_iff_toInt_lt.mp q) (show ¬ c.toInt < 55296 by omega) : ¬ c < (55296 : Int32)), if_neg (fun q => absurd (Int32.lt_iff_toInt_lt.mp q) (show ¬ 63743 < c.toInt by omega) : ¬ (63743 : Int32) < c), own_f4_176, own_f4_181]
    try rfl
  by_cases g48 : c.toInt < 63743
  · rw [own_F1, if_neg (fun q => absurd (Int32.lt_iff_toInt_lt.mp q) (show ¬ c.toInt < 128 by omega) : ¬ c < (128 : Int32)), if_neg (fun q => absurd (Int32.lt_iff_toInt_lt.mp q) (show ¬ c.toInt < 192 by omega) : ¬ c < (192 : Int32)), if_pos (Int32.lt_iff_toInt_lt.mpr (show 214 < c.toInt by omega) : (214 : Int32) < c), own_f1_37, if_neg (fun q => absurd (Int32.lt_iff_toInt_lt.mp q) (show ¬ c.toInt < 216 by omega) : ¬ c < (216 : Int32)), if_pos (Int32.lt_iff_toInt_lt.mpr (show 246 < c.toInt by omega) : (246 : Int32) < c), own_f1_51, if_neg (fun q => absurd (Int32.lt_iff_toInt_lt.mp q) (show ¬ c.toInt < 248 by omega) : ¬ c < (248 : Int32)), if_pos (Int32.lt_iff_toInt_lt.mpr (show 767 < c.toInt by omega) : (767 : Int32) < c), own_f1_65, if_neg (fun q => absurd (Int32.lt_iff_toInt_lt.mp q) (show ¬ c.toInt < 880 by omega) : ¬ c < (880 : Int32)), if_pos (Int32.lt_iff_toInt_lt.mpr (show 893 < c.toInt by omega) : (893 : Int32) < c), own_f1_79, if_neg (fun q => absurd (Int32.lt_iff_toInt_lt.mp q) (show ¬ c.toInt < 895 by omega) : ¬ c < (895 : Int32)), if_pos (Int32.lt_iff_toInt_lt.mpr (show 8191 < c.toInt by omega) : (8191 : Int32) < c), own_f1_93, if_neg (fun q => absurd (congrArg Int32.toInt q) (show ¬ c.toInt = 8204 by omega) : ¬ c = (8204 : Int32)), if_neg (fun q => absurd (congrArg Int32.toInt q) (show ¬ c.toInt = 8205 by omega) : ¬ c = (8205 : Int32)), if_neg (fun q => absurd (Int32.lt_iff_toInt_lt.mp q) (show ¬ c.toInt < 8304 by omega) : ¬ c < (8304 : Int32)), if_pos (Int32.lt_iff_toInt_lt.mpr (show 8591 < c.toInt by omega) : (8591 : Int32) < c), own_f1_121, if_neg (fun q => absurd (Int32.lt_iff_toInt_lt.mp q) (show ¬ c.toInt < 11264 by omega) : ¬ c < (11264 : Int32)), if_pos (Int32.lt_iff_toInt_lt.mpr (show 12271 < c.toInt by omega) : (12271 : Int32) < c), own_f1_135, if_neg (fun q => absurd (Int32.lt_iff_toInt_lt.mp q) (show ¬ c.toInt < 12289 by omega) : ¬ c < (12289 : Int32)), if_pos (Int32.lt_iff_toInt_lt.mpr (show 55295 < c.toInt by omega) : (55295 : Int32) < c), own_f1_148, if_pos (Int32.lt_iff_toInt_lt.mpr (show c.toInt < 63744 by omega) : c < (63744 : Int32)), own_f1_160, if_pos (Int32.lt_iff_toInt_lt.mpr (show c.toInt < 65008 by omega) : c < (65008 : Int32)), own_f1_172, if_pos (Int32.lt_iff_toInt_lt.mpr (show c.toInt < 65536 by omega) : c < (65536 : Int32)), own_f1_188, own_f1_189, own_F4, if_pos (Int32.lt_iff_toInt_lt.mpr (show 57 < c.toInt by omega) : (57 : Int32) < c), if_neg (fun q => absurd (Int32.lt_iff_toInt_lt.mp q) (show ¬ c.toInt < 59 by omega) : ¬ c < (59 : Int32)), if_pos (Int32.lt_iff_toInt_lt.mpr (show 64 < c.toInt by omega) : (64 : Int32) < c), own_f4_18, if_neg (fun q => absurd (Int32.lt_iff_toInt_lt.mp q) (show ¬ c.toInt < 91 by omega) : ¬ c < (91 : Int32)), if_pos (Int32.lt_iff_toInt_lt.mpr (show 94 < c.toInt by omega) : (94 : Int32) < c), own_f4_30, if_neg (fun q => absurd (congrArg Int32.toInt q) (show ¬ c.toInt = 96 by omega) : ¬ c = (96 : Int32)), if_neg (fun q => absurd (Int32.lt_iff_toInt_lt.mp q) (show ¬ c.toInt < 123 by omega) : ¬ c < (123 : Int32)), if_pos (Int32.lt_iff_toInt_lt.mpr (show 191 < c.toInt by omega) : (191 : Int32) < c), own_f4_49, if_neg (fun q => absurd (congrArg Int32.toInt q) (show ¬ c.toInt = 215 by omega) : ¬ c = (215 : Int32)), if_neg (fun q => absurd (congrArg Int32.toInt q) (show ¬ c.toInt = 247 by omega) : ¬ c = (247 : Int32)), if_neg (fun q => absurd (Int32.lt_iff_toInt_lt.mp q) (show ¬ c.toInt < 768 by omega) : ¬ c < (768 : Int32)), if_pos (Int32.lt_iff_toInt_lt.mpr (show 879 < c.toInt by omega) : (879 : Int32) < c), own_f4_77, if_neg (fun q => absurd (congrArg Int32.toInt q) (show ¬ c.toInt = 894 by omega) : ¬ c = (894 : Int32)), if_neg (fun q => absurd (Int32.lt_iff_toInt_lt.mp q) (show ¬ c.toInt < 8192 by omega) : ¬ c < (8192 : Int32)), if_pos (Int32.lt_iff_toInt_lt.mpr (show 8203 < c.toInt by omega) : (8203 : Int32) < c), own_f4_98, if_neg (fun q => absurd (Int32.lt_iff_toInt_lt.mp q) (show ¬ c.toInt < 8206 by omega) : ¬ c < (8206 : Int32)), if_pos (Int32.lt_iff_toInt_lt.mpr (show 8303 < c.toInt by omega) : (8303 : Int32) < c), own_f4_112, if_neg (fun q => absurd (Int32.lt_iff_toInt_lt.mp q) (show ¬ c.toInt < 8592 by omega) : ¬ c < (8592 : Int32)), if_pos (Int32.lt_iff_toInt_lt.mpr (show 11263 < c.toInt by omega) : (11263 : Int32) < c), own_f4_126, if_neg (fun q => absurd (Int32.lt_iff_toInt_lt.mp q) (show ¬ c.toInt < 12272 by omega) : ¬ c < (12272 : Int32)), if_pos (Int32.lt_iff_toInt_lt.mpr (show 12288 < c.toInt by omega) : (12288 : Int32) < c), own_f4_140, if_neg (fun q => absurd (Int32.lt_iff_toInt_lt.mp q) (show ¬ c.toInt < 55296 by omega) : ¬ c < (55296 : Int32)), if_neg (fun q => absurd (Int32.lt_iff_toInt_lt.mp q) (show ¬ 63743 < c.toInt by omega) : ¬ (63743 : Int32) < c), own_f4_176, own_f4_181]
    try rfl
  by_cases g49 : c.toInt < 63744
  · rw [own_F1, if_neg (fun q => absurd (Int32.lt_iff_toInt_lt.mp q) (show ¬ c.toInt < 128 by omega) : ¬ c < (128 : Int32)), if_neg (fun q => absurd (Int32.lt_iff_toInt_lt.mp q) (show ¬ c.toInt < 192 by omega) : ¬ c < (192 : Int32)), if_pos (Int32.lt_iff_toInt_lt.mpr (show 214 < c.toInt by omega) : (214 : Int32) < c), own_f1_37, if_neg (fun q => absurd (Int32.lt_iff_toInt_lt.mp q) (show ¬ c.toInt < 216 by omega) : ¬ c < (216 : Int32)), if_pos (Int32.lt_iff_toInt_lt.mpr (show 246 < c.toInt by omega) : (246 : Int32) < c), own_f1_51, if_neg (fun q => absurd (Int32.lt_iff_toInt_lt.mp q) (show ¬ c.toInt < 248 by omega) : ¬ c < (248 : Int32)), if_pos (Int32.lt_iff_toInt_lt.mpr (show 767 < c.toInt by omega) : (767 : Int32) < c), own_f1_65, if_neg (fun q => absurd (Int32.lt_iff_toInt_lt.mp q) (show ¬ c.toInt < 880 by omega) : ¬ c < (880 : Int32)), if_pos (Int32.lt_iff_toInt_lt.mpr (show 893 < c.toInt by omega) : (893 : Int32) < c), own_f1_79, if_neg (fun q => absurd (Int32.lt_iff_toInt_lt.mp q) (show ¬ c.toInt < 895 by omega) : ¬ c < (895 : Int32)), if_pos (Int32.lt_iff_toInt_lt.mpr (show 8191 < c.toInt by omega) : (8191 : Int32) < c), own_f1_93, if_neg (fun q => absurd (congrArg Int32.toInt q) (show ¬ c.toInt = 8204 by omega) : ¬ c = (8204 : Int32)), if_neg (fun q => absurd (congrArg Int32.toInt q) (show ¬ c.toInt = 8205 by omega) : ¬ c = (8205 : Int32)), if_neg (fun q => absurd (Int32.lt_iff_toInt_lt.mp q) (show ¬ c.toInt < 8304 by omega) : ¬ c < (8304 : Int32)), if_pos (Int32.lt_iff_toInt_lt.mpr (show 8591 < c.toInt by omega) : (8591 : Int32) < c), own_f1_121, if_neg (fun q => absurd (Int32.lt_iff_toInt_lt.mp q) (show ¬ c.toInt < 11264 by omega) : ¬ c < (11264 : Int32)), if_pos (Int32.lt_iff_toInt_lt.mpr (show 12271 < c.toInt by omega) : (12271 : Int32) < c), own_f1_135, if_neg (fun q => absurd (Int32.lt_iff_toInt_lt.mp q) (show ¬ c.toInt < 12289 by omega) : ¬ c < (12289 : Int32)), if_pos (Int32.lt_iff_toInt_lt.mpr (show 55295 < c.toInt by omega) : (55295 : Int32) < c), own_f1_148, if_pos (Int32.lt_iff_toInt_lt.mpr (show c.toInt < 63744 by omega) : c < (63744 : Int32)), own_f1_160, if_pos (Int32.lt_iff_toInt_lt.mpr (show c.toInt < 65008 by omega) : c < (65008 : Int32)), own_f1_172, if_pos (Int32.lt_iff_toInt_lt.mpr (show c.toInt < 65536 by omega) : c < (65536 : Int32)), own_f1_188, own_f1_189, own_F4, if_pos (Int32.lt_iff_toInt_lt.mpr (show 57 < c.toInt by omega) : (57 : Int32) < c), if_neg (fun q => absurd (Int32.lt_iff_toInt_lt.mp q) (show ¬ c.toInt < 59 by omega) : ¬ c < (59 : Int32)), if_pos (Int32.lt_iff_toInt_lt.mpr (show 64 < c.toInt by omega) : (64 : Int32) < c), own_f4_18, if_neg (fun q => absurd (Int32.lt_iff_toInt_lt.mp q) (show ¬ c.toInt < 91 by omega) : ¬ c < (91 : Int32)), if_pos (Int32.lt_iff_toInt_lt.mpr (show 94 < c.toInt by omega) : (94 : Int32) < c), own_f4_30, if_neg (fun q => absurd (congrArg Int32.toInt q) (show ¬ c.toInt = 96 by omega) : ¬ c = (96 : Int32)), if_neg (fun q => absurd (Int32.lt_iff_toInt_lt.mp q) (show ¬ c.toInt < 123 by omega) : ¬ c < (123 : Int32)), if_pos (Int32.lt_iff_toInt_lt.mpr (show 191 < c.toInt by omega) : (191 : Int32) < c), own_f4_49, if_neg (fun q => absurd (congrArg Int32.toInt q) (show ¬ c.toInt = 215 by omega) : ¬ c = (215 : Int32)), if_neg (fun q => absurd (congrArg Int32.toInt q) (show ¬ c.toInt = 247 by omega) : ¬ c = (247 : Int32)), if_neg (fun q => absurd (Int32.lt_iff_toInt_lt.mp q) (show ¬ c.toInt < 768 by omega) : ¬ c < (768 : Int32)), if_pos (Int32.lt_iff_toInt_lt.mpr (show 879 < c.toInt by omega) : (879 : Int32) < c), own_f4_77, if_neg (fun q => absurd (congrArg Int32.toInt q) (show ¬ c.toInt = 894 by omega) : ¬ c = (894 : Int32)), if_neg (fun q => absurd (Int32.lt_iff_toInt_lt.mp q) (show ¬ c.toInt < 8192 by omega) : ¬ c < (8192 : Int32)), if_pos (Int32.lt_iff_toInt_lt.mpr (show 8203 < c.toInt by omega) : (8203 : Int32) < c), own_f4_98, if_neg (fun q => absurd (Int32.lt_iff_toInt_lt.mp q) (show ¬ c.toInt < 8206 by omega) : ¬ c < (8206 : Int32)), if_pos (Int32.lt_iff_toInt_lt.mpr (show 8303 < c.toInt by omega) : (8303 : Int32) < c), own_f4_112, if_neg (fun q => absurd (Int32.lt_iff_toInt_lt.mp q) (show ¬ c.toInt < 8592 by omega) : ¬ c < (8592 : Int32)), if_pos (Int32.lt_iff_toInt_lt.mpr (show 11263 < c.toInt by omega) : (11263 : Int32) < c), own_f4_126, if_neg (fun q => absurd (Int32.lt_iff_toInt_lt.mp q) (show ¬ c.toInt < 12272 by omega) : ¬ c < (12272 : Int32)), if_pos (Int32.lt_iff_toInt_lt.mpr (show 12288 < c.toInt by omega) : (12288 : Int32) < c), own_f4_140, if_neg (fun q => absurd (Int32.lt_iff_toInt_lt.mp q) (show ¬ c.toInt < 55296 by omega) : ¬ c < (55296 : Int32)), if_neg (fun q => absurd (Int32.lt_iff_toInt_lt.mp q) (show ¬ 63743 < c.toInt by omega) : ¬ (63743 : Int32) < c), own_f4_176, own_f4_181]
    try rfl
  by_cases g50 : c.toInt < 63745
  · rw [own_F1, if_neg (fun q => absurd (Int32.lt_iff_toInt_lt.mp q) (show ¬ c.toInt < 128 by omega) : ¬ c < (128 : Int32)), if_neg (fun q => absurd (Int32.lt_iff_toInt_lt.mp q) (show ¬ c.toInt < 192 by omega) : ¬ c < (192 : Int32)), if_pos (Int32.lt_iff_toInt_lt.mpr (show 214 < c.toInt by omega) : (214 : Int32) < c), own_f1_37, if_neg (fun q => absurd (Int32.lt_iff_toInt_lt.mp q) (show ¬ c.toInt < 216 by omega) : ¬ c < (216 : Int32)), if_pos (Int32.lt_iff_toInt_lt.mpr (show 246 < c.toInt by omega) : (246 : Int32) < c), own_f1_51, if_neg (fun q => absurd (Int32.lt_iff_toInt_lt.mp q) (show ¬ c.toInt < 248 by omega) : ¬ c < (248 : Int32)), if_pos (Int32.lt_iff_toInt_lt.mpr (show 767 < c.toInt by omega) : (767 : Int32) < c), own_f1_65, if_neg (fun q => absurd (Int32.lt_iff_toInt_lt.mp q) (show ¬ c.toInt < 880 by omega) : ¬ c < (880 : Int32)), if_pos (Int32.lt_iff_toInt_lt.mpr (show 893 < c.toInt by omega) : (893 : Int32) < c), own_f1_79, if_neg (fun q => absurd (Int32.lt_iff_toInt_lt.mp q) (show ¬ c.toInt < 895 by omega) : ¬ c < (895 : Int32)), if_pos (Int32.lt_iff_toInt_lt.mpr (show 8191 < c.toInt by omega) : (8191 : Int32) < c), own_f1_93, if_neg (fun q => absurd (congrArg Int32.toInt q) (show ¬ c.toInt = 8204 by omega) : ¬ c = (8204 : Int32)), if_neg (fun q => absurd (congrArg Int32.toInt q) (show ¬ c.toInt = 8205 by omega) : ¬ c = (8205 : Int32)), if_neg (fun q => absurd (Int32.lt_iff_toInt_lt.mp q) (show ¬ c.toInt < 8304 by omega) : ¬ c < (8304 : Int32)), if_pos (Int32.lt_iff_toInt_lt.mpr (show 8591 < c.toInt by omega) : (8591 : Int32) < c), own_f1_121, if_neg (fun q => absurd (Int32.lt_iff_toInt_lt.mp q) (show ¬ c.toInt < 11264 by omega) : ¬ c < (11264 : Int32)), if_pos (Int32.lt_iff_toInt_lt.mpr (show 12271 < c.toInt by omega) : (12271 : Int32) < c), own_f1_135, if_neg (fun q => absurd (Int32.lt_iff_toInt_lt.mp q) (show ¬ c.toInt < 12289 by omega) : ¬ c < (12289 : Int32)), if_pos (Int32.lt_iff_toInt_lt.mpr (show 55295 < c.toInt by omega) : (55295 : Int32) < c), own_f1_148, if_neg (fun q => absurd (Int32.lt_iff_toInt_lt.mp q) (show ¬ c.toInt < 63744 by omega) : ¬ c < (63744 : Int32)), if_neg (fun q => absurd (Int32.lt_iff_toInt_lt.mp q) (show ¬ 64975 < c.toInt by omega) : ¬ (64975 : Int32) < c), own_f1_184, own_f1_189, own_F4, if_pos (Int32.lt_iff_toInt_lt.mpr (show 57 < c.toInt by omega) : (57 : Int32) < c), if_neg (fun q => absurd (Int32.lt_iff_toInt_lt.mp q) (show ¬ c.toInt < 59 by omega) : ¬ c < (59 : Int32)), if_pos (Int32.lt_iff_toInt_lt.mpr (show 64 < c.toInt by omega) : (64 : Int32) < c), own_f4_18, if_neg (fun q => absurd (Int32.lt_iff_toInt_lt.mp q) (show ¬ c.toInt < 91 by omega) : ¬ c < (91 : Int32)), if_pos (Int32.lt_iff_toInt_lt.mpr (show 94 < c.toInt by omega) : (94 : Int32) < c), own_f4_30, if_neg (fun q => absurd (congrArg Int32.toInt q) (show ¬ c.toInt = 96 by omega) : ¬ c = (96 : Int32)), if_neg (fun q => absurd (Int32.lt_iff_toInt_lt.mp q) (show ¬ c.toInt < 123 by omega) : ¬ c < (123 : Int32)), if_pos (Int32.lt_iff_toInt_lt.mpr (show 191 < c.toInt by omega) : (191 : Int32) < c), own_f4_49, if_neg (fun q => absurd (congrArg Int32.toInt q) (show ¬ c.toInt = 215 by omega) : ¬ c = (215 : Int32)), if_neg (fun q => absurd (congrArg Int32.toInt q) (show ¬ c.toInt = 247 by omega) : ¬ c = (247 : Int32)), if_neg (fun q => absurd (Int32.lt_iff_toInt_lt.mp q) (show ¬ c.toInt < 768 by omega) : ¬ c < (768 : Int32)), if_pos (Int32.lt_iff_toInt_lt.mpr (show 879 < c.toInt by omega) : (879 : Int32) < c), own_f4_77, if_neg (fun q => absurd (congrArg Int32.toInt q) (show ¬ c.toInt = 894 by omega) : ¬ c = (894 : Int32)), if_neg (fun q => absurd (Int32.lt_iff_toInt_lt.mp q) (show ¬ c.toInt < 8192 by omega) : ¬ c < (8192 : Int32)), if_pos (Int32.lt_iff_toInt_lt.mpr (show 8203 < c.toInt by omega) : (8203 : Int32) < c), own_f4_98, if_neg (fun q => absurd (Int32.lt_iff_toInt_lt.mp q) (show ¬ c.toInt < 8206 by omega) : ¬ c < (8206 : Int32)), if_pos (Int32.lt_iff_toInt_lt.mpr (show 8303 < c.toInt by omega) : (8303 : Int32) < c), own_f4_112, if_neg (fun q => absurd (Int32.lt_iff_toInt_lt.mp q) (show ¬ c.toInt < 8592 by omega) : ¬ c < (8592 : Int32)), if_pos (Int32.lt_iff_toInt_lt.mpr (show 11263 < c.toInt by omega) : (11263 : Int32) < c), own_f4_126, if_neg (fun q => absurd (Int32.lt_iff_toInt_lt.mp q) (show ¬ c.toInt < 12272 by omega) : ¬ c < (12272 : Int32)), if_pos (Int32.lt_iff_toInt_lt.mpr (show 12288 < c.toInt by omega) : (12288 : Int32) < c), own_f4_140, if_neg (fun q => absurd (Int32.lt_iff_toInt_lt.mp q) (show ¬ c.toInt < 55296 by omega) : ¬ c < (55296 : Int32)), if_pos (Int32.lt_iff_toInt_lt.mpr (show 63743 < c.toInt by omega) : (63743 : Int32) < c), own_f4_152, if_pos (Int32.lt_iff_toInt_lt.mpr (show c.toInt < 64976 by omega) : c < (64976 : Int32)), own_f4_164, if_neg (fun q => absurd (congrArg Int32.toInt q) (show ¬ c.toInt = 65534 by omega) : ¬ c = (65534 : Int32)), if_neg (fun q => absurd (congrArg Int32.toInt q) (show ¬ c.toInt = 65535 by omega) : ¬ c = (65535 : Int32)), own_f4_181]
    try rfl
  by_cases g51 : c.toInt < 64975
  · rw [own_F1, if_neg (fun q => absurd (Int32.lt_iff_toInt_lt.mp q) (show ¬ c.toInt < 128 by omega) : ¬ c < (128 : Int32)), if_neg (fun q => absurd (Int32.lt_iff_toInt_lt.mp q) (show ¬ c.toInt < 192 by omega) : ¬ c < (192 : Int32)), if_pos (Int32.lt_iff_toInt_lt.mpr (show 214 < c.toInt by omega) : (214 : Int32) < c), own_f1_37, if_neg (fun q => absurd (Int32.lt_iff_toInt_lt.mp q) (show ¬ c.toInt < 216 by omega) : ¬ c < (216 : Int32)), if_pos (Int32.lt_iff_toInt_lt.mpr (show 246 < c.toInt by omega) : (246 : Int32) < c), own_f1_51, if_neg (fun q => absurd (Int32.lt_iff_toInt_lt.mp q) (show ¬ c.toInt < 248 by omega) : ¬ c < (248 : Int32)), if_pos (Int32.lt_iff_toInt_lt.mpr (show 767 < c.toInt by omega) : (767 : Int32) < c), own_f1_65, if_neg (fun q => absurd (Int32.lt_iff_toInt_lt.mp q) (show ¬ c.toInt < 880 by omega) : ¬ c < (880 : Int32)), if_pos (Int32.lt_iff_toInt_lt.mpr (show 893 < c.toInt by omega) : (893 : Int32) < c), own_f1_79, if_neg (fun q => absurd (Int32.lt_iff_toInt_lt.mp q) (show ¬ c.toInt < 895 by omega) : ¬ c < (895 : Int32)), if_pos (Int32.lt_iff_toInt_lt.mpr (show 8191 < c.toInt by omega) : (8191 : Int32) < c), own_f1_93, if_neg (fun q => absurd (congrArg Int32.toInt q) (show ¬ c.toInt = 8204 by omega) : ¬ c = (8204 : Int32)), if_neg (fun q => absurd (congrArg Int32.toInt q) (show ¬ c.toInt = 8205 by omega) : ¬ c = (8205 : Int32)), if_neg (fun q => absurd (Int32.lt_iff_toInt_lt.mp q) (show ¬ c.toInt < 8304 by omega) : ¬ c < (8304 : Int32)), if_pos (Int32.lt_iff_toInt_lt.mpr (show 8591 < c.toInt by omega) : (8591 : Int32) < c), own_f1_121, if_neg (fun q => absurd (Int32.lt_iff_toInt_lt.mp q) (show ¬ c.toInt < 11264 by omega) : ¬ c < (11264 : Int32)), if_pos (Int32.lt_iff_toInt_lt.mpr (show 12271 < c.toInt by omega) : (12271 : Int32) < c), own_f1_135, if_neg (fun q => absurd (Int32.lt_iff_toInt_lt.mp q) (show ¬ c.toInt < 12289 by omega) : ¬ c < (12289 : Int32)), if_pos (Int32.lt_iff_toInt_lt.mpr (show 55295 < c.toInt by omega) : (55295 : Int32) < c), own_f1_148, if_neg (fun q => absurd (Int32.lt_iff_toInt_lt.mp q) (show ¬ c.toInt < 63744 by omega) : ¬ c < (63744 : Int32)), if_neg (fun q => absurd (Int32.lt_iff_toInt_lt.mp q) (show ¬ 64975 < c.toInt by omega) : ¬ (64975 : Int32) < c), own_f1_184, own_f1_189, own_F4, if_pos (Int32.lt_iff_toInt_lt.mpr (show 57 < c.toInt by omega) : (57 : Int32) < c), if_neg (fun q => absurd (Int32.lt_iff_toInt_lt.mp q) (show ¬ c.toInt < 59 by omega) : ¬ c < (59 : Int32)), if_pos (Int32.lt_iff_toInt_lt.mpr (show 64 < c.toInt by omega) : (64 : Int32) < c), own_f4_18, if_neg (fun q => absurd (Int32.lt_iff_toInt_lt.mp q) (show ¬ c.toInt < 91 by omega) : ¬ c < (91 : Int32)), if_pos (Int32.lt_iff_toInt_lt.mpr (show 94 < c.toInt by omega) : (94 : Int32) < c), own_f4_30, if_neg (fun q => absurd (congrArg Int32.toInt q) (show ¬ c.toInt = 96 by omega) : ¬ c = (96 : Int32)), if_neg (fun q => absurd (Int32.lt_iff_toInt_lt.mp q) (show ¬ c.toInt < 123 by omega) : ¬ c < (123 : Int32)), if_pos (Int32.lt_iff_toInt_lt.mpr (show 191 < c.toInt by omega) : (191 : Int32) < c), own_f4_49, if_neg (fun q => absurd (congrArg Int32.toInt q) (show ¬ c.toInt = 215 by omega) : ¬ c = (215 : Int32)), if_neg (fun q => absurd (congrArg Int32.toInt q) (show ¬ c.toInt = 247 by omega) : ¬ c = (247 : Int32)), if_neg (fun q => absurd (Int32.lt_iff_toInt_lt.mp q) (show ¬ c.toInt < 768 by omega) : ¬ c < (768 : Int32)), if_pos (Int32.lt_iff_toInt_lt.mpr (show 879 < c.toInt by omega) : (879 : Int32) < c), own_f4_77, if_neg (fun q => absurd (congrArg Int32.toInt q) (show ¬ c.toInt = 894 by omega) : ¬ c = (894 : Int32)), if_neg (fun q => absurd (Int32.lt_iff_toInt_lt.mp q) (show ¬ c.toInt < 8192 by omega) : ¬ c < (8192 : Int32)), if_pos (Int32.lt_iff_toInt_lt.mpr (show 8203 < c.toInt by omega) : (8203 : Int32) < c), own_f4_98, if_neg (fun q => absurd (Int32.lt_iff_toInt_lt.mp q) (show ¬ c.toInt < 8206 by omega) : ¬ c < (8206 : Int32)), if_pos (Int32.lt_iff_toInt_lt.mpr (show 8303 < c.toInt by omega) : (8303 : Int32) < c), own_f4_112, if_neg (fun q => absurd (Int32.lt_iff_toInt_lt.mp q) (show ¬ c.toInt < 8592 by omega) : ¬ c < (8592 : Int32)), if_pos (Int32.lt_iff_toInt_lt.mpr (show 11263 < c.toInt by omega) : (11263 : Int32) < c), own_f4_126, if_neg (fun q => absurd (Int32.lt_iff_toInt_lt.mp q) (show ¬ c.toInt < 12272 by omega) : ¬ c < (12272 : Int32)), if_pos (Int32.lt_iff_toInt_lt.mpr (show 12288 < c.toInt by omega) : (12288 : Int32) < c), own_f4_140, if_neg (fun q => absurd (Int32.lt_iff_toInt_lt.mp q) (show ¬ c.toInt < 55296 by omega) : ¬ c < (55296 : Int32)), if_pos (Int32.lt_iff_toInt_lt.mpr (show 63743 < c.toInt by omega) : (63743 : Int32) < c), own_f4_152, if_pos (Int32.lt_iff_toInt_lt.mpr (show c.toInt < 64976 by omega) : c < (64976 : Int32)), own_f4_164, if_neg (fun q => absurd (congrArg Int32.toInt q) (show ¬ c.toInt = 65534 by omega) : ¬ c = (65534 : Int32)), if_neg (fun q => absurd (congrArg Int32.toInt q) (show ¬ c.toInt = 65535 by omega) : ¬ c = (65535 : Int32)), own_f4_181]
    try rfl
  by_cases g52 : c.toInt < 64976
  · rw [own_F1, if_neg (fun q => absurd (Int32.lt_iff_toInt_lt.mp q) (show ¬ c.toInt < 128 by omega) : ¬ c < (128 : Int32)), if_neg (fun q => absurd (Int32.lt_iff_toInt_lt.mp q) (show ¬ c.toInt < 192 by omega) : ¬ c < (192 : Int32)), if_pos (Int32.lt_iff_toInt_lt.mpr (show 214 < c.toInt by omega) : (214 : Int32) < c), own_f1_37, if_neg (fun q => absurd (Int32.lt_iff_toInt_lt.mp q) (show ¬ c.toInt < 216 by omega) : ¬ c < (216 : Int32)), if_pos (Int32.lt_iff_toInt_lt.mpr (show 246 < c.toInt by omega) : (246 : Int32) < c), own_f1_51, if_neg (fun q => absurd (Int32.lt_iff_toInt_lt.mp q) (show ¬ c.toInt < 248 by omega) : ¬ c < (248 : Int32)), if_pos (Int32.lt_iff_toInt_lt.mpr (show 767 < c.toInt by omega) : (767 : Int32) < c), own_f1_65, if_neg (fun q => absurd (Int32.lt_iff_toInt_lt.mp q) (show ¬ c.toInt < 880 by omega) : ¬ c < (880 : Int32)), if_pos (Int32.lt_iff_toInt_lt.mpr (show 893 < c.toInt by omega) : (893 : Int32) < c), own_f1_79, if_neg (fun q => absurd (Int32.lt_iff_toInt_lt.mp q) (show ¬ c.toInt < 895 by omega) : ¬ c < (895 : Int32)), if_pos (Int32.lt_iff_toInt_lt.mpr (show 8191 < c.toInt by omega) : (8191 : Int32) < c), own_f1_93, if_neg (fun q => absurd (congrArg Int32.toInt q) (show ¬ c.toInt = 8204 by omega) : ¬ c = (8204 : Int32)), if_neg (fun q => absurd (congrArg Int32.toInt q) (show ¬ c.toInt = 8205 by omega) : ¬ c = (8205 : Int32)), if_neg (fun q => absurd (Int32.lt_iff_toInt_lt.mp q) (show ¬ c.toInt < 8304 by omega) : ¬ c < (8304 : Int32)), if_pos (Int32.lt_iff_toInt_lt.mpr (show 8591 < c.toInt by omega) : (8591 : Int32) < c), own_f1_121, if_neg (fun q => absurd (Int32.lt_iff_toInt_lt.mp q) (show ¬ c.toInt < 11264 by omega) : ¬ c < (11264 : Int32)), if_pos (Int32.lt_iff_toInt_lt.mpr (show 12271 < c.toInt by omega) : (12271 : Int32) < c), own_f1_135, if_neg (fun q => absurd (Int32.lt_iff_toInt_lt.mp q) (show ¬ c.toInt < 12289 by omega) : ¬ c < (12289 : Int32)), if_pos (Int32.lt_iff_toInt_lt.mpr (show 55295 < c.toInt by omega) : (55295 : Int32) < c), own_f1_148, if_neg (fun q => absurd (Int32.lt_iff_toInt_lt.mp q) (show ¬ c.toInt < 63744 by omega) : ¬ c < (63744 : Int32)), if_neg (fun q => absurd (Int32.lt_iff_toInt_lt.mp q) (show ¬ 64975 < c.toInt by omega) : ¬ (64975 : Int32) < c), own_f1_184, own_f1_189, own_F4, if_pos (Int32.lt_iff_toInt_lt.mpr (show 57 < c.toInt by omega) : (57 : Int32) < c), if_neg (fun q => absurd (Int32.lt_iff_toInt_lt.mp q) (show ¬ c.toInt < 59 by omega) : ¬ c < (59 : Int32)), if_pos (Int32.lt_iff_toInt_lt.mpr (show 64 < c.toInt by omega) : (64 : Int32) < c), own_f4_18, if_neg (fun q => absurd (Int32.lt_iff_toInt_lt.mp q) (show ¬ c.toInt < 91 by omega) : ¬ c < (91 : Int32)), if_pos (Int32.lt_iff_toInt_lt.mpr (show 94 < c.toInt by omega) : (94 : Int32) < c), own_f4_30, if_neg (fun q => absurd (congrArg Int32.toInt q) (show ¬ c.toInt = 96 by omega) : ¬ c = (96 : Int32)), if_neg (fun q => absurd (Int32.lt_iff_toInt_lt.mp q) (show ¬ c.toInt < 123 by omega) : ¬ c < (123 : Int32)), if_pos (Int32.lt_iff_toInt_lt.mpr (show 191 < c.toInt by omega) : (191 : Int32) < c), own_f4_49, if_neg (fun q => absurd (congrArg Int32.toInt q) (show ¬ c.toInt = 215 by omega) : ¬ c = (215 : Int32)), if_neg (fun q => absurd (congrArg Int32.toInt q) (show ¬ c.toInt = 247 by omega) : ¬ c = (247 : Int32)), if_neg (fun q => absurd (Int32.lt_iff_toInt_lt.mp q) (show ¬ c.toInt < 768 by omega) : ¬ c < (768 : Int32)), if_pos (Int32.lt_iff_toInt_lt.mpr (show 879 < c.toInt by omega) : (879 : Int32) < c), own_f4_77, if_neg (fun q => absurd (congrArg Int32.toInt q) (show ¬ c.toInt = 894 by omega) : ¬ c = (894 : Int32)), if_neg (fun q => absurd (Int32.lt_iff_toInt_lt.mp q) (show ¬ c.toInt < 8192 by omega) : ¬ c < (8192 : Int32)), if_pos (Int32.lt_iff_toInt_lt.mpr (show 8203 < c.toInt by omega) : (8203 : Int32) < c), own_f4_98, if_neg (fun q => absurd (Int32.lt_iff_toInt_lt.mp q) (show ¬ c.toInt < 8206 by omega) : ¬ c < (8206 : Int32)), if_pos (Int32.lt_iff_toInt_lt.mpr (show 8303 < c.toInt by omega) : (8303 : Int32) < c), own_f4_112, if_neg (fun q => absurd (Int32.lt_iff_toInt_lt.mp q) (show ¬ c.toInt < 8592 by omega) : ¬ c < (8592 : Int32)), if_pos (Int32.lt_iff_toInt_lt.mpr (show 11263 < c.toInt by omega) : (11263 : Int32) < c), own_f4_126, if_neg (fun q => absurd (Int32.lt_iff_toInt_lt.mp q) (show ¬ c.toInt < 12272 by omega) : ¬ c < (12272 : Int32)), if_pos (Int32.lt_iff_toInt_lt.mpr (show 12288 < c.toInt by omega) : (12288 : Int32) < c), own_f4_140, if_neg (fun q => absurd (Int32.lt_iff_toInt_lt.mp q) (show ¬ c.toInt < 55296 by omega) : ¬ c < (55296 : Int32)), if_pos (Int32.lt_iff_toInt_lt.mpr (show 63743 < c.toInt by omega) : (63743 : Int32) < c), own_f4_152, if_pos (Int32.lt_iff_toInt_lt.mpr (show c.toInt < 64976 by omega) : c < (64976 : Int32)), own_f4_164, if_neg (fun q => absurd (congrArg Int32.toInt q) (show ¬ c.toInt = 65534 by omega) : ¬ c = (65534 : Int32)), if_neg (fun q => absurd (congrArg Int32.toInt q) (show ¬ c.toInt = 65535 by omega) : ¬ c = (65535 : Int32)), own_f4_181]
    try rfl
  by_cases g53 : c.toInt < 64977
  · rw [own_F1, if_neg (fun q => absurd (Int32.lt_iff_toInt_lt.mp q) (show ¬ c.toInt < 128 by omega) : ¬ c < (128 : Int32)), if_neg (fun q => absurd (Int32.lt_iff_toInt_lt.mp q) (show ¬ c.toInt < 192 by omega) : ¬ c < (192 : Int32)), if_pos (Int32.lt_iff_toInt_lt.mpr (show 214 < c.toInt by omega) : (214 : Int32) < c), own_f1_37, if_neg (fun q => absurd (Int32.lt_iff_toInt_lt.mp q) (show ¬ c.toInt < 216 by omega) : ¬ c < (216 : Int32)), if_pos (Int32.lt_iff_toInt_lt.mpr (show 246 < c.toInt by omega) : (246 : Int32) < c), own_f1_51, if_neg (fun q => absurd (Int32.lt_iff_toInt_lt.mp q) (show ¬ c.toInt < 248 by omega) : ¬ c < (248 : Int32)), if_pos (Int32.lt_iff_toInt_lt.mpr (show 767 < c.toInt by omega) : (767 : Int32) < c), own_f1_65, if_neg (fun q => absurd (Int32.lt_iff_toInt_lt.mp q) (show ¬ c.toInt < 880 by omega) : ¬ c < (880 : Int32)), if_pos (Int32.lt_iff_toInt_lt.mpr (show 893 < c.toInt by omega) : (893 : Int32) < c), own_f1_79, if_neg (fun q => absurd (Int32.lt_iff_toInt_lt.mp q) (show ¬ c.toInt < 895 by omega) : ¬ c < (895 : Int32)), if_pos (Int32.lt_iff_toInt_lt.mpr (show 8191 < c.toInt by omega) : (8191 : Int32) < c), own_f1_93, if_neg (fun q => absurd (congrArg Int32.toInt q) (show ¬ c.toInt = 8204 by omega) : ¬ c = (8204 : Int32)), if_neg (fun q => absurd (congrArg Int32.toInt q) (show ¬ c.toInt = 8205 by omega) : ¬ c = (8205 : Int32)), if_neg (fun q => absurd (Int32.lt_iff_toInt_lt.mp q) (show ¬ c.toInt < 8304 by omega) : ¬ c < (8304 : Int32)), if_pos (Int32.lt_iff_toInt_lt.mpr (show 8591 < c.toInt by omega) : (8591 : Int32) < c), own_f1_121, if_neg (fun q => absurd (Int32.lt_iff_toInt_lt.mp q) (show ¬ c.toInt < 11264 by omega) : ¬ c < (11264 : Int32)), if_pos (Int32.lt_iff_toInt_lt.mpr (show 12271 < c.toInt by omega) : (12271 : Int32) < c), own_f1_135, if_neg (fun q => absurd (Int32.lt_iff_toInt_lt.mp q) (show ¬ c.toInt < 12289 by omega) : ¬ c < (12289 : Int32)), if_pos (Int32.lt_iff_toInt_lt.mpr (show 55295 < c.toInt by omega) : (55295 : Int32) < c), own_f1_148, if_neg (fun q => absurd (Int32.lt_iff_toInt_lt.mp q) (show ¬ c.toInt < 63744 by omega) : ¬ c < (63744 : Int32)), if_pos (Int32.lt_iff_toInt_lt.mpr (show 64975 < c.toInt by omega) : (64975 : Int32) < c), own_f1_160, if_pos (Int32.lt_iff_toInt_lt.mpr (show c.toInt < 65008 by omega) : c < (65008 : Int32)), own_f1_172, if_pos (Int32.lt_iff_toInt_lt.mpr (show c.toInt < 65536 by omega) : c < (65536 : Int32)), own_f1_188, own_f1_189, own_F4, if_pos (Int32.lt_iff_toInt_lt.mpr (show 57 < c.toInt by omega) : (57 : Int32) < c), if_neg (fun q => absurd (Int32.lt_iff_toInt_lt.mp q) (show ¬ c.toInt < 59 by omega) : ¬ c < (59 : Int32)), if_pos (Int32.lt_iff_toInt_lt.mpr (show 64 < c.toInt by omega) : (64 : Int32) < c), own_f4_18, if_neg (fun q => absurd (Int32.lt_iff_toInt_lt.mp q) (show ¬ c.toInt < 91 by omega) : ¬ c < (91 : Int32)), if_pos (Int32.lt_iff_toInt_lt.mpr (show 94 < c.toInt by omega) : (94 : Int32) < c), own_f4_30, if_neg (fun q => absurd (congrArg Int32.toInt q) (show ¬ c.toInt = 96 by omega) : ¬ c = (96 : Int32)), if_neg (fun q => absurd (Int32.lt_iff_toInt_lt.mp q) (show ¬ c.toInt < 123 by omega) : ¬ c < (123 : Int32)), if_pos (Int32.lt_iff_toInt_lt.mpr (show 191 < c.toInt by omega) : (191 : Int32) < c), own_f4_49, if_neg (fun q => absurd (congrArg Int32.toInt q) (show ¬ c.toInt = 215 by omega) : ¬ c = (215 : Int32)), if_neg (fun q => absurd (congrArg Int32.toInt q) (show ¬ c.toInt = 247 by omega) : ¬ c = (247 : Int32)), if_neg (fun q => absurd (Int32.lt_iff_toInt_lt.mp q) (show ¬ c.toInt < 768 by omega) : ¬ c < (768 : Int32)), if_pos (Int32.lt_iff_toInt_lt.mpr (show 879 < c.toInt by omega) : (879 : Int32) < c), own_f4_77, if_neg (fun q => absurd (congrArg Int32.toInt q) (show ¬ c.toInt = 894 by omega) : ¬ c = (894 : Int32)), if_neg (fun q => absurd (Int32.lt_iff_toInt_lt.mp q) (show ¬ c.toInt < 8192 by omega) : ¬ c < (8192 : Int32)), if_pos (Int32.lt_iff_toInt_lt.mpr (show 8203 < c.toInt by omega) : (8203 : Int32) < c), own_f4_98, if_neg (fun q => absurd (Int32.lt_iff_toInt_lt.mp q) (show ¬ c.toInt < 8206 by omega) : ¬ c < (8206 : Int32)), if_pos (Int32.lt_iff_toInt_lt.mpr (show 8303 < c.toInt by omega) : (8303 : Int32) < c), own_f4_112, if_neg (fun q => absurd (Int32.lt_iff_toInt_lt.mp q) (show ¬ c.toInt < 8592 by omega) : ¬ c < (8592 : Int32)), if_pos (Int32.lt_iff_toInt_lt.mpr (show 11263 < c.toInt by omega) : (11263 : Int32) < c), own_f4_126, if_neg (fun q => absurd (Int32.lt_iff_toInt_lt.mp q) (show ¬ c.toInt < 12272 by omega) : ¬ c < (12272 : Int32)), if_pos (Int32.lt_iff_toInt_lt.mpr (show 12288 < c.toInt by omega) : (12288 : Int32) < c), own_f4_140, if_neg (fun q => absurd (Int32.lt_iff_toInt_lt.mp q) (show ¬ c.toInt < 55296 by omega) : ¬ c < (55296 : Int32)), if_pos (Int32.lt_iff_toInt_lt.mpr (show 63743 < c.toInt by omega) : (63743 : Int32) < c), own_f4_152, if_neg (fun q => absurd (Int32.lt_iff_toInt_lt.mp q) (show ¬ c.toInt < 64976 by omega) : ¬ c < (64976 : Int32)), if_neg (fun q => absurd (Int32.lt_iff_toInt_lt.mp q) (show ¬ 65007 < c.toInt by omega) : ¬ (65007 : Int32) < c), own_f4_176, own_f4_181]
    try rfl
  by_cases g54 : c.toInt < 65007
  · rw [own_F1, if_neg (fun q => absurd (Int32.lt_iff_toInt_lt.mp q) (show ¬ c.toInt < 128 by omega) : ¬ c < (128 : Int32)), if_neg (fun q => absurd (Int32.lt_iff_toInt_lt.mp q) (show ¬ c.toInt < 192 by omega) : ¬ c < (192 : Int32)), if_pos (Int32.lt_iff_toInt_lt.mpr (show 214 < c.toInt by omega) : (214 : Int32) < c), own_f1_37, if_neg (fun q => absurd (Int32.lt_iff_toInt_lt.mp q) (show ¬ c.toInt < 216 by omega) : ¬ c < (216 : Int32)), if_pos (Int32.lt_iff_toInt_lt.mpr (show 246 < c.toInt by omega) : (246 : Int32) < c), own_f1_51, if_neg (fun q => absurd (Int32.lt_iff_toInt_lt.mp q) (show ¬ c.toInt < 248 by omega) : ¬ c < (248 : Int32)), if_pos (Int32.lt_iff_toInt_lt.mpr (show 767 < c.toInt by omega) : (767 : Int32) < c), own_f1_65, if_neg (fun q => absurd (Int32.lt_iff_toInt_lt.mp q) (show ¬ c.toInt < 880 by omega) : ¬ c < (880 : Int32)), if_pos (Int32.lt_iff_toInt_lt.mpr (show 893 < c.toInt by omega) : (893 : Int32) < c), own_f1_79, if_neg (fun q => absurd (Int32.lt_iff_toInt_lt.mp q) (show ¬ c.toInt < 895 by omega) : ¬ c < (895 : Int32)), if_pos (Int32.lt_iff_toInt_lt.mpr (show 8191 < c.toInt by omega) : (8191 : Int32) < c), own_f1_93, if_neg (fun q => absurd (congrArg Int32.toInt q) (show ¬ c.toInt = 8204 by omega) : ¬ c = (8204 : Int32)), if_neg (fun q => absurd (congrArg Int32.toInt q) (show ¬ c.toInt = 8205 by omega) : ¬ c = (8205 : Int32)), if_neg (fun q => absurd (Int32.lt_iff_toInt_lt.mp q) (show ¬ c.toInt < 8304 by omega) : ¬ c < (8304 : Int32)), if_pos (Int32.lt_iff_toInt_lt.mpr (show 8591 < c.toInt by omega) : (8591 : Int32) < c), own_f1_121, if_neg (fun q => absurd (Int32.lt_iff_toInt_lt.mp q) (show ¬ c.toInt < 11264 by omega) : ¬ c < (11264 : Int32)), if_pos (Int32.lt_iff_toInt_lt.mpr (show 12271 < c.toInt by omega) : (12271 : Int32) < c), own_f1_135, if_neg (fun q => absurd (Int32.lt_iff_toInt_lt.mp q) (show ¬ c.toInt < 12289 by omega) : ¬ c < (12289 : Int32)), if_pos (Int32.lt_iff_toInt_lt.mpr (show 55295 < c.toInt by omega) : (55295 : Int32) < c), own_f1_148, if_neg (fun q => absurd (Int32.lt_iff_toInt_lt.mp q) (show ¬ c.toInt < 63744 by omega) : ¬ c < (63744 : Int32)), if_pos (Int32.lt_iff_toInt_lt.mpr (show 64975 < c.toInt by omega) : (64975 : Int32) < c), own_f1_160, if_pos (Int32.lt_iff_toInt_lt.mpr (show c.toInt < 65008 by omega) : c < (65008 : Int32)), own_f1_172, if_pos (Int32.lt_iff_toInt_lt.mpr (show c.toInt < 65536 by omega) : c < (65536 : Int32)), own_f1_188, own_f1_189, own_F4, if_pos (Int32.lt_iff_toInt_lt.mpr (show 57 < c.toInt by omega) : (57 : Int32) < c), if_neg (fun q => absurd (Int32.lt_iff_toInt_lt.mp q) (show ¬ c.toInt < 59 by omega) : ¬ c < (59 : Int32)), if_pos (Int32.lt_iff_toInt_lt.mpr (show 64 < c.toInt by omega) : (64 : Int32) < c), own_f4_18, if_neg (fun q => absurd (Int32.lt_iff_toInt_lt.mp q) (show ¬ c.toInt < 91 by omega) : ¬ c < (91 : Int32)), if_pos (Int32.lt_iff_toInt_lt.mpr (show 94 < c.toInt by omega) : (94 : Int32) < c), own_f4_30, if_neg (fun q => absurd (congrArg Int32.toInt q) (show ¬ c.toInt = 96 by omega) : ¬ c = (96 : Int32)), if_neg (fun q => absurd (Int32.lt_iff_toInt_lt.mp q) (show ¬ c.toInt < 123 by omega) : ¬ c < (123 : Int32)), if_pos (Int32.lt_iff_toInt_lt.mpr (show 191 < c.toInt by omega) : (191 : Int32) < c), own_f4_49, if_neg (fun q => absurd (congrArg Int32.toInt q) (show ¬ c.toInt = 215 by omega) : ¬ c = (215 : Int32)), if_neg (fun q => absurd (congrArg Int32.toInt q) (show ¬ c.toInt = 247 by omega) : ¬ c = (247 : Int32)), if_neg (fun q => absurd (Int32.lt_iff_toInt_lt.mp q) (show ¬ c.toInt < 768 by omega) : ¬ c < (768 : Int32)), if_pos (Int32.lt_iff_toInt_lt.mpr (show 879 < c.toInt by omega) : (879 : Int32) < c), own_f4_77, if_neg (fun q => absurd (congrArg Int32.toInt q) (show ¬ c.toInt = 894 by omega) : ¬ c = (894 : Int32)), if_neg (fun q => absurd (Int32.lt_iff_toInt_lt.mp q) (show ¬ c.toInt < 8192 by omega) : ¬ c < (8192 : Int32)), if_pos (Int32.lt_iff_toInt_lt.mpr (show 8203 < c.toInt by omega) : (8203 : Int32) < c), own_f4_98, if_neg (fun q => absurd (Int32.lt_iff_toInt_lt.mp q) (show ¬ c.toInt < 8206 by omega) : ¬ c < (8206 : Int32)), if_pos (Int32.lt_iff_toInt_lt.mpr (show 8303 < c.toInt by omega) : (8303 : Int32) < c), own_f4_112, if_neg (fun q => absurd (Int32.lt_iff_toInt_lt.mp q) (show ¬ c.toInt < 8592 by omega) : ¬ c < (8592 : Int32)), if_pos (Int32.lt_iff_toInt_lt.mpr (show 11263 < c.toInt by omega) : (11263 : Int32) < c), own_f4_126, if_neg (fun q => absurd (Int32.lt_iff_toInt_lt.mp q) (show ¬ c.toInt < 12272 by omega) : ¬ c < (12272 : Int32)), if_pos (Int32.lt_iff_toInt_lt.mpr (show 12288 < c.toInt by omega) : (12288 : Int32) < c), own_f4_140, if_neg (fun q => absurd (Int32.lt_iff_toInt_lt.mp q) (show ¬ c.toInt < 55296 by omega) : ¬ c < (55296 : Int32)), if_pos (Int32.lt_iff_toInt_lt.mpr (show 63743 < c.toInt by omega) : (63743 : Int32) < c), own_f4_152, if_neg (fun q => absurd (Int32.lt_iff_toInt_lt.mp q) (show ¬ c.toInt < 64976 by omega) : ¬ c < (64976 : Int32)), if_neg (fun q => absurd (Int32.lt_iff_toInt_lt.mp q) (show ¬ 65007 < c.toInt by omega) : ¬ (65007 : Int32) < c), own_f4_176, own_f4_181]
    try rfl
  by_cases g55 : c.toInt < 65008
  · rw [own_F1, if_neg (fun q => absurd (Int32.lt_iff_toInt_lt.mp q) (show ¬ c.toInt < 128 by omega) : ¬ c < (128 : Int32)), if_neg (fun q => absurd (Int32.lt_iff_toInt_lt.mp q) (show ¬ c.toInt < 192 by omega) : ¬ c < (192 : Int32)), if_pos (Int32.lt_iff_toInt_lt.mpr (show 214 < c.toInt by omega) : (214 : Int32) < c), own_f1_37, if_neg (fun q => absurd (Int32.lt_iff_toInt_lt.mp q) (show ¬ c.toInt < 216 by omega) : ¬ c < (216 : Int32)), if_pos (Int32.lt_iff_toInt_lt.mpr (show 246 < c.toInt by omega) : (246 : Int32) < c), own_f1_51, if_neg (fun q => absurd (Int32.lt_iff_toInt_lt.mp q) (show ¬ c.toInt < 248 by omega) : ¬ c < (248 : Int32)), if_pos (Int32.lt_iff_toInt_lt.mpr (show 767 < c.toInt by omega) : (767 : Int32) < c), own_f1_65, if_neg (fun q => absurd (Int32.lt_iff_toInt_lt.mp q) (show ¬ c.toInt < 880 by omega) : ¬ c < (880 : Int32)), if_pos (Int32.lt_iff_toInt_lt.mpr (show 893 < c.toInt by omega) : (893 : Int32) < c), own_f1_79, if_neg (fun q => absurd (Int32.lt_iff_toInt_lt.mp q) (show ¬ c.toInt < 895 by omega) : ¬ c < (895 : Int32)), if_pos (Int32.lt_iff_toInt_lt.mpr (show 8191 < c.toInt by omega) : (8191 : Int32) < c), own_f1_93, if_neg (fun q => absurd (congrArg Int32.toInt q) (show ¬ c.toInt = 8204 by omega) : ¬ c = (8204 : Int32)), if_neg (fun q => absurd (congrArg Int32.toInt q) (show ¬ c.toInt = 8205 by omega) : ¬ c = (8205 : Int32)), if_neg (fun q => absurd (Int32.lt_iff_toInt_lt.mp q) (show ¬ c.toInt < 8304 by omega) : ¬ c < (8304 : Int32)), if_pos (Int32.lt_iff_toInt_lt.mpr (show 8591 < c.toInt by omega) : (8591 : Int32) < c), own_f1_121, if_neg (fun q => absurd (Int32.lt_iff_toInt_lt.mp q) (show ¬ c.toInt < 11264 by omega) : ¬ c < (11264 : Int32)), if_pos (Int32.lt_iff_toInt_lt.mpr (show 12271 < c.toInt by omega) : (12271 : Int32) < c), own_f1_135, if_neg (fun q => absurd (Int32.lt_iff_toInt_lt.mp q) (show ¬ c.toInt < 12289 by omega) : ¬ c < (12289 : Int32)), if_pos (Int32.lt_iff_toInt_lt.mpr (show 55295 < c.toInt by omega) : (55295 : Int32) < c), own_f1_148, if_neg (fun q => absurd (Int32.lt_iff_toInt_lt.mp q) (show ¬ c.toInt < 63744 by omega) : ¬ c < (63744 : Int32)), if_pos (Int32.lt_iff_toInt_lt.mpr (show 64975 < c.toInt by omega) : (64975 : Int32) < c), own_f1_160, if_pos (Int32.lt_iff_toInt_lt.mpr (show c.toInt < 65008 by omega) : c < (65008 : Int32)), own_f1_172, if_pos (Int32.lt_iff_toInt_lt.mpr (show c.toInt < 65536 by omega) : c < (65536 : Int32)), own_f1_188, own_f1_189, own_F4, if_pos (Int32.lt_iff_toInt_lt.mpr (show 57 < c.toInt by omega) : (57 : Int32) < c), if_neg (fun q => absurd (Int32.lt_iff_toInt_lt.mp q) (show ¬ c.toInt < 59 by omega) : ¬ c < (59 : Int32)), if_pos (Int32.lt_iff_toInt_lt.mpr (show 64 < c.toInt by omega) : (64 : Int32) < c), own_f4_18, if_neg (fun q => absurd (Int32.lt_iff_toInt_lt.mp q) (show ¬ c.toInt < 91 by omega) : ¬ c < (91 : Int32)), if_pos (Int32.lt_iff_toInt_lt.mpr (show 94 < c.toInt by omega) : (94 : Int32) < c), own_f4_30, if_neg (fun q => absurd (congrArg Int32.toInt q) (show ¬ c.toInt = 96 by omega) : ¬ c = (96 : Int32)), if_neg (fun q => absurd (Int32.lt_iff_toInt_lt.mp q) (show ¬ c.toInt < 123 by omega) : ¬ c < (123 : Int32)), if_pos (Int32.lt_iff_toInt_lt.mpr (show 191 < c.toInt by omega) : (191 : Int32) < c), own_f4_49, if_neg (fun q => absurd (congrArg Int32.toInt q) (show ¬ c.toInt = 215 by omega) : ¬ c = (215 : Int32)), if_neg (fun q => absurd (congrArg Int32.toInt q) (show ¬ c.toInt = 247 by omega) : ¬ c = (247 : Int32)), if_neg (fun q => absurd (Int32.lt_iff_toInt_lt.mp q) (show ¬ c.toInt < 768 by omega) : ¬ c < (768 : Int32)), if_pos (Int32.lt_iff_toInt_lt.mpr (show 879 < c.toInt by omega) : (879 : Int32) < c), own_f4_77, if_neg (fun q => absurd (congrArg Int32.toInt q) (show ¬ c.toInt = 894 by omega) : ¬ c = (894 : Int32)), if_neg (fun q => absurd (Int32.lt_iff_toInt_lt.mp q) (show ¬ c.toInt < 8192 by omega) : ¬ c < (8192 : Int32)), if_pos (Int32.lt_iff_toInt_lt.mpr (show 8203 < c.toInt by omega) : (8203 : Int32) < c), own_f4_98, if_neg (fun q => absurd (Int32.lt_iff_toInt_lt.mp q) (show ¬ c.toInt < 8206 by omega) : ¬ c < (8206 : Int32)), if_pos (Int32.lt_iff_toInt_lt.mpr (show 8303 < c.toInt by omega) : (8303 : Int32) < c), own_f4_112, if_neg (fun q => absurd (Int32.lt_iff_toInt_lt.mp q) (show ¬ c.toInt < 8592 by omega) : ¬ c < (8592 : Int32)), if_pos (Int32.lt_iff_toInt_lt.mpr (show 11263 < c.toInt by omega) : (11263 : Int32) < c), own_f4_126, if_neg (fun q => absurd (Int32.lt_iff_toInt_lt.mp q) (show ¬ c.toInt < 12272 by omega) : ¬ c < (12272 : Int32)), if_pos (Int32.lt_iff_toInt_lt.mpr (show 12288 < c.toInt by omega) : (12288 : Int32) < c), own_f4_140, if_neg (fun q => absurd (Int32.lt_iff_toInt_lt.mp q) (show ¬ c.toInt < 55296 by omega) : ¬ c < (55296 : Int32)), if_pos (Int32.lt_iff_toInt_lt.mpr (show 63743 < c.toInt by omega) : (63743 : Int32) < c), own_f4_152, if_neg (fun q => absurd (Int32.lt_iff_toInt_lt.mp q) (show ¬ c.toInt < 64976 by omega) : ¬ c < (64976 : Int32)), if_neg (fun q => absurd (Int32.lt_iff_toInt_lt.mp q) (show ¬ 65007 < c.toInt by omega) : ¬ (65007 : Int32) < c), own_f4_176, own_f4_181]
    try rfl
  by_cases g56 : c.toInt < 65009
  · rw [own_F1, if_neg (fun q => absurd (Int32.lt_iff_toInt_lt.mp q) (show ¬ c.toInt < 128 by omega) : ¬ c < (128 : Int32)), if_neg (fun q => absurd (Int32.lt_iff_toInt_lt.mp q) (show ¬ c.toInt < 192 by omega) : ¬ c < (192 : Int32)), if_pos (Int32.lt_iff_toInt_lt.mpr (show 214 < c.toInt by omega) : (214 : Int32) < c), own_f1_37, if_neg (fun q => absurd (Int32.lt_iff_toInt_lt.mp q) (show ¬ c.toInt < 216 by omega) : ¬ c < (216 : Int32)), if_pos (Int32.lt_iff_toInt_lt.mpr (show 246 < c.toInt by omega) : (246 : Int32) < c), own_f1_51, if_neg (fun q => absurd (Int32.lt_iff_toInt_lt.mp q) (show ¬ c.toInt < 248 by omega) : ¬ c < (248 : Int32)), if_pos (Int32.lt_iff_toInt_lt.mpr (show 767 < c.toInt by omega) : (767 : Int32) < c), own_f1_65, if_neg (fun q => absurd (Int32.lt_iff_toInt_lt.mp q) (show ¬ c.toInt < 880 by omega) : ¬ c < (880 : Int32)), if_pos (Int32.lt_iff_toInt_lt.mpr (show 893 < c.toInt by omega) : (893 : Int32) < c), own_f1_79, if_neg (fun q => absurd (Int32.lt_iff_toInt_lt.mp q) (show ¬ c.toInt < 895 by omega) : ¬ c < (895 : Int32)), if_pos (Int32.lt_iff_toInt_lt.mpr (show 8191 < c.toInt by omega) : (8191 : Int32) < c), own_f1_93, if_neg (fun q => absurd (congrArg Int32.toInt q) (show ¬ c.toInt = 8204 by omega) : ¬ c = (8204 : Int32)), if_neg (fun q => absurd (congrArg Int32.toInt q) (show ¬ c.toInt = 8205 by omega) : ¬ c = (8205 : Int32)), if_neg (fun q => absurd (Int32.lt_iff_toInt_lt.mp q) (show ¬ c.toInt < 8304 by omega) : ¬ c < (8304 : Int32)), if_pos (Int32.lt_iff_toInt_lt.mpr (show 8591 < c.toInt by omega) : (8591 : Int32) < c), own_f1_121, if_neg (fun q => absurd (Int32.lt_iff_toInt_lt.mp q) (show ¬ c.toInt < 11264 by omega) : ¬ c < (11264 : Int32)), if_pos (Int32.lt_iff_toInt_lt.mpr (show 12271 < c.toInt by omega) : (12271 : Int32) < c), own_f1_135, if_neg (fun q => absurd (Int32.lt_iff_toInt_lt.mp q) (show ¬ c.toInt < 12289 by omega) : ¬ c < (12289 : Int32)), if_pos (Int32.lt_iff_toInt_lt.mpr (show 55295 < c.toInt by omega) : (55295 : Int32) < c), own_f1_148, if_neg (fun q => absurd (Int32.lt_iff_toInt_lt.mp q) (show ¬ c.toInt < 63744 by omega) : ¬ c < (63744 : Int32)), if_pos (Int32.lt_iff_toInt_lt.mpr (show 64975 < c.toInt by omega) : (64975 : Int32) < c), own_f1_160, if_neg (fun q => absurd (Int32.lt_iff_toInt_lt.mp q) (show ¬ c.toInt < 65008 by omega) : ¬ c < (65008 : Int32)), if_neg (fun q => absurd (Int32.lt_iff_toInt_lt.mp q) (show ¬ 65533 < c.toInt by omega) : ¬ (65533 : Int32) < c), own_f1_184, own_f1_189, own_F4, if_pos (Int32.lt_iff_toInt_lt.mpr (show 57 < c.toInt by omega) : (57 : Int32) < c), if_neg (fun q => absurd (Int32.lt_iff_toInt_lt.mp q) (show ¬ c.toInt < 59 by omega) : ¬ c < (59 : Int32)), if_pos (Int32.lt_iff_toInt_lt.mpr (show 64 < c.toInt by omega) : (64 : Int32) < c), own_f4_18, if_neg (fun q => absurd (Int32.lt_iff_toInt_lt.mp q) (show ¬ c.toInt < 91 by omega) : ¬ c < (91 : Int32)), if_pos (Int32.lt_iff_toInt_lt.mpr (show 94 < c.toInt by omega) : (94 : Int32) < c), own_f4_30, if_neg (fun q => absurd (congrArg Int32.toInt q) (show ¬ c.toInt = 96 by omega) : ¬ c = (96 : Int32)), if_neg (fun q => absurd (Int32.lt_iff_toInt_lt.mp q) (show ¬ c.toInt < 123 by omega) : ¬ c < (123 : Int32)), if_pos (Int32.lt_iff_toInt_lt.mpr (show 191 < c.toInt by omega) : (191 : Int32) < c), own_f4_49, if_neg (fun q => absurd (congrArg Int32.toInt q) (show ¬ c.toInt = 215 by omega) : ¬ c = (215 : Int32)), if_neg (fun q => absurd (congrArg Int32.toInt q) (show ¬ c.toInt = 247 by omega) : ¬ c = (247 : Int32)), if_neg (fun q => absurd (Int32.lt_iff_toInt_lt.mp q) (show ¬ c.toInt < 768 by omega) : ¬ c < (768 : Int32)), if_pos (Int32.lt_iff_toInt_lt.mpr (show 879 < c.toInt by omega) : (879 : Int32) < c), own_f4_77, if_neg (fun q => absurd (congrArg Int32.toInt q) (show ¬ c.toInt = 894 by omega) : ¬ c = (894 : Int32)), if_neg (fun q => absurd (Int32.lt_iff_toInt_lt.mp q) (show ¬ c.toInt < 8192 by omega) : ¬ c < (8192 : Int32)), if_pos (Int32.lt_iff_toInt_lt.mpr (show 8203 < c.toInt by omega) : (8203 : Int32) < c), own_f4_98, if_neg (fun q => absurd (Int32.lt_iff_toInt_lt.mp q) (show ¬ c.toInt < 8206 by omega) : ¬ c < (8206 : Int32)), if_pos (Int32.lt_iff_toInt_lt.mpr (show 8303 < c.toInt by omega) : (8303 : Int32) < c), own_f4_112, if_neg (fun q => absurd (Int32.lt_iff_toInt_lt.mp q) (show ¬ c.toInt < 8592 by omega) : ¬ c < (8592 : Int32)), if_pos (Int32.lt_iff_toInt_lt.mpr (show 11263 < c.toInt by omega) : (11263 : Int32) < c), own_f4_126, if_neg (fun q => absurd (Int32.lt_iff_toInt_lt.mp q) (show ¬ c.toInt < 12272 by omega) : ¬ c < (12272 : Int32)), if_pos (Int32.lt_iff_toInt_lt.mpr (show 12288 < c.toInt by omega) : (12288 : Int32) < c), own_f4_140, if_neg (fun q => absurd (Int32.lt_iff_toInt_lt.mp q) (show ¬ c.toInt < 55296 by omega) : ¬ c < (55296 : Int32)), if_pos (Int32.lt_iff_toInt_lt.mpr (show 63743 < c.toInt by omega) : (63743 : Int32) < c), own_f4_152, if_neg (fun q => absurd (Int32.lt_iff_toInt_lt.mp q) (show ¬ c.toInt < 64976 by omega) : ¬ c < (64976 : Int32)), if_pos (Int32.lt_iff_toInt_lt.mpr (show 65007 < c.toInt by omega) : (65007 : Int32) < c), own_f4_164, if_neg (fun q => absurd (congrArg Int32.toInt q) (show ¬ c.toInt = 65534 by omega) : ¬ c = (65534 : Int32)), if_neg (fun q => absurd (congrArg Int32.toInt q) (show ¬ c.toInt = 65535 by omega) : ¬ c = (65535 : Int32)), own_f4_181]
    try rfl
  by_cases g57 : c.toInt < 65533
  · rw [own_F1, if_neg (fun q => absurd (Int32.lt_iff_toInt_lt.mp q) (show ¬ c.toInt < 128 by omega) : ¬ c < (128 : Int32)), if_neg (fun q => absurd (Int32.lt_iff_toInt_lt.mp q) (show ¬ c.toInt < 192 by omega) : ¬ c < (192 : Int32)), if_pos (Int32.lt_iff_toInt_lt.mpr (show 214 < c.toInt by omega) : (214 : Int32) < c), own_f1_37, if_neg (fun q => absurd (Int32.lt_iff_toInt_lt.mp q) (show ¬ c.toInt < 216 by omega) : ¬ c < (216 : Int32)), if_pos (Int32.lt_iff_toInt_lt.mpr (show 246 < c.toInt by omega) : (246 : Int32) < c), own_f1_51, if_neg (fun q => absurd (Int32.lt_iff_toInt_lt.mp q) (show ¬ c.toInt < 248 by omega) : ¬ c < (248 : Int32)), if_pos (Int32.lt_iff_toInt_lt.mpr (show 767 < c.toInt by omega) : (767 : Int32) < c), own_f1_65, if_neg (fun q => absurd (Int32.lt_iff_toInt_lt.mp q) (show ¬ c.toInt < 880 by omega) : ¬ c < (880 : Int32)), if_pos (Int32.lt_iff_toInt_lt.mpr (show 893 < c.toInt by omega) : (893 : Int32) < c), own_f1_79, if_neg (fun q => absurd (Int32.lt_iff_toInt_lt.mp q) (show ¬ c.toInt < 895 by omega) : ¬ c < (895 : Int32)), if_pos (Int32.lt_iff_toInt_lt.mpr (show 8191 < c.toInt by omega) : (8191 : Int32) < c), own_f1_93, if_neg (fun q => absurd (congrArg Int32.toInt q) (show ¬ c.toInt = 8204 by omega) : ¬ c = (8204 : Int32)), if_neg (fun q => absurd (congrArg Int32.toInt q) (show ¬ c.toInt = 8205 by omega) : ¬ c = (8205 : Int32)), if_neg (fun q => absurd (Int32.lt_iff_toInt_lt.mp q) (show ¬ c.toInt < 8304 by omega) : ¬ c < (8304 : Int32)), if_pos (Int32.lt_iff_toInt_lt.mpr (show 8591 < c.toInt by omega) : (8591 : Int32) < c), own_f1_121, if_neg (fun q => absurd (Int32.lt_iff_toInt_lt.mp q) (show ¬ c.toInt < 11264 by omega) : ¬ c < (11264 : Int32)), if_pos (Int32.lt_iff_toInt_lt.mpr (show 12271 < c.toInt by omega) : (12271 : Int32) < c), own_f1_135, if_neg (fun q => absurd (Int32.lt_iff_toInt_lt.mp q) (show ¬ c.toInt < 12289 by omega) : ¬ c < (12289 : Int32)), if_pos (Int32.lt_iff_toInt_lt.mpr (show 55295 < c.toInt by omega) : (55295 : Int32) < c), own_f1_148, if_neg (fun q => absurd (Int32.lt_iff_toInt_lt.mp q) (show ¬ c.toInt < 63744 by omega) : ¬ c < (63744 : Int32)), if_pos (Int32.lt_iff_toInt_lt.mpr (show 64975 < c.toInt by omega) : (64975 : Int32) < c), own_f1_160, if_neg (fun q => absurd (Int32.lt_iff_toInt_lt.mp q) (show ¬ c.toInt < 65008 by omega) : ¬ c < (65008 : Int32)), if_neg (fun q => absurd (Int32.lt_iff_toInt_lt.mp q) (show ¬ 65533 < c.toInt by omega) : ¬ (65533 : Int32) < c), own_f1_184, own_f1_189, own_F4, if_pos (Int32.lt_iff_toInt_lt.mpr (show 57 < c.toInt by omega) : (57 : Int32) < c), if_neg (fun q => absurd (Int32.lt_iff_toInt_lt.mp q) (show ¬ c.toInt < 59 by omega) : ¬ c < (59 : Int32)), if_pos (Int32.lt_iff_toInt_lt.mpr (show 64 < c.toInt by omega) : (64 : Int32) < c), own_f4_18, if_neg (fun q => absurd (Int32.lt_iff_toInt_lt.mp q) (show ¬ c.toInt < 91 by omega) : ¬ c < (91 : Int32)), if_pos (Int32.lt_iff_toInt_lt.mpr (show 94 < c.toInt by omega) : (94 : Int32) < c), own_f4_30, if_neg (fun q => absurd (congrArg Int32.toInt q) (show ¬ c.toInt = 96 by omega) : ¬ c = (96 : Int32)), if_neg (fun q => absurd (Int32.lt_iff_toInt_lt.mp q) (show ¬ c.toInt < 123 by omega) : ¬ c < (123 : Int32)), if_pos (Int32.lt_iff_toInt_lt.mpr (show 191 < c.toInt by omega) : (191 : Int32) < c), own_f4_49, if_neg (fun q => absurd (congrArg Int32.toInt q) (show ¬ c.toInt = 215 by omega) : ¬ c = (215 : Int32)), if_neg (fun q => absurd (congrArg Int32.toInt q) (show ¬ c.toInt = 247 by omega) : ¬ c = (247 : Int32)), if_neg (fun q => absurd (Int32.lt_iff_toInt_lt.mp q) (show ¬ c.toInt < 768 by omega) : ¬ c < (768 : Int32)), if_pos (Int32.lt_iff_toInt_lt.mpr (show 879 < c.toInt by omega) : (879 : Int32) < c), own_f4_77, if_neg (fun q => absurd (congrArg Int32.toInt q) (show ¬ c.toInt = 894 by omega) : ¬ c = (894 : Int32)), if_neg (fun q => absurd (Int32.lt_iff_toInt_lt.mp q) (show ¬ c.toInt < 8192 by omega) : ¬ c < (8192 : Int32)), if_pos (Int32.lt_iff_toInt_lt.mpr (show 8203 < c.toInt by omega) : (8203 : Int32) < c), own_f4_98, if_neg (fun q => absurd (Int32.lt_iff_toInt_lt.mp q) (show ¬ c.toInt < 8206 by omega) : ¬ c < (8206 : Int32)), if_pos (Int32.lt_iff_toInt_lt.mpr (show 8303 < c.toInt by omega) : (8303 : Int32) < c), own_f4_112, if_neg (fun q => absurd (Int32.lt_iff_toInt_lt.mp q) (show ¬ c.toInt < 8592 by omega) : ¬ c < (8592 : Int32)), if_pos (Int32.lt_iff_toInt_lt.mpr (show 11263 < c.toInt by omega) : (11263 : Int32) < c), own_f4_126, if_neg (fun q => absurd (Int32.lt_iff_toInt_lt.mp q) (show ¬ c.toInt < 12272 by omega) : ¬ c < (12272 : Int32)), if_pos (Int32.lt_iff_toInt_lt.mpr (show 12288 < c.toInt by omega) : (12288 : Int32) < c), own_f4_140, if_neg (fun q => absurd (Int32.lt_iff_toInt_lt.mp q) (show ¬ c.toInt < 55296 by omega) : ¬ c < (55296 : Int32)), if_pos (Int32.lt_iff_toInt_lt.mpr (show 63743 < c.toInt by omega) : (63743 : Int32) < c), own_f4_152, if_neg (fun q => absurd (Int32.lt_iff_toInt_lt.mp q) (show ¬ c.toInt < 64976 by omega) : ¬ c < (64976 : Int32)), if_pos (Int32.lt_iff_toInt_lt.mpr (show 65007 < c.toInt by omega) : (65007 : Int32) < c), own_f4_164, if_neg (fun q => absurd (congrArg Int32.toInt q) (show ¬ c.toInt = 65534 by omega) : ¬ c = (65534 : Int32)), if_neg (fun q => absurd (congrArg Int32.toInt q) (show ¬ c.toInt = 65535 by omega) : ¬ c = (65535 : Int32)), own_f4_181]
    try rfl
  by_cases g58 : c.toInt < 65534
  · rw [own_F1, if_neg (fun q => absurd (Int32.lt_iff_toInt_lt.mp q) (show ¬ c.toInt < 128 by omega) : ¬ c < (128 : Int32)), if_neg (fun q => absurd (Int32.lt_iff_toInt_lt.mp q) (show ¬ c.toInt < 192 by omega) : ¬ c < (192 : Int32)), if_pos (Int32.lt_iff_toInt_lt.mpr (show 214 < c.toInt by omega) : (214 : Int32) < c), own_f1_37, if_neg (fun q => absurd (Int32.lt_iff_toInt_lt.mp q) (show ¬ c.toInt < 216 by omega) : ¬ c < (216 : Int32)), if_pos (Int32.lt_iff_toInt_lt.mpr (show 246 < c.toInt by omega) : (246 : Int32) < c), own_f1_51, if_neg (fun q => absurd (Int32.lt_iff_toInt_lt.mp q) (show ¬ c.toInt < 248 by omega) : ¬ c < (248 : Int32)), if_pos (Int32.lt_iff_toInt_lt.mpr (show 767 < c.toInt by omega) : (767 : Int32) < c), own_f1_65, if_neg (fun q => absurd (Int32.lt_iff_toInt_lt.mp q) (show ¬ c.toInt < 880 by omega) : ¬ c < (880 : Int32)), if_pos (Int32.lt_iff_toInt_lt.mpr (show 893 < c.toInt by omega) : (893 : Int32) < c), own_f1_79, if_neg (fun q => absurd (Int32.lt_iff_toInt_lt.mp q) (show ¬ c.toInt < 895 by omega) : ¬ c < (895 : Int32)), if_pos (Int32.lt_iff_toInt_lt.mpr (show 8191 < c.toInt by omega) : (8191 : Int32) < c), own_f1_93, if_neg (fun q => absurd (congrArg Int32.toInt q) (show ¬ c.toInt = 8204 by omega) : ¬ c = (8204 : Int32)), if_neg (fun q => absurd (congrArg Int32.toInt q) (show ¬ c.toInt = 8205 by omega) : ¬ c = (8205 : Int32)), if_neg (fun q => absurd (Int32.lt_iff_toInt_lt.mp q) (show ¬ c.toInt < 8304 by omega) : ¬ c < (8304 : Int32)), if_pos (Int32.lt_iff_toInt_lt.mpr (show 8591 < c.toInt by omega) : (8591 : Int32) < c), own_f1_121, if_neg (fun q => absurd (Int32.lt_iff_toInt_lt.mp q) (show ¬ c.toInt < 11264 by omega) : ¬ c < (11264 : Int32)), if_pos (Int32.lt_iff_toInt_lt.mpr (show 12271 < c.toInt by omega) : (12271 : Int32) < c), own_f1_135, if_neg (fun q => absurd (Int32.lt_iff_toInt_lt.mp q) (show ¬ c.toInt < 12289 by omega) : ¬ c < (12289 : Int32)), if_pos (Int32.lt_iff_toInt_lt.mpr (show 55295 < c.toInt by omega) : (55295 : Int32) < c), own_f1_148, if_neg (fun q => absurd (Int32.lt_iff_toInt_lt.mp q) (show ¬ c.toInt < 63744 by omega) : ¬ c < (63744 : Int32)), if_pos (Int32.lt_iff_toInt_lt.mpr (show 64975 < c.toInt by omega) : (64975 : Int32) < c), own_f1_160, if_neg (fun q => absurd (Int32.lt_iff_toInt_lt.mp q) (show ¬ c.toInt < 65008 by omega) : ¬ c < (65008 : Int32)), if_neg (fun q => absurd (Int32.lt_iff_toInt_lt.mp q) (show ¬ 65533 < c.toInt by omega) : ¬ (65533 : Int32) < c), own_f1_184, own_f1_189, own_F4, if_pos (Int32.lt_iff_toInt_lt.mpr (show 57 < c.toInt by omega) : (57 : Int32) < c), if_neg (fun q => absurd (Int32.lt_iff_toInt_lt.mp q) (show ¬ c.toInt < 59 by omega) : ¬ c < (59 : Int32)), if_pos (Int32.lt_iff_toInt_lt.mpr (show 64 < c.toInt by omega) : (64 : Int32) < c), own_f4_18, if_neg (fun q => absurd (Int32.lt_iff_toInt_lt.mp q) (show ¬ c.toInt < 91 by omega) : ¬ c < (91 : Int32)), if_pos (Int32.lt_iff_toInt_lt.mpr (show 94 < c.toInt by omega) : (94 : Int32) < c), own_f4_30, if_neg (fun q => absurd (congrArg Int32.toInt q) (show ¬ c.toInt = 96 by omega) : ¬ c = (96 : Int32)), if_neg (fun q => absurd (Int32.lt_iff_toInt_lt.mp q) (show ¬ c.toInt < 123 by omega) : ¬ c < (123 : Int32)), if_pos (Int32.lt_iff_toInt_lt.mpr (show 191 < c.toInt by omega) : (191 : Int32) < c), own_f4_49, if_neg (fun q => absurd (congrArg Int32.toInt q) (show ¬ c.toInt = 215 by omega) : ¬ c = (215 : Int32)), if_neg (fun q => absurd (congrArg Int32.toInt q) (show ¬ c.toInt = 247 by omega) : ¬ c = (247 : Int32)), if_neg (fun q => absurd (Int32.lt_iff_toInt_lt.mp q) (show ¬ c.toInt < 768 by omega) : ¬ c < (768 : Int32)), if_pos (Int32.lt_iff_toInt_lt.mpr (show 879 < c.toInt by omega) : (879 : Int32) < c), own_f4_77, if_neg (fun q => absurd (congrArg Int32.toInt q) (show ¬ c.toInt = 894 by omega) : ¬ c = (894 : Int32)), if_neg (fun q => absurd (Int32.lt_iff_toInt_lt.mp q) (show ¬ c.toInt < 8192 by omega) : ¬ c < (8192 : Int32)), if_pos (Int32.lt_iff_toInt_lt.mpr (show 8203 < c.toInt by omega) : (8203 : Int32) < c), own_f4_98, if_neg (fun q => absurd (Int32.lt_iff_toInt_lt.mp q) (show ¬ c.toInt < 8206 by omega) : ¬ c < (8206 : Int32)), if_pos (Int32.lt_iff_toInt_lt.mpr (show 8303 < c.toInt by omega) : (8303 : Int32) < c), own_f4_112, if_neg (fun q => absurd (Int32.lt_iff_toInt_lt.mp q) (show ¬ c.toInt < 8592 by omega) : ¬ c < (8592 : Int32)), if_pos (Int32.lt_iff_toInt_lt.mpr (show 11263 < c.toInt by omega) : (11263 : Int32) < c), own_f4_126, if_neg (fun q => absurd (Int32.lt_iff_toInt_lt.mp q) (show ¬ c.toInt < 12272 by omega) : ¬ c < (12272 : Int32)), if_pos (Int32.lt_iff_toInt_lt.mpr (show 12288 < c.toInt by omega) : (12288 : Int32) < c), own_f4_140, if_neg (fun q => absurd (Int32.lt_iff_toInt_lt.mp q) (show ¬ c.toInt < 55296 by omega) : ¬ c < (55296 : Int32)), if_pos (Int32.lt_iff_toInt_lt.mpr (show 63743 < c.toInt by omega) : (63743 : Int32) < c), own_f4_152, if_neg (fun q => absurd (Int32.lt_iff_toInt_lt.mp q) (show ¬ c.toInt < 64976 by omega) : ¬ c < (64976 : Int32)), if_pos (Int32.lt_iff_toInt_lt.mpr (show 65007 < c.toInt by omega) : (65007 : Int32) < c), own_f4_164, if_neg (fun q => absurd (congrArg Int32.toInt q) (show ¬ c.toInt = 65534 by omega) : ¬ c = (65534 : Int32)), if_neg (fun q => absurd (congrArg Int32.toInt q) (show ¬ c.toInt = 65535 by omega) : ¬ c = (65535 : Int32)), own_f4_181]
    try rfl
  by_cases g59 : c.toInt < 65535
  · rw [own_F1, if_neg (fun q => absurd (Int32.lt_iff_toInt_lt.mp q) (show ¬ c.toInt < 128 by omega) : ¬ c < (128 : Int32)), if_neg (fun q => absurd (Int32.lt_iff_toInt_lt.mp q) (show ¬ c.toInt < 192 by omega) : ¬ c < (192 : Int32)), if_pos (Int32.lt_iff_toInt_lt.mpr (show 214 < c.toInt by omega) : (214 : Int32) < c), own_f1_37, if_neg (fun q => absurd (Int32.lt_iff_toInt_lt.mp q) (show ¬ c.toInt < 216 by omega) : ¬ c < (216 : Int32)), if_pos (Int32.lt_iff_toInt_lt.mpr (show 246 < c.toInt by omega) : (246 : Int32) < c), own_f1_51, if_neg (fun q => absurd (Int32.lt_iff_toInt_lt.mp q) (show ¬ c.toInt < 248 by omega) : ¬ c < (248 : Int32)), if_pos (Int32.lt_iff_toInt_lt.mpr (show 767 < c.toInt by omega) : (767 : Int32) < c), own_f1_65, if_neg (fun q => absurd (Int32.lt_iff_toInt_lt.mp q) (show ¬ c.toInt < 880 by omega) : ¬ c < (880 : Int32)), if_pos (Int32.lt_iff_toInt_lt.mpr (show 893 < c.toInt by omega) : (893 : Int32) < c), own_f1_79, if_neg (fun q => absurd (Int32.lt_iff_toInt_lt.mp q) (show ¬ c.toInt < 895 by omega) : ¬ c < (895 : Int32)), if_pos (Int32.lt_iff_toInt_lt.mpr (show 8191 < c.toInt by omega) : (8191 : Int32) < c), own_f1_93, if_neg (fun q => absurd (congrArg Int32.toInt q) (show ¬ c.toInt = 8204 by omega) : ¬ c = (8204 : Int32)), if_neg (fun q => absurd (congrArg Int32.toInt q) (show ¬ c.toInt = 8205 by omega) : ¬ c = (8205 : Int32)), if_neg (fun q => absurd (Int32.lt_iff_toInt_lt.mp q) (show ¬ c.toInt < 8304 by omega) : ¬ c < (8304 : Int32)), if_pos (Int32.lt_iff_toInt_lt.mpr (show 8591 < c.toInt by omega) : (8591 : Int32) < c), own_f1_121, if_neg (fun q => absurd (Int32.lt_iff_toInt_lt.mp q) (show ¬ c.toInt < 11264 by omega) : ¬ c < (11264 : Int32)), if_pos (Int32.lt_iff_toInt_lt.mpr (show 12271 < c.toInt by omega) : (12271 : Int32) < c), own_f1_135, if_neg (fun q => absurd (Int32.lt_iff_toInt_lt.mp q) (show ¬ c.toInt < 12289 by omega) : ¬ c < (12289 : Int32)), if_pos (Int32.lt_iff_toInt_lt.mpr (show 55295 < c.toInt by omega) : (55295 : Int32) < c), own_f1_148, if_neg (fun q => absurd (Int32.lt_iff_toInt_lt.mp q) (show ¬ c.toInt < 63744 by omega) : ¬ c < (63744 : Int32)), if_pos (Int32.lt_iff_toInt_lt.mpr (show 64975 < c.toInt by omega) : (64975 : Int32) < c), own_f1_160, if_neg (fun q => absurd (Int32.lt_iff_toInt_lt.mp q) (show ¬ c.toInt < 65008 by omega) : ¬ c < (65008 : Int32)), if_pos (Int32.lt_iff_toInt_lt.mpr (show 65533 < c.toInt by omega) : (65533 : Int32) < c), own_f1_172, if_pos (Int32.lt_iff_toInt_lt.mpr (show c.toInt < 65536 by omega) : c < (65536 : Int32)), own_f1_188, own_f1_189, own_F4, if_pos (Int32.lt_iff_toInt_lt.mpr (show 57 < c.toInt by omega) : (57 : Int32) < c), if_neg (fun q => absurd (Int32.lt_iff_toInt_lt.mp q) (show ¬ c.toInt < 59 by omega) : ¬ c < (59 : Int32)), if_pos (Int32.lt_iff_toInt_lt.mpr (show 64 < c.toInt by omega) : (64 : Int32) < c), own_f4_18, if_neg (fun q => absurd (Int32.lt_iff_toInt_lt.mp q) (show ¬ c.toInt < 91 by omega) : ¬ c < (91 : Int32)), if_pos (Int32.lt_iff_toInt_lt.mpr (show 94 < c.toInt by omega) : (94 : Int32) < c), own_f4_30, if_neg (fun q => absurd (congrArg Int32.toInt q) (show ¬ c.toInt = 96 by omega) : ¬ c = (96 : Int32)), if_neg (fun q => absurd (Int32.lt_iff_toInt_lt.mp q) (show ¬ c.toInt < 123 by omega) : ¬ c < (123 : Int32)), if_pos (Int32.lt_iff_toInt_lt.mpr (show 191 < c.toInt by omega) : (191 : Int32) < c), own_f4_49, if_neg (fun q => absurd (congrArg Int32.toInt q) (show ¬ c.toInt = 215 by omega) : ¬ c = (215 : Int32)), if_neg (fun q => absurd (congrArg Int32.toInt q) (show ¬ c.toInt = 247 by omega) : ¬ c = (247 : Int32)), if_neg (fun q => absurd (Int32.lt_iff_toInt_lt.mp q) (show ¬ c.toInt < 768 by omega) : ¬ c < (768 : Int32)), if_pos (Int32.lt_iff_toInt_lt.mpr (show 879 < c.toInt by omega) : (879 : Int32) < c), own_f4_77, if_neg (fun q => absurd (congrArg Int32.toInt q) (show ¬ c.toInt = 894 by omega) : ¬ c = (894 : Int32)), if_neg (fun q => absurd (Int32.lt_iff_toInt_lt.mp q) (show ¬ c.toInt < 8192 by omega) : ¬ c < (8192 : Int32)), if_pos (Int32.lt_iff_toInt_lt.mpr (show 8203 < c.toInt by omega) : (8203 : Int32) < c), own_f4_98, if_neg (fun q => absurd (Int32.lt_iff_toInt_lt.mp q) (show ¬ c.toInt < 8206 by omega) : ¬ c < (8206 : Int32)), if_pos (Int32.lt_iff_toInt_lt.mpr (show 8303 < c.toInt by omega) : (8303 : Int32) < c), own_f4_112, if_neg (fun q => absurd (Int32.lt_iff_toInt_lt.mp q) (show ¬ c.toInt < 8592 by omega) : ¬ c < (8592 : Int32)), if_pos (Int32.lt_iff_toInt_lt.mpr (show 11263 < c.toInt by omega) : (11263 : Int32) < c), own_f4_126, if_neg (fun q => absurd (Int32.lt_iff_toInt_lt.mp q) (show ¬ c.toInt < 12272 by omega) : ¬ c < (12272 : Int32)), if_pos (Int32.lt_iff_toInt_lt.mpr (show 12288 < c.toInt by omega) : (12288 : Int32) < c), own_f4_140, if_neg (fun q => absurd (Int32.lt_iff_toInt_lt.mp q) (show ¬ c.toInt < 55296 by omega) : ¬ c < (55296 : Int32)), if_pos (Int32.lt_iff_toInt_lt.mpr (show 63743 < c.toInt by omega) : (63743 : Int32) < c), own_f4_152, if_neg (fun q => absurd (Int32.lt_iff_toInt_lt.mp q) (show ¬ c.toInt < 64976 by omega) : ¬ c < (64976 : Int32)), if_pos (Int32.lt_iff_toInt_lt.mpr (show 65007 < c.toInt by omega) : (65007 : Int32) < c), own_f4_164, if_pos (Int32.toInt_inj.mp (show c.toInt = 65534 by omega) : c = (65534 : Int32)), own_f4_176, own_f4_181]
    try rfl
  by_cases g60 : c.toInt < 65536
  · rw [own_F1, if_neg (fun q => absurd (Int32.lt_iff_toInt_lt.mp q) (show ¬ c.toInt < 128 by omega) : ¬ c < (128 : Int32)), if_neg (fun q => absurd (Int32.lt_iff_toInt_lt.mp q) (show ¬ c.toInt < 192 by omega) : ¬ c < (192 : Int32)), if_pos (Int32.lt_iff_toInt_lt.mpr (show 214 < c.toInt by omega) : (214 : Int32) < c), own_f1_37, if_neg (fun q => absurd (Int32.lt_iff_toInt_lt.mp q) (show ¬ c.toInt < 216 by omega) : ¬ c < (216 : Int32)), if_pos (Int32.lt_iff_toInt_lt.mpr (show 246 < c.toInt by omega) : (246 : Int32) < c), own_f1_51, if_neg (fun q => absurd (Int32.lt_iff_toInt_lt.mp q) (show ¬ c.toInt < 248 by omega) : ¬ c < (248 : Int32)), if_pos (Int32.lt_iff_toInt_lt.mpr (show 767 < c.toInt by omega) : (767 : Int32) < c), own_f1_65, if_neg (fun q => absurd (Int32.lt_iff_toInt_lt.mp q) (show ¬ c.toInt < 880 by omega) : ¬ c < (880 : Int32)), if_pos (Int32.lt_iff_toInt_lt.mpr (show 893 < c.toInt by omega) : (893 : Int32) < c), own_f1_79, if_neg (fun q => absurd (Int32.lt_iff_toInt_lt.mp q) (show ¬ c.toInt < 895 by omega) : ¬ c < (895 : Int32)), if_pos (Int32.lt_iff_toInt_lt.mpr (show 8191 < c.toInt by omega) : (8191 : Int32) < c), own_f1_93, if_neg (fun q => absurd (congrArg Int32.toInt q) (show ¬ c.toInt = 8204 by omega) : ¬ c = (8204 : Int32)), if_neg (fun q => absurd (congrArg Int32.toInt q) (show ¬ c.toInt = 8205 by omega) : ¬ c = (8205 : Int32)), if_neg (fun q => absurd (Int32.lt_iff_toInt_lt.mp q) (show ¬ c.toInt < 8304 by omega) : ¬ c < (8304 : Int32)), if_pos (Int32.lt_iff_toInt_lt.mpr (show 8591 < c.toInt by omega) : (8591 : Int32) < c), own_f1_121, if_neg (fun q => absurd (Int32.lt_iff_toInt_lt.mp q) (show ¬ c.toInt < 11264 by omega) : ¬ c < (11264 : Int32)), if_pos (Int32.lt_iff_toInt_lt.mpr (show 12271 < c.toInt by omega) : (12271 : Int32) < c), own_f1_135, if_neg (fun q => absurd (Int32.lt_iff_toInt_lt.mp q) (show ¬ c.toInt < 12289 by omega) : ¬ c < (12289 : Int32)), if_pos (Int32.lt_iff_toInt_lt.mpr (show 55295 < c.toInt by omega) : (55295 : Int32) < c), own_f1_148, if_neg (fun q => absurd (Int32.lt_iff_toInt_lt.mp q) (show ¬ c.toInt < 63744 by omega) : ¬ c < (63744 : Int32)), if_pos (Int32.lt_iff_toInt_lt.mpr (show 64975 < c.toInt by omega) : (64975 : Int32) < c), own_f1_160, if_neg (fun q => absurd (Int32.lt_iff_toInt_lt.mp q) (show ¬ c.toInt < 65008 by omega) : ¬ c < (65008 : Int32)), if_pos (Int32.lt_iff_toInt_lt.mpr (show 65533 < c.toInt by omega) : (65533 : Int32) < c), own_f1_172, if_pos (Int32.lt_iff_toInt_lt.mpr (show c.toInt < 65536 by omega) : c < (65536 : Int32)), own_f1_188, own_f1_189, own_F4, if_pos (Int32.lt_iff_toInt_lt.mpr (show 57 < c.toInt by omega) : (57 : Int32) < c), if_neg (fun q => absurd (Int32.lt_iff_toInt_lt.mp q) (show ¬ c.toInt < 59 by omega) : ¬ c < (59 : Int32)), if_pos (Int32.lt_iff_toInt_lt.mpr (show 64 < c.toInt by omega) : (64 : Int32) < c), own_f4_18, if_neg (fun q => absurd (Int32.lt_iff_toInt_lt.mp q) (show ¬ c.toInt < 91 by omega) : ¬ c < (91 : Int32)), if_pos (Int32.lt_iff_toInt_lt.mpr (show 94 < c.toInt by omega) : (94 : Int32) < c), own_f4_30, if_neg (fun q => absurd (congrArg Int32.toInt q) (show ¬ c.toInt = 96 by omega) : ¬ c = (96 : Int32)), if_neg (fun q => absurd (Int32.lt_iff_toInt_lt.mp q) (show ¬ c.toInt < 123 by omega) : ¬ c < (123 : Int32)), if_pos (Int32.lt_iff_toInt_lt.mpr (show 191 < c.toInt by omega) : (191 : Int32) < c), own_f4_49, if_neg (fun q => absurd (congrArg Int32.toInt q) (show ¬ c.toInt = 215 by omega) : ¬ c = (215 : Int32)), if_neg (fun q => absurd (congrArg Int32.toInt q) (show ¬ c.toInt = 247 by omega) : ¬ c = (247 : Int32)), if_neg (fun q => absurd (Int32.lt_iff_toInt_lt.mp q) (show ¬ c.toInt < 768 by omega) : ¬ c < (768 : Int32)), if_pos (Int32.lt_iff_toInt_lt.mpr (show 879 < c.toInt by omega) : (879 : Int32) < c), own_f4_77, if_neg (fun q => absurd (congrArg Int32.toInt q) (show ¬ c.toInt = 894 by omega) : ¬ c = (894 : Int32)), if_neg (fun q => absurd (Int32.lt_iff_toInt_lt.mp q) (show ¬ c.toInt < 8192 by omega) : ¬ c < (8192 : Int32)), if_pos (Int32.lt_iff_toInt_lt.mpr (show 8203 < c.toInt by omega) : (8203 : Int32) < c), own_f4_98, if_neg (fun q => absurd (Int32.lt_iff_toInt_lt.mp q) (show ¬ c.toInt < 8206 by omega) : ¬ c < (8206 : Int32)), if_pos (Int32.lt_iff_toInt_lt.mpr (show 8303 < c.toInt by omega) : (8303 : Int32) < c), own_f4_112, if_neg (fun q => absurd (Int32.lt_iff_toInt_lt.mp q) (show ¬ c.toInt < 8592 by omega) : ¬ c < (8592 : Int32)), if_pos (Int32.lt_iff_toInt_lt.mpr (show 11263 < c.toInt by omega) : (11263 : Int32) < c), own_f4_126, if_neg (fun q => absurd (Int32.lt_iff_toInt_lt.mp q) (show ¬ c.toInt < 12272 by omega) : ¬ c < (12272 : Int32)), if_pos (Int32.lt_iff_toInt_lt.mpr (show 12288 < c.toInt by omega) : (12288 : Int32) < c), own_f4_140, if_neg (fun q => absurd (Int32.lt_iff_toInt_lt.mp q) (show ¬ c.toInt < 55296 by omega) : ¬ c < (55296 : Int32)), if_pos (Int32.lt_iff_toInt_lt.mpr (show 63743 < c.toInt by omega) : (63743 : Int32) < c), own_f4_152, if_neg (fun q => absurd (Int32.lt_iff_toInt_lt.mp q) (show ¬ c.toInt < 64976 by omega) : ¬ c < (64976 : Int32)), if_pos (Int32.lt_iff_toInt_lt.mpr (show 65007 < c.toInt by omega) : (65007 : Int32) < c), own_f4_164, if_neg (fun q => absurd (congrArg Int32.toInt q) (show ¬ c.toInt = 65534 by omega) : ¬ c = (65534 : Int32)), if_pos (Int32.toInt_inj.mp (show c.toInt = 65535 by omega) : c = (65535 : Int32)), own_f4_176, own_f4_181]
    try rfl
  by_cases g61 : c.toInt < 65537
  · rw [own_F1, if_neg (fun q => absurd (Int32.lt_iff_toInt_lt.mp q) (show ¬ c.toInt < 128 by omega) : ¬ c < (128 : Int32)), if_neg (fun q => absurd (Int32.lt_iff_toInt_lt.mp q) (show ¬ c.toInt < 192 by omega) : ¬ c < (192 : Int32)), if_pos (Int32.lt_iff_toInt_lt.mpr (show 214 < c.toInt by omega) : (214 : Int32) < c), own_f1_37, if_neg (fun q => absurd (Int32.lt_iff_toInt_lt.mp q) (show ¬ c.toInt < 216 by omega) : ¬ c < (216 : Int32)), if_pos (Int32.lt_iff_toInt_lt.mpr (show 246 < c.toInt by omega) : (246 : Int32) < c), own_f1_51, if_neg (fun q => absurd (Int32.lt_iff_toInt_lt.mp q) (show ¬ c.toInt < 248 by omega) : ¬ c < (248 : Int32)), if_pos (Int32.lt_iff_toInt_lt.mpr (show 767 < c.toInt by omega) : (767 : Int32) < c), own_f1_65, if_neg (fun q => absurd (Int32.lt_iff_toInt_lt.mp q) (show ¬ c.toInt < 880 by omega) : ¬ c < (880 : Int32)), if_pos (Int32.lt_iff_toInt_lt.mpr (show 893 < c.toInt by omega) : (893 : Int32) < c), own_f1_79, if_neg (fun q => absurd (Int32.lt_iff_toInt_lt.mp q) (show ¬ c.toInt < 895 by omega) : ¬ c < (895 : Int32)), if_pos (Int32.lt_iff_toInt_lt.mpr (show 8191 < c.toInt by omega) : (8191 : Int32) < c), own_f1_93, if_neg (fun q => absurd (congrArg Int32.toInt q) (show ¬ c.toInt = 8204 by omega) : ¬ c = (8204 : Int32)), if_neg (fun q => absurd (congrArg Int32.toInt q) (show ¬ c.toInt = 8205 by omega) : ¬ c = (8205 : Int32)), if_neg (fun q => absurd (Int32.lt_iff_toInt_lt.mp q) (show ¬ c.toInt < 8304 by omega) : ¬ c < (8304 : Int32)), if_pos (Int32.lt_iff_toInt_lt.mpr (show 8591 < c.toInt by omega) : (8591 : Int32) < c), own_f1_121, if_neg (fun q => absurd (Int32.lt_iff_toInt_lt.mp q) (show ¬ c.toInt < 11264 by omega) : ¬ c < (11264 : Int32)), if_pos (Int32.lt_iff_toInt_lt.mpr (show 12271 < c.toInt by omega) : (12271 : Int32) < c), own_f1_135, if_neg (fun q => absurd (Int32.lt_iff_toInt_lt.mp q) (show ¬ c.toInt < 12289 by omega) : ¬ c < (12289 : Int32)), if_pos (Int32.lt_iff_toInt_lt.mpr (show 55295 < c.toInt by omega) : (55295 : Int32) < c), own_f1_148, if_neg (fun q => absurd (Int32.lt_iff_toInt_lt.mp q) (show ¬ c.toInt < 63744 by omega) : ¬ c < (63744 : Int32)), if_pos (Int32.lt_iff_toInt_lt.mpr (show 64975 < c.toInt by omega) : (64975 : Int32) < c), own_f1_160, if_neg (fun q => absurd (Int32.lt_iff_toInt_lt.mp q) (show ¬ c.toInt < 65008 by omega) : ¬ c < (65008 : Int32)), if_pos (Int32.lt_iff_toInt_lt.mpr (show 65533 < c.toInt by omega) : (65533 : Int32) < c), own_f1_172, if_neg (fun q => absurd (Int32.lt_iff_toInt_lt.mp q) (show ¬ c.toInt < 65536 by omega) : ¬ c < (65536 : Int32)), if_neg (fun q => absurd (Int32.lt_iff_toInt_lt.mp q) (show ¬ 983039 < c.toInt by omega) : ¬ (983039 : Int32) < c), own_f1_184, own_f1_189, own_F4, if_pos (Int32.lt_iff_toInt_lt.mpr (show 57 < c.toInt by omega) : (57 : Int32) < c), if_neg (fun q => absurd (Int32.lt_iff_toInt_lt.mp q) (show ¬ c.toInt < 59 by omega) : ¬ c < (59 : Int32)), if_pos (Int32.lt_iff_toInt_lt.mpr (show 64 < c.toInt by omega) : (64 : Int32) < c), own_f4_18, if_neg (fun q => absurd (Int32.lt_iff_toInt_lt.mp q) (show ¬ c.toInt < 91 by omega) : ¬ c < (91 : Int32)), if_pos (Int32.lt_iff_toInt_lt.mpr (show 94 < c.toInt by omega) : (94 : Int32) < c), own_f4_30, if_neg (fun q => absurd (congrArg Int32.toInt q) (show ¬ c.toInt = 96 by omega) : ¬ c = (96 : Int32)), if_neg (fun q => absurd (Int32.lt_iff_toInt_lt.mp q) (show ¬ c.toInt < 123 by omega) : ¬ c < (123 : Int32)), if_pos (Int32.lt_iff_toInt_lt.mpr (show 191 < c.toInt by omega) : (191 : Int32) < c), own_f4_49, if_neg (fun q => absurd (congrArg Int32.toInt q) (show ¬ c.toInt = 215 by omega) : ¬ c = (215 : Int32)), if_neg (fun q => absurd (congrArg Int32.toInt q) (show ¬ c.toInt = 247 by omega) : ¬ c = (247 : Int32)), if_neg (fun q => absurd (Int32.lt_iff_toInt_lt.mp q) (show ¬ c.toInt < 768 by omega) : ¬ c < (768 : Int32)), if_pos (Int32.lt_iff_toInt_lt.mpr (show 879 < c.toInt by omega) : (879 : Int32) < c), own_f4_77, if_neg (fun q => absurd (congrArg Int32.toInt q) (show ¬ c.toInt = 894 by omega) : ¬ c = (894 : Int32)), if_neg (fun q => absurd (Int32.lt_iff_toInt_lt.mp q) (show ¬ c.toInt < 8192 by omega) : ¬ c < (8192 : Int32)), if_pos (Int32.lt_iff_toInt_lt.mpr (show 8203 < c.toInt by omega) : (8203 : Int32) < c), own_f4_98, if_neg (fun q => absurd (Int32.lt_iff_toInt_lt.mp q) (show ¬ c.toInt < 8206 by omega) : ¬ c < (8206 : Int32)), if_pos (Int32.lt_iff_toInt_lt.mpr (show 8303 < c.toInt by omega) : (8303 : Int32) < c), own_f4_112, if_neg (fun q => absurd (Int32.lt_iff_toInt_lt.mp q) (show ¬ c.toInt < 8592 by omega) : ¬ c < (8592 : Int32)), if_pos (Int32.lt_iff_toInt_lt.mpr (show 11263 < c.toInt by omega) : (11263 : Int32) < c), own_f4_126, if_neg (fun q => absurd (Int32.lt_iff_toInt_lt.mp q) (show ¬ c.toInt < 12272 by omega) : ¬ c < (12272 : Int32)), if_pos (Int32.lt_iff_toInt_lt.mpr (show 12288 < c.toInt by omega) : (12288 : Int32) < c), own_f4_140, if_neg (fun q => absurd (Int32.lt_iff_toInt_lt.mp q) (show ¬ c.toInt < 55296 by omega) : ¬ c < (55296 : Int32)), if_pos (Int32.lt_iff_toInt_lt.mpr (show 63743 < c.toInt by omega) : (63743 : Int32) < c), own_f4_152, if_neg (fun q => absurd (Int32.lt_iff_toInt_lt.mp q) (show ¬ c.toInt < 64976 by omega) : ¬ c < (64976 : Int32)), if_pos (Int32.lt_iff_toInt_lt.mpr (show 65007 < c.toInt by omega) : (65007 : Int32) < c), own_f4_164, if_neg (fun q => absurd (congrArg Int32.toInt q) (show ¬ c.toInt = 65534 by omega) : ¬ c = (65534 : Int32)), if_neg (fun q => absurd (congrArg Int32.toInt q) (show ¬ c.toInt = 65535 by omega) : ¬ c = (65535 : Int32)), own_f4_181]
    try rfl
  by_cases g62 : c.toInt < 983039
  · rw [own_F1, if_neg (fun q => absurd (Int32.lt_iff_toInt_lt.mp q) (show ¬ c.toInt < 128 by omega) : ¬ c < (128 : Int32)), if_neg (fun q => absurd (Int32.lt_iff_toInt_lt.mp q) (show ¬ c.toInt < 192 by omega) : ¬ c < (192 : Int32)), if_pos (Int32.lt_iff_toInt_lt.mpr (show 214 < c.toInt by omega) : (214 : Int32) < c), own_f1_37, if_neg (fun q => absurd (Int32.lt_iff_toInt_lt.mp q) (show ¬ c.toInt < 216 by omega) : ¬ c < (216 : Int32)), if_pos (Int32.lt_iff_toInt_lt.mpr (show 246 < c.toInt by omega) : (246 : Int32) < c), own_f1_51, if_neg (fun q => absurd (Int32.lt_iff_toInt_lt.mp q) (show ¬ c.toInt < 248 by omega) : ¬ c < (248 : Int32)), if_pos (Int32.lt_iff_toInt_lt.mpr (show 767 < c.toInt by omega) : (767 : Int32) < c), own_f1_65, if_neg (fun q => absurd (Int32.lt_iff_toInt_lt.mp q) (show ¬ c.toInt < 880 by omega) : ¬ c < (880 : Int32)), if_pos (Int32.lt_iff_toInt_lt.mpr (show 893 < c.toInt by omega) : (893 : Int32) < c), own_f1_79, if_neg (fun q => absurd (Int32.lt_iff_toInt_lt.mp q) (show ¬ c.toInt < 895 by omega) : ¬ c < (895 : Int32)), if_pos (Int32.lt_iff_toInt_lt.mpr (show 8191 < c.toInt by omega) : (8191 : Int32) < c), own_f1_93, if_neg (fun q => absurd (congrArg Int32.toInt q) (show ¬ c.toInt = 8204 by omega) : ¬ c = (8204 : Int32)), if_neg (fun q => absurd (congrArg Int32.toInt q) (show ¬ c.toInt = 8205 by omega) : ¬ c = (8205 : Int32)), if_neg (fun q => absurd (Int32.lt_iff_toInt_lt.mp q) (show ¬ c.toInt < 8304 by omega) : ¬ c < (8304 : Int32)), if_pos (Int32.lt_iff_toInt_lt.mpr (show 8591 < c.toInt by omega) : (8591 : Int32) < c), own_f1_121, if_neg (fun q => absurd (Int32.lt_iff_toInt_lt.mp q) (show ¬ c.toInt < 11264 by omega) : ¬ c < (11264 : Int32)), if_pos (Int32.lt_iff_toInt_lt.mpr (show 12271 < c.toInt by omega) : (12271 : Int32) < c), own_f1_135, if_neg (fun q => absurd (Int32.lt_iff_toInt_lt.mp q) (show ¬ c.toInt < 12289 by omega) : ¬ c < (12289 : Int32)), if_pos (Int32.lt_iff_toInt_lt.mpr (show 55295 < c.toInt by omega) : (55295 : Int32) < c), own_f1_148, if_neg (fun q => absurd (Int32.lt_iff_toInt_lt.mp q) (show ¬ c.toInt < 63744 by omega) : ¬ c < (63744 : Int32)), if_pos (Int32.lt_iff_toInt_lt.mpr (show 64975 < c.toInt by omega) : (64975 : Int32) < c), own_f1_160, if_neg (fun q => absurd (Int32.lt_iff_toInt_lt.mp q) (show ¬ c.toInt < 65008 by omega) : ¬ c < (65008 : Int32)), if_pos (Int32.lt_iff_toInt_lt.mpr (show 65533 < c.toInt by omega) : (65533 : Int32) < c), own_f1_172, if_neg (fun q => absurd (Int32.lt_iff_toInt_lt.mp q) (show ¬ c.toInt < 65536 by omega) : ¬ c < (65536 : Int32)), if_neg (fun q => absurd (Int32.lt_iff_toInt_lt.mp q) (show ¬ 983039 < c.toInt by omega) : ¬ (983039 : Int32) < c), own_f1_184, own_f1_189, own_F4, if_pos (Int32.lt_iff_toInt_lt.mpr (show 57 < c.toInt by omega) : (57 : Int32) < c), if_neg (fun q => absurd (Int32.lt_iff_toInt_lt.mp q) (show ¬ c.toInt < 59 by omega) : ¬ c < (59 : Int32)), if_pos (Int32.lt_iff_toInt_lt.mpr (show 64 < c.toInt by omega) : (64 : Int32) < c), own_f4_18, if_neg (fun q => absurd (Int32.lt_iff_toInt_lt.mp q) (show ¬ c.toInt < 91 by omega) : ¬ c < (91 : Int32)), if_pos (Int32.lt_iff_toInt_lt.mpr (show 94 < c.toInt by omega) : (94 : Int32) < c), own_f4_30, if_neg (fun q => absurd (congrArg Int32.toInt q) (show ¬ c.toInt = 96 by omega) : ¬ c = (96 : Int32)), if_neg (fun q => absurd (Int32.lt_iff_toInt_lt.mp q) (show ¬ c.toInt < 123 by omega) : ¬ c < (123 : Int32)), if_pos (Int32.lt_iff_toInt_lt.mpr (show 191 < c.toInt by omega) : (191 : Int32) < c), own_f4_49, if_neg (fun q => absurd (congrArg Int32.toInt q) (show ¬ c.toInt = 215 by omega) : ¬ c = (215 : Int32)), if_neg (fun q => absurd (congrArg Int32.toInt q) (show ¬ c.toInt = 247 by omega) : ¬ c = (247 : Int32)), if_neg (fun q => absurd (Int32.lt_iff_toInt_lt.mp q) (show ¬ c.toInt < 768 by omega) : ¬ c < (768 : Int32)), if_pos (Int32.lt_iff_toInt_lt.mpr (show 879 < c.toInt by omega) : (879 : Int32) < c), own_f4_77, if_neg (fun q => absurd (congrArg Int32.toInt q) (show ¬ c.toInt = 894 by omega) : ¬ c = (894 : Int32)), if_neg (fun q => absurd (Int32.lt_iff_toInt_lt.mp q) (show ¬ c.toInt < 8192 by omega) : ¬ c < (8192 : Int32)), if_pos (Int32.lt_iff_toInt_lt.mpr (show 8203 < c.toInt by omega) : (8203 : Int32) < c), own_f4_98, if_neg (fun q => absurd (Int32.lt_iff_toInt_lt.mp q) (show ¬ c.toInt < 8206 by omega) : ¬ c < (8206 : Int32)), if_pos (Int32.lt_iff_toInt_lt.mpr (show 8303 < c.toInt by omega) : (8303 : Int32) < c), own_f4_112, if_neg (fun q => absurd (Int32.lt_iff_toInt_lt.mp q) (show ¬ c.toInt < 8592 by omega) : ¬ c < (8592 : Int32)), if_pos (Int32.lt_iff_toInt_lt.mpr (show 11263 < c.toInt by omega) : (11263 : Int32) < c), own_f4_126, if_neg (fun q => absurd (Int32.lt_iff_toInt_lt.mp q) (show ¬ c.toInt < 12272 by omega) : ¬ c < (12272 : Int32)), if_pos (Int32.lt_iff_toInt_lt.mpr (show 12288 < c.toInt by omega) : (12288 : Int32) < c), own_f4_140, if_neg (fun q => absurd (Int32.lt_iff_toInt_lt.mp q) (show ¬ c.toInt < 55296 by omega) : ¬ c < (55296 : Int32)), if_pos (Int32.lt_iff_toInt_lt.mpr (show 63743 < c.toInt by omega) : (63743 : Int32) < c), own_f4_152, if_neg (fun q => absurd (Int32.lt_iff_toInt_lt.mp q) (show ¬ c.toInt < 64976 by omega) : ¬ c < (64976 : Int32)), if_pos (Int32.lt_iff_toInt_lt.mpr (show 65007 < c.toInt by omega) : (65007 : Int32) < c), own_f4_164, if_neg (fun q => absurd (congrArg Int32.toInt q) (show ¬ c.toInt = 65534 by omega) : ¬ c = (65534 : Int32)), if_neg (fun q => absurd (congrArg Int32.toInt q) (show ¬ c.toInt = 65535 by omega) : ¬ c = (65535 : Int32)), own_f4_181]
    try rfl
  rw [own_F1, if_neg (fun q => absurd (Int32.lt_iff_toInt_lt.mp q) (show ¬ c.toInt < 128 by omega) : ¬ c < (128 : Int32)), if_neg (fun q => absurd (Int32.lt_iff_toInt_lt.mp q) (show ¬ c.toInt < 192 by omega) : ¬ c < (192 : Int32)), if_pos (Int32.lt_iff_toInt_lt.mpr (show 214 < c.toInt by omega) : (214 : Int32) < c), own_f1_37, if_neg (fun q => absurd (Int32.lt_iff_toInt_lt.mp q) (show ¬ c.toInt < 216 by omega) : ¬ c < (216 : Int32)), if_pos (Int32.lt_iff_toInt_lt.mpr (show 246 < c.toInt by omega) : (246 : Int32) < c), own_f1_51, if_neg (fun q => absurd (Int32.lt_iff_toInt_lt.mp q) (show ¬ c.toInt < 248 by omega) : ¬ c < (248 : Int32)), if_pos (Int32.lt_iff_toInt_lt.mpr (show 767 < c.toInt by omega) : (767 : Int32) < c), own_f1_65, if_neg (fun q => absurd (Int32.lt_iff_toInt_lt.mp q) (show ¬ c.toInt < 880 by omega) : ¬ c < (880 : Int32)), if_pos (Int32.lt_iff_toInt_lt.mpr (show 893 < c.toInt by omega) : (893 : Int32) < c), own_f1_79, if_neg (fun q => absurd (Int32.lt_iff_toInt_lt.mp q) (show ¬ c.toInt < 895 by omega) : ¬ c < (895 : Int32)), if_pos (Int32.lt_iff_toInt_lt.mpr (show 8191 < c.toInt by omega) : (8191 : Int32) < c), own_f1_93, if_neg (fun q => absurd (congrArg Int32.toInt q) (show ¬ c.toInt = 8204 by omega) : ¬ c = (8204 : Int32)), if_neg (fun q => absurd (congrArg Int32.toInt q) (show ¬ c.toInt = 8205 by omega) : ¬ c = (8205 : Int32)), if_neg (fun q => absurd (Int32.lt_iff_toInt_lt.mp q) (show ¬ c.toInt < 8304 by omega) : ¬ c < (8304 : Int32)), if_pos (Int32.lt_iff_toInt_lt.mpr (show 8591 < c.toInt by omega) : (8591 : Int32) < c), own_f1_121, if_neg (fun q => absurd (Int32.lt_iff_toInt_lt.mp q) (show ¬ c.toInt < 11264 by omega) : ¬ c < (11264 : Int32)), if_pos (Int32.lt_iff_toInt_lt.mpr (show 12271 < c.toInt by omega) : (12271 : Int32) < c), own_f1_135, if_neg (fun q => absurd (Int32.lt_iff_toInt_lt.mp q) (show ¬ c.toInt < 12289 by omega) : ¬ c < (12289 : Int32)), if_pos (Int32.lt_iff_toInt_lt.mpr (show 55295 < c.toInt by omega) : (55295 : Int32) < c), own_f1_148, if_neg (fun q => absurd (Int32.lt_iff_toInt_lt.mp q) (show ¬ c.toInt < 63744 by omega) : ¬ c < (63744 : Int32)), if_pos (Int32.lt_iff_toInt_lt.mpr (show 64975 < c.toInt by omega) : (64975 : Int32) < c), own_f1_160, if_neg (fun q => absurd (Int32.lt_iff_toInt_lt.mp q) (show ¬ c.toInt < 65008 by omega) : ¬ c < (65008 : Int32)), if_pos (Int32.lt_iff_toInt_lt.mpr (show 65533 < c.toInt by omega) : (65533 : Int32) < c), own_f1_172, if_neg (fun q => absurd (Int32.lt_iff_toInt_lt.mp q) (show ¬ c.toInt < 65536 by omega) : ¬ c < (65536 : Int32)), if_neg (fun q => absurd (Int32.lt_iff_toInt_lt.mp q) (show ¬ 983039 < c.toInt by omega) : ¬ (983039 : Int32) < c), own_f1_184, own_f1_189, own_F4, if_pos (Int32.lt_iff_toInt_lt.mpr (show 57 < c.toInt by omega) : (57 : Int32) < c), if_neg (fun q => absurd (Int32.lt_iff_toInt_lt.mp q) (show ¬ c.toInt < 59 by omega) : ¬ c < (59 : Int32)), if_pos (Int32.lt_iff_toInt_lt.mpr (show 64 < c.toInt by omega) : (64 : Int32) < c), own_f4_18, if_neg (fun q => absurd (Int32.lt_iff_toInt_lt.mp q) (show ¬ c.toInt < 91 by omega) : ¬ c < (91 : Int32)), if_pos (Int32.lt_iff_toInt_lt.mpr (show 94 < c.toInt by omega) : (94 : Int32) < c), own_f4_30, if_neg (fun q => absurd (congrArg Int32.toInt q) (show ¬ c.toInt = 96 by omega) : ¬ c = (96 : Int32)), if_neg (fun q => absurd (Int32.lt_iff_toInt_lt.mp q) (show ¬ c.toInt < 123 by omega) : ¬ c < (123 : Int32)), if_pos (Int32.lt_iff_toInt_lt.mpr (show 191 < c.toInt by omega) : (191 : Int32) < c), own_f4_49, if_neg (fun q => absurd (congrArg Int32.toInt q) (show ¬ c.toInt = 215 by omega) : ¬ c = (215 : Int32)), if_neg (fun q => absurd (congrArg Int32.toInt q) (show ¬ c.toInt = 247 by omega) : ¬ c = (247 : Int32)), if_neg (fun q => absurd (Int32.lt_iff_toInt_lt.mp q) (show ¬ c.toInt < 768 by omega) : ¬ c < (768 : Int32)), if_pos (Int32.lt_iff_toInt_lt.mpr (show 879 < c.toInt by omega) : (879 : Int32) < c), own_f4_77, if_neg (fun q => absurd (congrArg Int32.toInt q) (show ¬ c.toInt = 894 by omega) : ¬ c = (894 : Int32)), if_neg (fun q => absurd (Int32.lt_iff_toInt_lt.mp q) (show ¬ c.toInt < 8192 by omega) : ¬ c < (8192 : Int32)), if_pos (Int32.lt_iff_toInt_lt.mpr (show 8203 < c.toInt by omega) : (8203 : Int32) < c), own_f4_98, if_neg (fun q => absurd (Int32.lt_iff_toInt_lt.mp q) (show ¬ c.toInt < 8206 by omega) : ¬ c < (8206 : Int32)), if_pos (Int32.lt_iff_toInt_lt.mpr (show 8303 < c.toInt by omega) : (8303 : Int32) < c), own_f4_112, if_neg (fun q => absurd (Int32.lt_iff_toInt_lt.mp q) (show ¬ c.toInt < 8592 by omega) : ¬ c < (8592 : Int32)), if_pos (Int32.lt_iff_toInt_lt.mpr (show 11263 < c.toInt by omega) : (11263 : Int32) < c), own_f4_126, if_neg (fun q => absurd (Int32.lt_iff_toInt_lt.mp q) (show ¬ c.toInt < 12272 by omega) : ¬ c < (12272 : Int32)), if_pos (Int32.lt_iff_toInt_lt.mpr (show 12288 < c.toInt by omega) : (12288 : Int32) < c), own_f4_140, if_neg (fun q => absurd (Int32.lt_iff_toInt_lt.mp q) (show ¬ c.toInt < 55296 by omega) : ¬ c < (55296 : Int32)), if_pos (Int32.lt_iff_toInt_lt.mpr (show 63743 < c.toInt by omega) : (63743 : Int32) < c), own_f4_152, if_neg (fun q => absurd (Int32.lt_iff_toInt_lt.mp q) (show ¬ c.toInt < 64976 by omega) : ¬ c < (64976 : Int32)), if_pos (Int32.lt_iff_toInt_lt.mpr (show 65007 < c.toInt by omega) : (65007 : Int32) < c), own_f4_164, if_neg (fun q => absurd (congrArg Int32.toInt q) (show ¬ c.toInt = 65534 by omega) : ¬ c = (65534 : Int32)), if_neg (fun q => absurd (congrArg Int32.toInt q) (show ¬ c.toInt = 65535 by omega) : ¬ c = (65535 : Int32)), own_f4_181]
  try rfl
theorem own_top (c : Int32) (h : 983040 ≤ c.toInt) : own_F1 c own_T = 0 := by
  have hr := rng32 c
  rw [own_F1, if_neg (fun q => absurd (Int32.lt_iff_toInt_lt.mp q) (show ¬ c.toInt < 128 by omega) : ¬ c < (128 : Int32)), if_neg (fun q => absurd (Int32.lt_iff_toInt_lt.mp q) (show ¬ c.toInt < 192 by omega) : ¬ c < (192 : Int32)), if_pos (Int32.lt_iff_toInt_lt.mpr (show 214 < c.toInt by omega) : (214 : Int32) < c), own_f1_37, if_neg (fun q => absurd (Int32.lt_iff_toInt_lt.mp q) (show ¬ c.toInt < 216 by omega) : ¬ c < (216 : Int32)), if_pos (Int32.lt_iff_toInt_lt.mpr (show 246 < c.toInt by omega) : (246 : Int32) < c), own_f1_51, if_neg (fun q => absurd (Int32.lt_iff_toInt_lt.mp q) (show ¬ c.toInt < 248 by omega) : ¬ c < (248 : Int32)), if_pos (Int32.lt_iff_toInt_lt.mpr (show 767 < c.toInt by omega) : (767 : Int32) < c), own_f1_65, if_neg (fun q => absurd (Int32.lt_iff_toInt_lt.mp q) (show ¬ c.toInt < 880 by omega) : ¬ c < (880 : Int32)), if_pos (Int32.lt_iff_toInt_lt.mpr (show 893 < c.toInt by omega) : (893 : Int32) < c), own_f1_79, if_neg (fun q => absurd (Int32.lt_iff_toInt_lt.mp q) (show ¬ c.toInt < 895 by omega) : ¬ c < (895 : Int32)), if_pos (Int32.lt_iff_toInt_lt.mpr (show 8191 < c.toInt by omega) : (8191 : Int32) < c), own_f1_93, if_neg (fun q => absurd (congrArg Int32.toInt q) (show ¬ c.toInt = 8204 by omega) : ¬ c = (8204 : Int32)), if_neg (fun q => absurd (congrArg Int32.toInt q) (show ¬ c.toInt = 8205 by omega) : ¬ c = (8205 : Int32)), if_neg (fun q => absurd (Int32.lt_iff_toInt_lt.mp q) (show ¬ c.toInt < 8304 by omega) : ¬ c < (8304 : Int32)), if_pos (Int32.lt_iff_toInt_lt.mpr (show 8591 < c.toInt by omega) : (8591 : Int32) < c), own_f1_121, if_neg (fun q => absurd (Int32.lt_iff_toInt_lt.mp q) (show ¬ c.toInt < 11264 by omega) : ¬ c < (11264 : Int32)), if_pos (Int32.lt_iff_toInt_lt.mpr (show 12271 < c.toInt by omega) : (12271 : Int32) < c), own_f1_135, if_neg (fun q => absurd (Int32.lt_iff_toInt_lt.mp q) (show ¬ c.toInt < 12289 by omega) : ¬ c < (12289 : Int32)), if_pos (Int32.lt_iff_toInt_lt.mpr (show 55295 < c.toInt by omega) : (55295 : Int32) < c), own_f1_148, if_neg (fun q => absurd (Int32.lt_iff_toInt_lt.mp q) (show ¬ c.toInt < 63744 by omega) : ¬ c < (63744 : Int32)), if_pos (Int32.lt_iff_toInt_lt.mpr (show 64975 < c.toInt by omega) : (64975 : Int32) < c), own_f1_160, if_neg (fun q => absurd (Int32.lt_iff_toInt_lt.mp q) (show ¬ c.toInt < 65008 by omega) : ¬ c < (65008 : Int32)), if_pos (Int32.lt_iff_toInt_lt.mpr (show 65533 < c.toInt by omega) : (65533 : Int32) < c), own_f1_172, if_neg (fun q => absurd (Int32.lt_iff_toInt_lt.mp q) (show ¬ c.toInt < 65536 by omega) : ¬ c < (65536 : Int32)), if_pos (Int32.lt_iff_toInt_lt.mpr (show 983039 < c.toInt by omega) : (983039 : Int32) < c), own_f1_188, own_f1_189]
  try rfl
theorem own_law (c : Int32) (h0 : ¬ c < 0) : own_F1 c own_T = own_F3 c := by
  by_cases h : c < 128
  · exact small_int 128 (by decide) (fun c => own_F1 c own_T = own_F3 c) (by decide +kernel) c h0 h
  have e1 : (128 : Int32).toInt = 128 := rfl
  have e2 : (983039 : Int32).toInt = 983039 := rfl
  rw [Int32.lt_iff_toInt_lt, e1] at h
  by_cases g : (983039 : Int32) < c
  · have g' := Int32.lt_iff_toInt_lt.mp g
    rw [e2] at g'
    rw [own_top c (by omega), own_F3, if_pos g]
  · have g' : ¬ (983039 : Int32).toInt < c.toInt := fun q => g (Int32.lt_iff_toInt_lt.mpr q)
    rw [e2] at g'
    rw [own_hi c (by omega) (by omega), own_F3, if_neg g]
    by_cases z : own_F4 c = (0 : Int32)
    · rw [if_pos z, if_pos z]; rfl
    · rw [if_neg z, if_neg z]; rfl
theorem own_idx (x : Int32) : ¬ ((x &&& (2147483647 : Int32)) % (39 : Int32)) < 0 ∧ ((x &&& (2147483647 : Int32)) % (39 : Int32)) < 39 := by
  have h1 := c_and x 2147483647 (by decide)
  have h2 := (c_irem (x &&& 2147483647) 39 39 (by decide)).1 h1.1
  have e0 : (0 : Int32).toInt = 0 := rfl
  have e39 : (39 : Int32).toInt = 39 := rfl
  rw [Int32.lt_iff_toInt_lt, Int32.lt_iff_toInt_lt, e0, e39]
  omega
theorem own_p0 (x : Int32) : ¬ (x &&& (2147483647 : Int32)) < 0 := by
  have h1 := c_and x 2147483647 (by decide)
  have e0 : (0 : Int32).toInt = 0 := rfl
  rw [Int32.lt_iff_toInt_lt]; omega
theorem own_p1 (x : Int32) : ¬ ((x &&& (2147483647 : Int32)) % (1114112 : Int32)) < 0 := by
  have h1 := c_and x 2147483647 (by decide)
  have h2 := (c_irem (x &&& 2147483647) 1114112 1114112 (by decide)).1 h1.1
  have e0 : (0 : Int32).toInt = 0 := rfl
  rw [Int32.lt_iff_toInt_lt]; omega
theorem own_p2 (x : Int32) : ¬ (x &&& (65535 : Int32)) < 0 := by
  have h1 := c_and x 65535 (by decide)
  have e0 : (0 : Int32).toInt = 0 := rfl
  rw [Int32.lt_iff_toInt_lt]; omega
theorem own_p3 (y : Int32) : ¬ (own_F5 (0 : Int32) y) < 0 := by
  by_cases h : (0 : Int32) < y
  · simp only [own_F5, own_f5_10, if_pos h]
    rw [Int32.lt_iff_toInt_lt] at h ⊢; omega
  · simp only [own_F5, own_f5_10, if_neg h]
    decide

theorem own_ef0 (m : MethodId) (x0 : Int32) (x1 : Int32) (x2 : Int32) (x3 : Int32) : entryFrame m #[(.int x0), (.int x1), (.int x2), (.int x3)] maxLocals = mkF m 0 #[.val (.int x0), .val (.int x1), .val (.int x2), .val (.int x3), .unset, .unset, .unset, .unset] [] := by first | (simp [entryFrame, mkF, argsToLocals, Value.category, maxLocals]; done) | rfl
set_option maxRecDepth 65536 in
set_option maxHeartbeats 40000000 in
theorem rm0 (l : Launch) (Z : State) (a0 : Array Value) (hw : ∀ d ∈ tables_1, d.before a0 Z = true) (ws : List Jvm.Cond) (p0 : Int32) (p1 : Int32) (p2 : Int32) (p3 : Int32) (ta : Addr) (h0 : Heap) (n0 : Nat) (Z0 : n0 ≤ h0.size) (S_t : Sta Z h0 "com/example/traceloom/traceloom/io/xes/XmlCharacters" "NAME_BYTES" "[B" (.ref ta)) (A_t : Ints Z h0 ta .byte (128 : Int32) own_T) :
    MetFree l x (head1 (Jvm.Cond.code x code maxLocals ret :: ws) room_1) (fun a U => a = #[(.int p0), (.int p1), (.int p2), (.int p3)] ∧ Z.Warmed39 U.vm ∧ U.heap = h0) (fun _ _ _ _ _ => True) (fun _ U o U' => ∃ v L, o = .returned v ∧ (fun v h L => v = some (.int 1) ∧ Fr n0 L) v U'.heap L ∧ FrameEnd U o U' L room_1.cells room_1.slots) := by
  refine MetFree.of_bodySF (plainFor_of_name own_pn1) hisR ?_
  intro p e s m args below meth c s₁ Bd hml0 hP hK
  obtain ⟨rfl, hZ, hh⟩ := hP
  have hx := Bd.exec
  have hby := Bd.bytes
  have hml : c.maxLocals = 8 := hml0
  have hown : s.vm.findClass "com/example/traceloom/traceloom/io/xes/XmlCharactersIsNameStartPinLaw" = some m.cls := findClass_of_methodNamed Bd.named
  have hnm := (name_of_methodNamed Bd.named Bd.method).1
  have X0 : Stand p l e room_1 s m #[(.int p0), (.int p1), (.int p2), (.int p3)] below meth c s₁ [] 0 0 := Stand.of_body Bd
  have e0 : s₁.heap = h0 := by rw [← hh, Bd.state]; rfl
  have N0 := Fr.nil n0
  suffices H : Run p.tables e below (FinR s room_1.cells room_1.slots (fun v h L => v = some (.int 1) ∧ Fr n0 L)) s₁ (mkF m 0 #[.val (.int p0), .val (.int p1), .val (.int p2), .val (.int p3), .unset, .unset, .unset, .unset] []) by
    obtain ⟨s₂, o, k1, k2, k3, k4⟩ := H
    exact ⟨s₂, o, castTop (own_ef0 m p0 p1 p2 p3) k1, k2, k3, k4⟩
  refine Run.bipush (pc' := 2) (v := (39 : Int32)) X0 hx (hb hby at_0) rfl rfl ?_
  obtain ⟨T1, h1, b1, X1, e1, E1, g1, A1, st1⟩ := st_newarray X0 hx hZ (hw _ (List.mem_of_getElem? (i := 0) rfl)) e0 (hb hby at_2) (Ls := #[.val (.int p0), .val (.int p1), .val (.int p2), .val (.int p3), .unset, .unset, .unset, .unset]) (rest := []) (n := (39 : Int32)) (by decide) (cap := 39) (by decide) (by decide) (by decide) (by decide) rfl
  replace A1 : Ints Z h1 b1 .int (39 : Int32) (fun _ => 0) := A1
  have ne_ta_b1 : ta ≠ b1 := Nat.ne_of_lt (Nat.lt_of_lt_of_le (A_t).lt (Nat.le_of_eq g1.symm))
  have G1 : n0 ≤ b1 := Nat.le_trans Z0 (Nat.le_of_eq g1.symm)
  have Z1 : n0 ≤ h1.size := Nat.le_trans Z0 E1.1
  have q2 := Sta.ext E1 S_t
  have q3 := Ints.ext E1 A_t
  refine Run.back (g' := (mkF m 4 #[.val (.int p0), .val (.int p1), .val (.int p2), .val (.int p3), .unset, .unset, .unset, .unset] [(.ref b1)])) st1 ?_
  refine Run.dup (pc' := 5) X1 hx (hb hby at_4) rfl rfl ?_
  refine Run.iconst (pc' := 6) (v := (0 : Int32)) X1 hx (hb hby at_5) rfl rfl ?_
  refine Run.iconst (pc' := 7) (v := (0 : Int32)) X1 hx (hb hby at_6) rfl rfl ?_
  obtain ⟨T4, h4, sl4, u4, X4, e4, W4, A4, st4⟩ := st_iastore X1 hx hZ e1 A1 (Ls := #[.val (.int p0), .val (.int p1), .val (.int p2), .val (.int p3), .unset, .unset, .unset, .unset]) (rest := [(.ref b1)]) (j := (0 : Int32)) (x := (0 : Int32)) (by decide) (by decide) (hb hby at_7)
  have N4 := Fr.snoc X4 N0 G1
  obtain ⟨f5, qf5⟩ : ∃ g : Int32 → Int32, g = fun i => if i = (0 : Int32) then (0 : Int32) else (fun _ => (0 : Int32)) i := ⟨_, rfl⟩
  replace A4 : Ints Z h4 b1 .int (39 : Int32) f5 := by rw [qf5]; exact A4
  have q6 := Sta.wr W4 q2
  have q7 := Ints.other W4 q3 ne_ta_b1
  have Z4 : n0 ≤ h4.size := Nat.le_trans Z1 (Keep.of_wr W4).1
  refine Run.back (g' := (mkF m 8 #[.val (.int p0), .val (.int p1), .val (.int p2), .val (.int p3), .unset, .unset, .unset, .unset] [(.ref b1)])) st4 ?_
  refine Run.dup (pc' := 9) X4 hx (hb hby at_8) rfl rfl ?_
  refine Run.iconst (pc' := 10) (v := (1 : Int32)) X4 hx (hb hby at_9) rfl rfl ?_
  refine Run.bipush (pc' := 12) (v := (45 : Int32)) X4 hx (hb hby at_10) rfl rfl ?_
  obtain ⟨T8, h8, sl8, u8, X8, e8, W8, A8, st8⟩ := st_iastore X4 hx hZ e4 A4 (Ls := #[.val (.int p0), .val (.int p1), .val (.int p2), .val (.int p3), .unset, .unset, .unset, .unset]) (rest := [(.ref b1)]) (j := (1 : Int32)) (x := (45 : Int32)) (by decide) (by decide) (hb hby at_12)
  have N8 := Fr.snoc X8 N4 G1
  obtain ⟨f9, qf9⟩ : ∃ g : Int32 → Int32, g = fun i => if i = (1 : Int32) then (45 : Int32) else f5 i := ⟨_, rfl⟩
  replace A8 : Ints Z h8 b1 .int (39 : Int32) f9 := by rw [qf9]; exact A8
  have q10 := Sta.wr W8 q6
  have q11 := Ints.other W8 q7 ne_ta_b1
  have Z8 : n0 ≤ h8.size := Nat.le_trans Z4 (Keep.of_wr W8).1
  refine Run.back (g' := (mkF m 13 #[.val (.int p0), .val (.int p1), .val (.int p2), .val (.int p3), .unset, .unset, .unset, .unset] [(.ref b1)])) st8 ?_
  refine Run.dup (pc' := 14) X8 hx (hb hby at_13) rfl rfl ?_
  refine Run.iconst (pc' := 15) (v := (2 : Int32)) X8 hx (hb hby at_14) rfl rfl ?_
  refine Run.bipush (pc' := 17) (v := (46 : Int32)) X8 hx (hb hby at_15) rfl rfl ?_
  obtain ⟨T12, h12, sl12, u12, X12, e12, W12, A12, st12⟩ := st_iastore X8 hx hZ e8 A8 (Ls := #[.val (.int p0), .val (.int p1), .val (.int p2), .val (.int p3), .unset, .unset, .unset, .unset]) (rest := [(.ref b1)]) (j := (2 : Int32)) (x := (46 : Int32)) (by decide) (by decide) (hb hby at_17)
  have N12 := Fr.snoc X12 N8 G1
  obtain ⟨f13, qf13⟩ : ∃ g : Int32 → Int32, g = fun i => if i = (2 : Int32) then (46 : Int32) else f9 i := ⟨_, rfl⟩
  replace A12 : Ints Z h12 b1 .int (39 : Int32) f13 := by rw [qf13]; exact A12
  have q14 := Sta.wr W12 q10
  have q15 := Ints.other W12 q11 ne_ta_b1
  have Z12 : n0 ≤ h12.size := Nat.le_trans Z8 (Keep.of_wr W12).1
  refine Run.back (g' := (mkF m 18 #[.val (.int p0), .val (.int p1), .val (.int p2), .val (.int p3), .unset, .unset, .unset, .unset] [(.ref b1)])) st12 ?_
  refine Run.dup (pc' := 19) X12 hx (hb hby at_18) rfl rfl ?_
  refine Run.iconst (pc' := 20) (v := (3 : Int32)) X12 hx (hb hby at_19) rfl rfl ?_
  refine Run.bipush (pc' := 22) (v := (48 : Int32)) X12 hx (hb hby at_20) rfl rfl ?_
  obtain ⟨T16, h16, sl16, u16, X16, e16, W16, A16, st16⟩ := st_iastore X12 hx hZ e12 A12 (Ls := #[.val (.int p0), .val (.int p1), .val (.int p2), .val (.int p3), .unset, .unset, .unset, .unset]) (rest := [(.ref b1)]) (j := (3 : Int32)) (x := (48 : Int32)) (by decide) (by decide) (hb hby at_22)
  have N16 := Fr.snoc X16 N12 G1
  obtain ⟨f17, qf17⟩ : ∃ g : Int32 → Int32, g = fun i => if i = (3 : Int32) then (48 : Int32) else f13 i := ⟨_, rfl⟩
  replace A16 : Ints Z h16 b1 .int (39 : Int32) f17 := by rw [qf17]; exact A16
  have q18 := Sta.wr W16 q14
  have q19 := Ints.other W16 q15 ne_ta_b1
  have Z16 : n0 ≤ h16.size := Nat.le_trans Z12 (Keep.of_wr W16).1
  refine Run.back (g' := (mkF m 23 #[.val (.int p0), .val (.int p1), .val (.int p2), .val (.int p3), .unset, .unset, .unset, .unset] [(.ref b1)])) st16 ?_
  refine Run.dup (pc' := 24) X16 hx (hb hby at_23) rfl rfl ?_
  refine Run.iconst (pc' := 25) (v := (4 : Int32)) X16 hx (hb hby at_24) rfl rfl ?_
  refine Run.bipush (pc' := 27) (v := (57 : Int32)) X16 hx (hb hby at_25) rfl rfl ?_
  obtain ⟨T20, h20, sl20, u20, X20, e20, W20, A20, st20⟩ := st_iastore X16 hx hZ e16 A16 (Ls := #[.val (.int p0), .val (.int p1), .val (.int p2), .val (.int p3), .unset, .unset, .unset, .unset]) (rest := [(.ref b1)]) (j := (4 : Int32)) (x := (57 : Int32)) (by decide) (by decide) (hb hby at_27)
  have N20 := Fr.snoc X20 N16 G1
  obtain ⟨f21, qf21⟩ : ∃ g : Int32 → Int32, g = fun i => if i = (4 : Int32) then (57 : Int32) else f17 i := ⟨_, rfl⟩
  replace A20 : Ints Z h20 b1 .int (39 : Int32) f21 := by rw [qf21]; exact A20
  have q22 := Sta.wr W20 q18
  have q23 := Ints.other W20 q19 ne_ta_b1
  have Z20 : n0 ≤ h20.size := Nat.le_trans Z16 (Keep.of_wr W20).1
  refine Run.back (g' := (mkF m 28 #[.val (.int p0), .val (.int p1), .val (.int p2), .val (.int p3), .unset, .unset, .unset, .unset] [(.ref b1)])) st20 ?_
  refine Run.dup (pc' := 29) X20 hx (hb hby at_28) rfl rfl ?_
  refine Run.iconst (pc' := 30) (v := (5 : Int32)) X20 hx (hb hby at_29) rfl rfl ?_
  refine Run.bipush (pc' := 32) (v := (58 : Int32)) X20 hx (hb hby at_30) rfl rfl ?_
  obtain ⟨T24, h24, sl24, u24, X24, e24, W24, A24, st24⟩ := st_iastore X20 hx hZ e20 A20 (Ls := #[.val (.int p0), .val (.int p1), .val (.int p2), .val (.int p3), .unset, .unset, .unset, .unset]) (rest := [(.ref b1)]) (j := (5 : Int32)) (x := (58 : Int32)) (by decide) (by decide) (hb hby at_32)
  have N24 := Fr.snoc X24 N20 G1
  obtain ⟨f25, qf25⟩ : ∃ g : Int32 → Int32, g = fun i => if i = (5 : Int32) then (58 : Int32) else f21 i := ⟨_, rfl⟩
  replace A24 : Ints Z h24 b1 .int (39 : Int32) f25 := by rw [qf25]; exact A24
  have q26 := Sta.wr W24 q22
  have q27 := Ints.other W24 q23 ne_ta_b1
  have Z24 : n0 ≤ h24.size := Nat.le_trans Z20 (Keep.of_wr W24).1
  refine Run.back (g' := (mkF m 33 #[.val (.int p0), .val (.int p1), .val (.int p2), .val (.int p3), .unset, .unset, .unset, .unset] [(.ref b1)])) st24 ?_
  refine Run.dup (pc' := 34) X24 hx (hb hby at_33) rfl rfl ?_
  refine Run.bipush (pc' := 36) (v := (6 : Int32)) X24 hx (hb hby at_34) rfl rfl ?_
  refine Run.bipush (pc' := 38) (v := (65 : Int32)) X24 hx (hb hby at_36) rfl rfl ?_
  obtain ⟨T28, h28, sl28, u28, X28, e28, W28, A28, st28⟩ := st_iastore X24 hx hZ e24 A24 (Ls := #[.val (.int p0), .val (.int p1), .val (.int p2), .val (.int p3), .unset, .unset, .unset, .unset]) (rest := [(.ref b1)]) (j := (6 : Int32)) (x := (65 : Int32)) (by decide) (by decide) (hb hby at_38)
  have N28 := Fr.snoc X28 N24 G1
  obtain ⟨f29, qf29⟩ : ∃ g : Int32 → Int32, g = fun i => if i = (6 : Int32) then (65 : Int32) else f25 i := ⟨_, rfl⟩
  replace A28 : Ints Z h28 b1 .int (39 : Int32) f29 := by rw [qf29]; exact A28
  have q30 := Sta.wr W28 q26
  have q31 := Ints.other W28 q27 ne_ta_b1
  have Z28 : n0 ≤ h28.size := Nat.le_trans Z24 (Keep.of_wr W28).1
  refine Run.back (g' := (mkF m 39 #[.val (.int p0), .val (.int p1), .val (.int p2), .val (.int p3), .unset, .unset, .unset, .unset] [(.ref b1)])) st28 ?_
  refine Run.dup (pc' := 40) X28 hx (hb hby at_39) rfl rfl ?_
  refine Run.bipush (pc' := 42) (v := (7 : Int32)) X28 hx (hb hby at_40) rfl rfl ?_
  refine Run.bipush (pc' := 44) (v := (90 : Int32)) X28 hx (hb hby at_42) rfl rfl ?_
  obtain ⟨T32, h32, sl32, u32, X32, e32, W32, A32, st32⟩ := st_iastore X28 hx hZ e28 A28 (Ls := #[.val (.int p0), .val (.int p1), .val (.int p2), .val (.int p3), .unset, .unset, .unset, .unset]) (rest := [(.ref b1)]) (j := (7 : Int32)) (x := (90 : Int32)) (by decide) (by decide) (hb hby at_44)
  have N32 := Fr.snoc X32 N28 G1
  obtain ⟨f33, qf33⟩ : ∃ g : Int32 → Int32, g = fun i => if i = (7 : Int32) then (90 : Int32) else f29 i := ⟨_, rfl⟩
  replace A32 : Ints Z h32 b1 .int (39 : Int32) f33 := by rw [qf33]; exact A32
  have q34 := Sta.wr W32 q30
  have q35 := Ints.other W32 q31 ne_ta_b1
  have Z32 : n0 ≤ h32.size := Nat.le_trans Z28 (Keep.of_wr W32).1
  refine Run.back (g' := (mkF m 45 #[.val (.int p0), .val (.int p1), .val (.int p2), .val (.int p3), .unset, .unset, .unset, .unset] [(.ref b1)])) st32 ?_
  refine Run.dup (pc' := 46) X32 hx (hb hby at_45) rfl rfl ?_
  refine Run.bipush (pc' := 48) (v := (8 : Int32)) X32 hx (hb hby at_46) rfl rfl ?_
  refine Run.bipush (pc' := 50) (v := (95 : Int32)) X32 hx (hb hby at_48) rfl rfl ?_
  obtain ⟨T36, h36, sl36, u36, X36, e36, W36, A36, st36⟩ := st_iastore X32 hx hZ e32 A32 (Ls := #[.val (.int p0), .val (.int p1), .val (.int p2), .val (.int p3), .unset, .unset, .unset, .unset]) (rest := [(.ref b1)]) (j := (8 : Int32)) (x := (95 : Int32)) (by decide) (by decide) (hb hby at_50)
  have N36 := Fr.snoc X36 N32 G1
  obtain ⟨f37, qf37⟩ : ∃ g : Int32 → Int32, g = fun i => if i = (8 : Int32) then (95 : Int32) else f33 i := ⟨_, rfl⟩
  replace A36 : Ints Z h36 b1 .int (39 : Int32) f37 := by rw [qf37]; exact A36
  have q38 := Sta.wr W36 q34
  have q39 := Ints.other W36 q35 ne_ta_b1
  have Z36 : n0 ≤ h36.size := Nat.le_trans Z32 (Keep.of_wr W36).1
  refine Run.back (g' := (mkF m 51 #[.val (.int p0), .val (.int p1), .val (.int p2), .val (.int p3), .unset, .unset, .unset, .unset] [(.ref b1)])) st36 ?_
  refine Run.dup (pc' := 52) X36 hx (hb hby at_51) rfl rfl ?_
  refine Run.bipush (pc' := 54) (v := (9 : Int32)) X36 hx (hb hby at_52) rfl rfl ?_
  refine Run.bipush (pc' := 56) (v := (97 : Int32)) X36 hx (hb hby at_54) rfl rfl ?_
  obtain ⟨T40, h40, sl40, u40, X40, e40, W40, A40, st40⟩ := st_iastore X36 hx hZ e36 A36 (Ls := #[.val (.int p0), .val (.int p1), .val (.int p2), .val (.int p3), .unset, .unset, .unset, .unset]) (rest := [(.ref b1)]) (j := (9 : Int32)) (x := (97 : Int32)) (by decide) (by decide) (hb hby at_56)
  have N40 := Fr.snoc X40 N36 G1
  obtain ⟨f41, qf41⟩ : ∃ g : Int32 → Int32, g = fun i => if i = (9 : Int32) then (97 : Int32) else f37 i := ⟨_, rfl⟩
  replace A40 : Ints Z h40 b1 .int (39 : Int32) f41 := by rw [qf41]; exact A40
  have q42 := Sta.wr W40 q38
  have q43 := Ints.other W40 q39 ne_ta_b1
  have Z40 : n0 ≤ h40.size := Nat.le_trans Z36 (Keep.of_wr W40).1
  refine Run.back (g' := (mkF m 57 #[.val (.int p0), .val (.int p1), .val (.int p2), .val (.int p3), .unset, .unset, .unset, .unset] [(.ref b1)])) st40 ?_
  refine Run.dup (pc' := 58) X40 hx (hb hby at_57) rfl rfl ?_
  refine Run.bipush (pc' := 60) (v := (10 : Int32)) X40 hx (hb hby at_58) rfl rfl ?_
  refine Run.bipush (pc' := 62) (v := (122 : Int32)) X40 hx (hb hby at_60) rfl rfl ?_
  obtain ⟨T44, h44, sl44, u44, X44, e44, W44, A44, st44⟩ := st_iastore X40 hx hZ e40 A40 (Ls := #[.val (.int p0), .val (.int p1), .val (.int p2), .val (.int p3), .unset, .unset, .unset, .unset]) (rest := [(.ref b1)]) (j := (10 : Int32)) (x := (122 : Int32)) (by decide) (by decide) (hb hby at_62)
  have N44 := Fr.snoc X44 N40 G1
  obtain ⟨f45, qf45⟩ : ∃ g : Int32 → Int32, g = fun i => if i = (10 : Int32) then (122 : Int32) else f41 i := ⟨_, rfl⟩
  replace A44 : Ints Z h44 b1 .int (39 : Int32) f45 := by rw [qf45]; exact A44
  have q46 := Sta.wr W44 q42
  have q47 := Ints.other W44 q43 ne_ta_b1
  have Z44 : n0 ≤ h44.size := Nat.le_trans Z40 (Keep.of_wr W44).1
  refine Run.back (g' := (mkF m 63 #[.val (.int p0), .val (.int p1), .val (.int p2), .val (.int p3), .unset, .unset, .unset, .unset] [(.ref b1)])) st44 ?_
  refine Run.dup (pc' := 64) X44 hx (hb hby at_63) rfl rfl ?_
  refine Run.bipush (pc' := 66) (v := (11 : Int32)) X44 hx (hb hby at_64) rfl rfl ?_
  refine Run.sipush (pc' := 69) (v := (128 : Int32)) X44 hx (hb hby at_66) rfl rfl ?_
  obtain ⟨T48, h48, sl48, u48, X48, e48, W48, A48, st48⟩ := st_iastore X44 hx hZ e44 A44 (Ls := #[.val (.int p0), .val (.int p1), .val (.int p2), .val (.int p3), .unset, .unset, .unset, .unset]) (rest := [(.ref b1)]) (j := (11 : Int32)) (x := (128 : Int32)) (by decide) (by decide) (hb hby at_69)
  have N48 := Fr.snoc X48 N44 G1
  obtain ⟨f49, qf49⟩ : ∃ g : Int32 → Int32, g = fun i => if i = (11 : Int32) then (128 : Int32) else f45 i := ⟨_, rfl⟩
  replace A48 : Ints Z h48 b1 .int (39 : Int32) f49 := by rw [qf49]; exact A48
  have q50 := Sta.wr W48 q46
  have q51 := Ints.other W48 q47 ne_ta_b1
  have Z48 : n0 ≤ h48.size := Nat.le_trans Z44 (Keep.of_wr W48).1
  refine Run.back (g' := (mkF m 70 #[.val (.int p0), .val (.int p1), .val (.int p2), .val (.int p3), .unset, .unset, .unset, .unset] [(.ref b1)])) st48 ?_
  refine Run.dup (pc' := 71) X48 hx (hb hby at_70) rfl rfl ?_
  refine Run.bipush (pc' := 73) (v := (12 : Int32)) X48 hx (hb hby at_71) rfl rfl ?_
  refine Run.sipush (pc' := 76) (v := (183 : Int32)) X48 hx (hb hby at_73) rfl rfl ?_
  obtain ⟨T52, h52, sl52, u52, X52, e52, W52, A52, st52⟩ := st_iastore X48 hx hZ e48 A48 (Ls := #[.val (.int p0), .val (.int p1), .val (.int p2), .val (.int p3), .unset, .unset, .unset, .unset]) (rest := [(.ref b1)]) (j := (12 : Int32)) (x := (183 : Int32)) (by decide) (by decide) (hb hby at_76)
  have N52 := Fr.snoc X52 N48 G1
  obtain ⟨f53, qf53⟩ : ∃ g : Int32 → Int32, g = fun i => if i = (12 : Int32) then (183 : Int32) else f49 i := ⟨_, rfl⟩
  replace A52 : Ints Z h52 b1 .int (39 : Int32) f53 := by rw [qf53]; exact A52
  have q54 := Sta.wr W52 q50
  have q55 := Ints.other W52 q51 ne_ta_b1
  have Z52 : n0 ≤ h52.size := Nat.le_trans Z48 (Keep.of_wr W52).1
  refine Run.back (g' := (mkF m 77 #[.val (.int p0), .val (.int p1), .val (.int p2), .val (.int p3), .unset, .unset, .unset, .unset] [(.ref b1)])) st52 ?_
  refine Run.dup (pc' := 78) X52 hx (hb hby at_77) rfl rfl ?_
  refine Run.bipush (pc' := 80) (v := (13 : Int32)) X52 hx (hb hby at_78) rfl rfl ?_
  refine Run.sipush (pc' := 83) (v := (192 : Int32)) X52 hx (hb hby at_80) rfl rfl ?_
  obtain ⟨T56, h56, sl56, u56, X56, e56, W56, A56, st56⟩ := st_iastore X52 hx hZ e52 A52 (Ls := #[.val (.int p0), .val (.int p1), .val (.int p2), .val (.int p3), .unset, .unset, .unset, .unset]) (rest := [(.ref b1)]) (j := (13 : Int32)) (x := (192 : Int32)) (by decide) (by decide) (hb hby at_83)
  have N56 := Fr.snoc X56 N52 G1
  obtain ⟨f57, qf57⟩ : ∃ g : Int32 → Int32, g = fun i => if i = (13 : Int32) then (192 : Int32) else f53 i := ⟨_, rfl⟩
  replace A56 : Ints Z h56 b1 .int (39 : Int32) f57 := by rw [qf57]; exact A56
  have q58 := Sta.wr W56 q54
  have q59 := Ints.other W56 q55 ne_ta_b1
  have Z56 : n0 ≤ h56.size := Nat.le_trans Z52 (Keep.of_wr W56).1
  refine Run.back (g' := (mkF m 84 #[.val (.int p0), .val (.int p1), .val (.int p2), .val (.int p3), .unset, .unset, .unset, .unset] [(.ref b1)])) st56 ?_
  refine Run.dup (pc' := 85) X56 hx (hb hby at_84) rfl rfl ?_
  refine Run.bipush (pc' := 87) (v := (14 : Int32)) X56 hx (hb hby at_85) rfl rfl ?_
  refine Run.sipush (pc' := 90) (v := (214 : Int32)) X56 hx (hb hby at_87) rfl rfl ?_
  obtain ⟨T60, h60, sl60, u60, X60, e60, W60, A60, st60⟩ := st_iastore X56 hx hZ e56 A56 (Ls := #[.val (.int p0), .val (.int p1), .val (.int p2), .val (.int p3), .unset, .unset, .unset, .unset]) (rest := [(.ref b1)]) (j := (14 : Int32)) (x := (214 : Int32)) (by decide) (by decide) (hb hby at_90)
  have N60 := Fr.snoc X60 N56 G1
  obtain ⟨f61, qf61⟩ : ∃ g : Int32 → Int32, g = fun i => if i = (14 : Int32) then (214 : Int32) else f57 i := ⟨_, rfl⟩
  replace A60 : Ints Z h60 b1 .int (39 : Int32) f61 := by rw [qf61]; exact A60
  have q62 := Sta.wr W60 q58
  have q63 := Ints.other W60 q59 ne_ta_b1
  have Z60 : n0 ≤ h60.size := Nat.le_trans Z56 (Keep.of_wr W60).1
  refine Run.back (g' := (mkF m 91 #[.val (.int p0), .val (.int p1), .val (.int p2), .val (.int p3), .unset, .unset, .unset, .unset] [(.ref b1)])) st60 ?_
  refine Run.dup (pc' := 92) X60 hx (hb hby at_91) rfl rfl ?_
  refine Run.bipush (pc' := 94) (v := (15 : Int32)) X60 hx (hb hby at_92) rfl rfl ?_
  refine Run.sipush (pc' := 97) (v := (216 : Int32)) X60 hx (hb hby at_94) rfl rfl ?_
  obtain ⟨T64, h64, sl64, u64, X64, e64, W64, A64, st64⟩ := st_iastore X60 hx hZ e60 A60 (Ls := #[.val (.int p0), .val (.int p1), .val (.int p2), .val (.int p3), .unset, .unset, .unset, .unset]) (rest := [(.ref b1)]) (j := (15 : Int32)) (x := (216 : Int32)) (by decide) (by decide) (hb hby at_97)
  have N64 := Fr.snoc X64 N60 G1
  obtain ⟨f65, qf65⟩ : ∃ g : Int32 → Int32, g = fun i => if i = (15 : Int32) then (216 : Int32) else f61 i := ⟨_, rfl⟩
  replace A64 : Ints Z h64 b1 .int (39 : Int32) f65 := by rw [qf65]; exact A64
  have q66 := Sta.wr W64 q62
  have q67 := Ints.other W64 q63 ne_ta_b1
  have Z64 : n0 ≤ h64.size := Nat.le_trans Z60 (Keep.of_wr W64).1
  refine Run.back (g' := (mkF m 98 #[.val (.int p0), .val (.int p1), .val (.int p2), .val (.int p3), .unset, .unset, .unset, .unset] [(.ref b1)])) st64 ?_
  refine Run.dup (pc' := 99) X64 hx (hb hby at_98) rfl rfl ?_
  refine Run.bipush (pc' := 101) (v := (16 : Int32)) X64 hx (hb hby at_99) rfl rfl ?_
  refine Run.sipush (pc' := 104) (v := (246 : Int32)) X64 hx (hb hby at_101) rfl rfl ?_
  obtain ⟨T68, h68, sl68, u68, X68, e68, W68, A68, st68⟩ := st_iastore X64 hx hZ e64 A64 (Ls := #[.val (.int p0), .val (.int p1), .val (.int p2), .val (.int p3), .unset, .unset, .unset, .unset]) (rest := [(.ref b1)]) (j := (16 : Int32)) (x := (246 : Int32)) (by decide) (by decide) (hb hby at_104)
  have N68 := Fr.snoc X68 N64 G1
  obtain ⟨f69, qf69⟩ : ∃ g : Int32 → Int32, g = fun i => if i = (16 : Int32) then (246 : Int32) else f65 i := ⟨_, rfl⟩
  replace A68 : Ints Z h68 b1 .int (39 : Int32) f69 := by rw [qf69]; exact A68
  have q70 := Sta.wr W68 q66
  have q71 := Ints.other W68 q67 ne_ta_b1
  have Z68 : n0 ≤ h68.size := Nat.le_trans Z64 (Keep.of_wr W68).1
  refine Run.back (g' := (mkF m 105 #[.val (.int p0), .val (.int p1), .val (.int p2), .val (.int p3), .unset, .unset, .unset, .unset] [(.ref b1)])) st68 ?_
  refine Run.dup (pc' := 106) X68 hx (hb hby at_105) rfl rfl ?_
  refine Run.bipush (pc' := 108) (v := (17 : Int32)) X68 hx (hb hby at_106) rfl rfl ?_
  refine Run.sipush (pc' := 111) (v := (248 : Int32)) X68 hx (hb hby at_108) rfl rfl ?_
  obtain ⟨T72, h72, sl72, u72, X72, e72, W72, A72, st72⟩ := st_iastore X68 hx hZ e68 A68 (Ls := #[.val (.int p0), .val (.int p1), .val (.int p2), .val (.int p3), .unset, .unset, .unset, .unset]) (rest := [(.ref b1)]) (j := (17 : Int32)) (x := (248 : Int32)) (by decide) (by decide) (hb hby at_111)
  have N72 := Fr.snoc X72 N68 G1
  obtain ⟨f73, qf73⟩ : ∃ g : Int32 → Int32, g = fun i => if i = (17 : Int32) then (248 : Int32) else f69 i := ⟨_, rfl⟩
  replace A72 : Ints Z h72 b1 .int (39 : Int32) f73 := by rw [qf73]; exact A72
  have q74 := Sta.wr W72 q70
  have q75 := Ints.other W72 q71 ne_ta_b1
  have Z72 : n0 ≤ h72.size := Nat.le_trans Z68 (Keep.of_wr W72).1
  refine Run.back (g' := (mkF m 112 #[.val (.int p0), .val (.int p1), .val (.int p2), .val (.int p3), .unset, .unset, .unset, .unset] [(.ref b1)])) st72 ?_
  refine Run.dup (pc' := 113) X72 hx (hb hby at_112) rfl rfl ?_
  refine Run.bipush (pc' := 115) (v := (18 : Int32)) X72 hx (hb hby at_113) rfl rfl ?_
  refine Run.sipush (pc' := 118) (v := (767 : Int32)) X72 hx (hb hby at_115) rfl rfl ?_
  obtain ⟨T76, h76, sl76, u76, X76, e76, W76, A76, st76⟩ := st_iastore X72 hx hZ e72 A72 (Ls := #[.val (.int p0), .val (.int p1), .val (.int p2), .val (.int p3), .unset, .unset, .unset, .unset]) (rest := [(.ref b1)]) (j := (18 : Int32)) (x := (767 : Int32)) (by decide) (by decide) (hb hby at_118)
  have N76 := Fr.snoc X76 N72 G1
  obtain ⟨f77, qf77⟩ : ∃ g : Int32 → Int32, g = fun i => if i = (18 : Int32) then (767 : Int32) else f73 i := ⟨_, rfl⟩
  replace A76 : Ints Z h76 b1 .int (39 : Int32) f77 := by rw [qf77]; exact A76
  have q78 := Sta.wr W76 q74
  have q79 := Ints.other W76 q75 ne_ta_b1
  have Z76 : n0 ≤ h76.size := Nat.le_trans Z72 (Keep.of_wr W76).1
  refine Run.back (g' := (mkF m 119 #[.val (.int p0), .val (.int p1), .val (.int p2), .val (.int p3), .unset, .unset, .unset, .unset] [(.ref b1)])) st76 ?_
  refine Run.dup (pc' := 120) X76 hx (hb hby at_119) rfl rfl ?_
  refine Run.bipush (pc' := 122) (v := (19 : Int32)) X76 hx (hb hby at_120) rfl rfl ?_
  refine Run.sipush (pc' := 125) (v := (880 : Int32)) X76 hx (hb hby at_122) rfl rfl ?_
  obtain ⟨T80, h80, sl80, u80, X80, e80, W80, A80, st80⟩ := st_iastore X76 hx hZ e76 A76 (Ls := #[.val (.int p0), .val (.int p1), .val (.int p2), .val (.int p3), .unset, .unset, .unset, .unset]) (rest := [(.ref b1)]) (j := (19 : Int32)) (x := (880 : Int32)) (by decide) (by decide) (hb hby at_125)
  have N80 := Fr.snoc X80 N76 G1
  obtain ⟨f81, qf81⟩ : ∃ g : Int32 → Int32, g = fun i => if i = (19 : Int32) then (880 : Int32) else f77 i := ⟨_, rfl⟩
  replace A80 : Ints Z h80 b1 .int (39 : Int32) f81 := by rw [qf81]; exact A80
  have q82 := Sta.wr W80 q78
  have q83 := Ints.other W80 q79 ne_ta_b1
  have Z80 : n0 ≤ h80.size := Nat.le_trans Z76 (Keep.of_wr W80).1
  refine Run.back (g' := (mkF m 126 #[.val (.int p0), .val (.int p1), .val (.int p2), .val (.int p3), .unset, .unset, .unset, .unset] [(.ref b1)])) st80 ?_
  refine Run.dup (pc' := 127) X80 hx (hb hby at_126) rfl rfl ?_
  refine Run.bipush (pc' := 129) (v := (20 : Int32)) X80 hx (hb hby at_127) rfl rfl ?_
  refine Run.sipush (pc' := 132) (v := (893 : Int32)) X80 hx (hb hby at_129) rfl rfl ?_
  obtain ⟨T84, h84, sl84, u84, X84, e84, W84, A84, st84⟩ := st_iastore X80 hx hZ e80 A80 (Ls := #[.val (.int p0), .val (.int p1), .val (.int p2), .val (.int p3), .unset, .unset, .unset, .unset]) (rest := [(.ref b1)]) (j := (20 : Int32)) (x := (893 : Int32)) (by decide) (by decide) (hb hby at_132)
  have N84 := Fr.snoc X84 N80 G1
  obtain ⟨f85, qf85⟩ : ∃ g : Int32 → Int32, g = fun i => if i = (20 : Int32) then (893 : Int32) else f81 i := ⟨_, rfl⟩
  replace A84 : Ints Z h84 b1 .int (39 : Int32) f85 := by rw [qf85]; exact A84
  have q86 := Sta.wr W84 q82
  have q87 := Ints.other W84 q83 ne_ta_b1
  have Z84 : n0 ≤ h84.size := Nat.le_trans Z80 (Keep.of_wr W84).1
  refine Run.back (g' := (mkF m 133 #[.val (.int p0), .val (.int p1), .val (.int p2), .val (.int p3), .unset, .unset, .unset, .unset] [(.ref b1)])) st84 ?_
  refine Run.dup (pc' := 134) X84 hx (hb hby at_133) rfl rfl ?_
  refine Run.bipush (pc' := 136) (v := (21 : Int32)) X84 hx (hb hby at_134) rfl rfl ?_
  refine Run.sipush (pc' := 139) (v := (895 : Int32)) X84 hx (hb hby at_136) rfl rfl ?_
  obtain ⟨T88, h88, sl88, u88, X88, e88, W88, A88, st88⟩ := st_iastore X84 hx hZ e84 A84 (Ls := #[.val (.int p0), .val (.int p1), .val (.int p2), .val (.int p3), .unset, .unset, .unset, .unset]) (rest := [(.ref b1)]) (j := (21 : Int32)) (x := (895 : Int32)) (by decide) (by decide) (hb hby at_139)
  have N88 := Fr.snoc X88 N84 G1
  obtain ⟨f89, qf89⟩ : ∃ g : Int32 → Int32, g = fun i => if i = (21 : Int32) then (895 : Int32) else f85 i := ⟨_, rfl⟩
  replace A88 : Ints Z h88 b1 .int (39 : Int32) f89 := by rw [qf89]; exact A88
  have q90 := Sta.wr W88 q86
  have q91 := Ints.other W88 q87 ne_ta_b1
  have Z88 : n0 ≤ h88.size := Nat.le_trans Z84 (Keep.of_wr W88).1
  refine Run.back (g' := (mkF m 140 #[.val (.int p0), .val (.int p1), .val (.int p2), .val (.int p3), .unset, .unset, .unset, .unset] [(.ref b1)])) st88 ?_
  refine Run.dup (pc' := 141) X88 hx (hb hby at_140) rfl rfl ?_
  refine Run.bipush (pc' := 143) (v := (22 : Int32)) X88 hx (hb hby at_141) rfl rfl ?_
  refine Run.sipush (pc' := 146) (v := (8191 : Int32)) X88 hx (hb hby at_143) rfl rfl ?_
  obtain ⟨T92, h92, sl92, u92, X92, e92, W92, A92, st92⟩ := st_iastore X88 hx hZ e88 A88 (Ls := #[.val (.int p0), .val (.int p1), .val (.int p2), .val (.int p3), .unset, .unset, .unset, .unset]) (rest := [(.ref b1)]) (j := (22 : Int32)) (x := (8191 : Int32)) (by decide) (by decide) (hb hby at_146)
  have N92 := Fr.snoc X92 N88 G1
  obtain ⟨f93, qf93⟩ : ∃ g : Int32 → Int32, g = fun i => if i = (22 : Int32) then (8191 : Int32) else f89 i := ⟨_, rfl⟩
  replace A92 : Ints Z h92 b1 .int (39 : Int32) f93 := by rw [qf93]; exact A92
  have q94 := Sta.wr W92 q90
  have q95 := Ints.other W92 q91 ne_ta_b1
  have Z92 : n0 ≤ h92.size := Nat.le_trans Z88 (Keep.of_wr W92).1
  refine Run.back (g' := (mkF m 147 #[.val (.int p0), .val (.int p1), .val (.int p2), .val (.int p3), .unset, .unset, .unset, .unset] [(.ref b1)])) st92 ?_
  refine Run.dup (pc' := 148) X92 hx (hb hby at_147) rfl rfl ?_
  refine Run.bipush (pc' := 150) (v := (23 : Int32)) X92 hx (hb hby at_148) rfl rfl ?_
  refine Run.sipush (pc' := 153) (v := (8204 : Int32)) X92 hx (hb hby at_150) rfl rfl ?_
  obtain ⟨T96, h96, sl96, u96, X96, e96, W96, A96, st96⟩ := st_iastore X92 hx hZ e92 A92 (Ls := #[.val (.int p0), .val (.int p1), .val (.int p2), .val (.int p3), .unset, .unset, .unset, .unset]) (rest := [(.ref b1)]) (j := (23 : Int32)) (x := (8204 : Int32)) (by decide) (by decide) (hb hby at_153)
  have N96 := Fr.snoc X96 N92 G1
  obtain ⟨f97, qf97⟩ : ∃ g : Int32 → Int32, g = fun i => if i = (23 : Int32) then (8204 : Int32) else f93 i := ⟨_, rfl⟩
  replace A96 : Ints Z h96 b1 .int (39 : Int32) f97 := by rw [qf97]; exact A96
  have q98 := Sta.wr W96 q94
  have q99 := Ints.other W96 q95 ne_ta_b1
  have Z96 : n0 ≤ h96.size := Nat.le_trans Z92 (Keep.of_wr W96).1
  refine Run.back (g' := (mkF m 154 #[.val (.int p0), .val (.int p1), .val (.int p2), .val (.int p3), .unset, .unset, .unset, .unset] [(.ref b1)])) st96 ?_
  refine Run.dup (pc' := 155) X96 hx (hb hby at_154) rfl rfl ?_
  refine Run.bipush (pc' := 157) (v := (24 : Int32)) X96 hx (hb hby at_155) rfl rfl ?_
  refine Run.sipush (pc' := 160) (v := (8205 : Int32)) X96 hx (hb hby at_157) rfl rfl ?_
  obtain ⟨T100, h100, sl100, u100, X100, e100, W100, A100, st100⟩ := st_iastore X96 hx hZ e96 A96 (Ls := #[.val (.int p0), .val (.int p1), .val (.int p2), .val (.int p3), .unset, .unset, .unset, .unset]) (rest := [(.ref b1)]) (j := (24 : Int32)) (x := (8205 : Int32)) (by decide) (by decide) (hb hby at_160)
  have N100 := Fr.snoc X100 N96 G1
  obtain ⟨f101, qf101⟩ : ∃ g : Int32 → Int32, g = fun i => if i = (24 : Int32) then (8205 : Int32) else f97 i := ⟨_, rfl⟩
  replace A100 : Ints Z h100 b1 .int (39 : Int32) f101 := by rw [qf101]; exact A100
  have q102 := Sta.wr W100 q98
  have q103 := Ints.other W100 q99 ne_ta_b1
  have Z100 : n0 ≤ h100.size := Nat.le_trans Z96 (Keep.of_wr W100).1
  refine Run.back (g' := (mkF m 161 #[.val (.int p0), .val (.int p1), .val (.int p2), .val (.int p3), .unset, .unset, .unset, .unset] [(.ref b1)])) st100 ?_
  refine Run.dup (pc' := 162) X100 hx (hb hby at_161) rfl rfl ?_
  refine Run.bipush (pc' := 164) (v := (25 : Int32)) X100 hx (hb hby at_162) rfl rfl ?_
  refine Run.sipush (pc' := 167) (v := (8304 : Int32)) X100 hx (hb hby at_164) rfl rfl ?_
  obtain ⟨T104, h104, sl104, u104, X104, e104, W104, A104, st104⟩ := st_iastore X100 hx hZ e100 A100 (Ls := #[.val (.int p0), .val (.int p1), .val (.int p2), .val (.int p3), .unset, .unset, .unset, .unset]) (rest := [(.ref b1)]) (j := (25 : Int32)) (x := (8304 : Int32)) (by decide) (by decide) (hb hby at_167)
  have N104 := Fr.snoc X104 N100 G1
  obtain ⟨f105, qf105⟩ : ∃ g : Int32 → Int32, g = fun i => if i = (25 : Int32) then (8304 : Int32) else f101 i := ⟨_, rfl⟩
  replace A104 : Ints Z h104 b1 .int (39 : Int32) f105 := by rw [qf105]; exact A104
  have q106 := Sta.wr W104 q102
  have q107 := Ints.other W104 q103 ne_ta_b1
  have Z104 : n0 ≤ h104.size := Nat.le_trans Z100 (Keep.of_wr W104).1
  refine Run.back (g' := (mkF m 168 #[.val (.int p0), .val (.int p1), .val (.int p2), .val (.int p3), .unset, .unset, .unset, .unset] [(.ref b1)])) st104 ?_
  refine Run.dup (pc' := 169) X104 hx (hb hby at_168) rfl rfl ?_
  refine Run.bipush (pc' := 171) (v := (26 : Int32)) X104 hx (hb hby at_169) rfl rfl ?_
  refine Run.sipush (pc' := 174) (v := (8591 : Int32)) X104 hx (hb hby at_171) rfl rfl ?_
  obtain ⟨T108, h108, sl108, u108, X108, e108, W108, A108, st108⟩ := st_iastore X104 hx hZ e104 A104 (Ls := #[.val (.int p0), .val (.int p1), .val (.int p2), .val (.int p3), .unset, .unset, .unset, .unset]) (rest := [(.ref b1)]) (j := (26 : Int32)) (x := (8591 : Int32)) (by decide) (by decide) (hb hby at_174)
  have N108 := Fr.snoc X108 N104 G1
  obtain ⟨f109, qf109⟩ : ∃ g : Int32 → Int32, g = fun i => if i = (26 : Int32) then (8591 : Int32) else f105 i := ⟨_, rfl⟩
  replace A108 : Ints Z h108 b1 .int (39 : Int32) f109 := by rw [qf109]; exact A108
  have q110 := Sta.wr W108 q106
  have q111 := Ints.other W108 q107 ne_ta_b1
  have Z108 : n0 ≤ h108.size := Nat.le_trans Z104 (Keep.of_wr W108).1
  refine Run.back (g' := (mkF m 175 #[.val (.int p0), .val (.int p1), .val (.int p2), .val (.int p3), .unset, .unset, .unset, .unset] [(.ref b1)])) st108 ?_
  refine Run.dup (pc' := 176) X108 hx (hb hby at_175) rfl rfl ?_
  refine Run.bipush (pc' := 178) (v := (27 : Int32)) X108 hx (hb hby at_176) rfl rfl ?_
  refine Run.sipush (pc' := 181) (v := (11264 : Int32)) X108 hx (hb hby at_178) rfl rfl ?_
  obtain ⟨T112, h112, sl112, u112, X112, e112, W112, A112, st112⟩ := st_iastore X108 hx hZ e108 A108 (Ls := #[.val (.int p0), .val (.int p1), .val (.int p2), .val (.int p3), .unset, .unset, .unset, .unset]) (rest := [(.ref b1)]) (j := (27 : Int32)) (x := (11264 : Int32)) (by decide) (by decide) (hb hby at_181)
  have N112 := Fr.snoc X112 N108 G1
  obtain ⟨f113, qf113⟩ : ∃ g : Int32 → Int32, g = fun i => if i = (27 : Int32) then (11264 : Int32) else f109 i := ⟨_, rfl⟩
  replace A112 : Ints Z h112 b1 .int (39 : Int32) f113 := by rw [qf113]; exact A112
  have q114 := Sta.wr W112 q110
  have q115 := Ints.other W112 q111 ne_ta_b1
  have Z112 : n0 ≤ h112.size := Nat.le_trans Z108 (Keep.of_wr W112).1
  refine Run.back (g' := (mkF m 182 #[.val (.int p0), .val (.int p1), .val (.int p2), .val (.int p3), .unset, .unset, .unset, .unset] [(.ref b1)])) st112 ?_
  refine Run.dup (pc' := 183) X112 hx (hb hby at_182) rfl rfl ?_
  refine Run.bipush (pc' := 185) (v := (28 : Int32)) X112 hx (hb hby at_183) rfl rfl ?_
  refine Run.sipush (pc' := 188) (v := (12271 : Int32)) X112 hx (hb hby at_185) rfl rfl ?_
  obtain ⟨T116, h116, sl116, u116, X116, e116, W116, A116, st116⟩ := st_iastore X112 hx hZ e112 A112 (Ls := #[.val (.int p0), .val (.int p1), .val (.int p2), .val (.int p3), .unset, .unset, .unset, .unset]) (rest := [(.ref b1)]) (j := (28 : Int32)) (x := (12271 : Int32)) (by decide) (by decide) (hb hby at_188)
  have N116 := Fr.snoc X116 N112 G1
  obtain ⟨f117, qf117⟩ : ∃ g : Int32 → Int32, g = fun i => if i = (28 : Int32) then (12271 : Int32) else f113 i := ⟨_, rfl⟩
  replace A116 : Ints Z h116 b1 .int (39 : Int32) f117 := by rw [qf117]; exact A116
  have q118 := Sta.wr W116 q114
  have q119 := Ints.other W116 q115 ne_ta_b1
  have Z116 : n0 ≤ h116.size := Nat.le_trans Z112 (Keep.of_wr W116).1
  refine Run.back (g' := (mkF m 189 #[.val (.int p0), .val (.int p1), .val (.int p2), .val (.int p3), .unset, .unset, .unset, .unset] [(.ref b1)])) st116 ?_
  refine Run.dup (pc' := 190) X116 hx (hb hby at_189) rfl rfl ?_
  refine Run.bipush (pc' := 192) (v := (29 : Int32)) X116 hx (hb hby at_190) rfl rfl ?_
  refine Run.sipush (pc' := 195) (v := (12289 : Int32)) X116 hx (hb hby at_192) rfl rfl ?_
  obtain ⟨T120, h120, sl120, u120, X120, e120, W120, A120, st120⟩ := st_iastore X116 hx hZ e116 A116 (Ls := #[.val (.int p0), .val (.int p1), .val (.int p2), .val (.int p3), .unset, .unset, .unset, .unset]) (rest := [(.ref b1)]) (j := (29 : Int32)) (x := (12289 : Int32)) (by decide) (by decide) (hb hby at_195)
  have N120 := Fr.snoc X120 N116 G1
  obtain ⟨f121, qf121⟩ : ∃ g : Int32 → Int32, g = fun i => if i = (29 : Int32) then (12289 : Int32) else f117 i := ⟨_, rfl⟩
  replace A120 : Ints Z h120 b1 .int (39 : Int32) f121 := by rw [qf121]; exact A120
  have q122 := Sta.wr W120 q118
  have q123 := Ints.other W120 q119 ne_ta_b1
  have Z120 : n0 ≤ h120.size := Nat.le_trans Z116 (Keep.of_wr W120).1
  refine Run.back (g' := (mkF m 196 #[.val (.int p0), .val (.int p1), .val (.int p2), .val (.int p3), .unset, .unset, .unset, .unset] [(.ref b1)])) st120 ?_
  refine Run.dup (pc' := 197) X120 hx (hb hby at_196) rfl rfl ?_
  refine Run.bipush (pc' := 199) (v := (30 : Int32)) X120 hx (hb hby at_197) rfl rfl ?_
  refine Run.ldcInt (pc' := 201) (v := (55295 : Int32)) X120 hx hown (mvT hZ (hw _ (List.mem_of_getElem? (i := 1) rfl))) (hb hby at_199) rfl ?_
  obtain ⟨T124, h124, sl124, u124, X124, e124, W124, A124, st124⟩ := st_iastore X120 hx hZ e120 A120 (Ls := #[.val (.int p0), .val (.int p1), .val (.int p2), .val (.int p3), .unset, .unset, .unset, .unset]) (rest := [(.ref b1)]) (j := (30 : Int32)) (x := (55295 : Int32)) (by decide) (by decide) (hb hby at_201)
  have N124 := Fr.snoc X124 N120 G1
  obtain ⟨f125, qf125⟩ : ∃ g : Int32 → Int32, g = fun i => if i = (30 : Int32) then (55295 : Int32) else f121 i := ⟨_, rfl⟩
  replace A124 : Ints Z h124 b1 .int (39 : Int32) f125 := by rw [qf125]; exact A124
  have q126 := Sta.wr W124 q122
  have q127 := Ints.other W124 q123 ne_ta_b1
  have Z124 : n0 ≤ h124.size := Nat.le_trans Z120 (Keep.of_wr W124).1
  refine Run.back (g' := (mkF m 202 #[.val (.int p0), .val (.int p1), .val (.int p2), .val (.int p3), .unset, .unset, .unset, .unset] [(.ref b1)])) st124 ?_
  refine Run.dup (pc' := 203) X124 hx (hb hby at_202) rfl rfl ?_
  refine Run.bipush (pc' := 205) (v := (31 : Int32)) X124 hx (hb hby at_203) rfl rfl ?_
  refine Run.ldcInt (pc' := 207) (v := (63744 : Int32)) X124 hx hown (mvT hZ (hw _ (List.mem_of_getElem? (i := 2) rfl))) (hb hby at_205) rfl ?_
  obtain ⟨T128, h128, sl128, u128, X128, e128, W128, A128, st128⟩ := st_iastore X124 hx hZ e124 A124 (Ls := #[.val (.int p0), .val (.int p1), .val (.int p2), .val (.int p3), .unset, .unset, .unset, .unset]) (rest := [(.ref b1)]) (j := (31 : Int32)) (x := (63744 : Int32)) (by decide) (by decide) (hb hby at_207)
  have N128 := Fr.snoc X128 N124 G1
  obtain ⟨f129, qf129⟩ : ∃ g : Int32 → Int32, g = fun i => if i = (31 : Int32) then (63744 : Int32) else f125 i := ⟨_, rfl⟩
  replace A128 : Ints Z h128 b1 .int (39 : Int32) f129 := by rw [qf129]; exact A128
  have q130 := Sta.wr W128 q126
  have q131 := Ints.other W128 q127 ne_ta_b1
  have Z128 : n0 ≤ h128.size := Nat.le_trans Z124 (Keep.of_wr W128).1
  refine Run.back (g' := (mkF m 208 #[.val (.int p0), .val (.int p1), .val (.int p2), .val (.int p3), .unset, .unset, .unset, .unset] [(.ref b1)])) st128 ?_
  refine Run.dup (pc' := 209) X128 hx (hb hby at_208) rfl rfl ?_
  refine Run.bipush (pc' := 211) (v := (32 : Int32)) X128 hx (hb hby at_209) rfl rfl ?_
  refine Run.ldcInt (pc' := 213) (v := (64975 : Int32)) X128 hx hown (mvT hZ (hw _ (List.mem_of_getElem? (i := 3) rfl))) (hb hby at_211) rfl ?_
  obtain ⟨T132, h132, sl132, u132, X132, e132, W132, A132, st132⟩ := st_iastore X128 hx hZ e128 A128 (Ls := #[.val (.int p0), .val (.int p1), .val (.int p2), .val (.int p3), .unset, .unset, .unset, .unset]) (rest := [(.ref b1)]) (j := (32 : Int32)) (x := (64975 : Int32)) (by decide) (by decide) (hb hby at_213)
  have N132 := Fr.snoc X132 N128 G1
  obtain ⟨f133, qf133⟩ : ∃ g : Int32 → Int32, g = fun i => if i = (32 : Int32) then (64975 : Int32) else f129 i := ⟨_, rfl⟩
  replace A132 : Ints Z h132 b1 .int (39 : Int32) f133 := by rw [qf133]; exact A132
  have q134 := Sta.wr W132 q130
  have q135 := Ints.other W132 q131 ne_ta_b1
  have Z132 : n0 ≤ h132.size := Nat.le_trans Z128 (Keep.of_wr W132).1
  refine Run.back (g' := (mkF m 214 #[.val (.int p0), .val (.int p1), .val (.int p2), .val (.int p3), .unset, .unset, .unset, .unset] [(.ref b1)])) st132 ?_
  refine Run.dup (pc' := 215) X132 hx (hb hby at_214) rfl rfl ?_
  refine Run.bipush (pc' := 217) (v := (33 : Int32)) X132 hx (hb hby at_215) rfl rfl ?_
  refine Run.ldcInt (pc' := 219) (v := (65008 : Int32)) X132 hx hown (mvT hZ (hw _ (List.mem_of_getElem? (i := 4) rfl))) (hb hby at_217) rfl ?_
  obtain ⟨T136, h136, sl136, u136, X136, e136, W136, A136, st136⟩ := st_iastore X132 hx hZ e132 A132 (Ls := #[.val (.int p0), .val (.int p1), .val (.int p2), .val (.int p3), .unset, .unset, .unset, .unset]) (rest := [(.ref b1)]) (j := (33 : Int32)) (x := (65008 : Int32)) (by decide) (by decide) (hb hby at_219)
  have N136 := Fr.snoc X136 N132 G1
  obtain ⟨f137, qf137⟩ : ∃ g : Int32 → Int32, g = fun i => if i = (33 : Int32) then (65008 : Int32) else f133 i := ⟨_, rfl⟩
  replace A136 : Ints Z h136 b1 .int (39 : Int32) f137 := by rw [qf137]; exact A136
  have q138 := Sta.wr W136 q134
  have q139 := Ints.other W136 q135 ne_ta_b1
  have Z136 : n0 ≤ h136.size := Nat.le_trans Z132 (Keep.of_wr W136).1
  refine Run.back (g' := (mkF m 220 #[.val (.int p0), .val (.int p1), .val (.int p2), .val (.int p3), .unset, .unset, .unset, .unset] [(.ref b1)])) st136 ?_
  refine Run.dup (pc' := 221) X136 hx (hb hby at_220) rfl rfl ?_
  refine Run.bipush (pc' := 223) (v := (34 : Int32)) X136 hx (hb hby at_221) rfl rfl ?_
  refine Run.ldcInt (pc' := 225) (v := (65533 : Int32)) X136 hx hown (mvT hZ (hw _ (List.mem_of_getElem? (i := 5) rfl))) (hb hby at_223) rfl ?_
  obtain ⟨T140, h140, sl140, u140, X140, e140, W140, A140, st140⟩ := st_iastore X136 hx hZ e136 A136 (Ls := #[.val (.int p0), .val (.int p1), .val (.int p2), .val (.int p3), .unset, .unset, .unset, .unset]) (rest := [(.ref b1)]) (j := (34 : Int32)) (x := (65533 : Int32)) (by decide) (by decide) (hb hby at_225)
  have N140 := Fr.snoc X140 N136 G1
  obtain ⟨f141, qf141⟩ : ∃ g : Int32 → Int32, g = fun i => if i = (34 : Int32) then (65533 : Int32) else f137 i := ⟨_, rfl⟩
  replace A140 : Ints Z h140 b1 .int (39 : Int32) f141 := by rw [qf141]; exact A140
  have q142 := Sta.wr W140 q138
  have q143 := Ints.other W140 q139 ne_ta_b1
  have Z140 : n0 ≤ h140.size := Nat.le_trans Z136 (Keep.of_wr W140).1
  refine Run.back (g' := (mkF m 226 #[.val (.int p0), .val (.int p1), .val (.int p2), .val (.int p3), .unset, .unset, .unset, .unset] [(.ref b1)])) st140 ?_
  refine Run.dup (pc' := 227) X140 hx (hb hby at_226) rfl rfl ?_
  refine Run.bipush (pc' := 229) (v := (35 : Int32)) X140 hx (hb hby at_227) rfl rfl ?_
  refine Run.ldcInt (pc' := 231) (v := (65536 : Int32)) X140 hx hown (mvT hZ (hw _ (List.mem_of_getElem? (i := 6) rfl))) (hb hby at_229) rfl ?_
  obtain ⟨T144, h144, sl144, u144, X144, e144, W144, A144, st144⟩ := st_iastore X140 hx hZ e140 A140 (Ls := #[.val (.int p0), .val (.int p1), .val (.int p2), .val (.int p3), .unset, .unset, .unset, .unset]) (rest := [(.ref b1)]) (j := (35 : Int32)) (x := (65536 : Int32)) (by decide) (by decide) (hb hby at_231)
  have N144 := Fr.snoc X144 N140 G1
  obtain ⟨f145, qf145⟩ : ∃ g : Int32 → Int32, g = fun i => if i = (35 : Int32) then (65536 : Int32) else f141 i := ⟨_, rfl⟩
  replace A144 : Ints Z h144 b1 .int (39 : Int32) f145 := by rw [qf145]; exact A144
  have q146 := Sta.wr W144 q142
  have q147 := Ints.other W144 q143 ne_ta_b1
  have Z144 : n0 ≤ h144.size := Nat.le_trans Z140 (Keep.of_wr W144).1
  refine Run.back (g' := (mkF m 232 #[.val (.int p0), .val (.int p1), .val (.int p2), .val (.int p3), .unset, .unset, .unset, .unset] [(.ref b1)])) st144 ?_
  refine Run.dup (pc' := 233) X144 hx (hb hby at_232) rfl rfl ?_
  refine Run.bipush (pc' := 235) (v := (36 : Int32)) X144 hx (hb hby at_233) rfl rfl ?_
  refine Run.ldcInt (pc' := 237) (v := (983039 : Int32)) X144 hx hown (mvT hZ (hw _ (List.mem_of_getElem? (i := 7) rfl))) (hb hby at_235) rfl ?_
  obtain ⟨T148, h148, sl148, u148, X148, e148, W148, A148, st148⟩ := st_iastore X144 hx hZ e144 A144 (Ls := #[.val (.int p0), .val (.int p1), .val (.int p2), .val (.int p3), .unset, .unset, .unset, .unset]) (rest := [(.ref b1)]) (j := (36 : Int32)) (x := (983039 : Int32)) (by decide) (by decide) (hb hby at_237)
  have N148 := Fr.snoc X148 N144 G1
  obtain ⟨f149, qf149⟩ : ∃ g : Int32 → Int32, g = fun i => if i = (36 : Int32) then (983039 : Int32) else f145 i := ⟨_, rfl⟩
  replace A148 : Ints Z h148 b1 .int (39 : Int32) f149 := by rw [qf149]; exact A148
  have q150 := Sta.wr W148 q146
  have q151 := Ints.other W148 q147 ne_ta_b1
  have Z148 : n0 ≤ h148.size := Nat.le_trans Z144 (Keep.of_wr W148).1
  refine Run.back (g' := (mkF m 238 #[.val (.int p0), .val (.int p1), .val (.int p2), .val (.int p3), .unset, .unset, .unset, .unset] [(.ref b1)])) st148 ?_
  refine Run.dup (pc' := 239) X148 hx (hb hby at_238) rfl rfl ?_
  refine Run.bipush (pc' := 241) (v := (37 : Int32)) X148 hx (hb hby at_239) rfl rfl ?_
  refine Run.ldcInt (pc' := 243) (v := (1114111 : Int32)) X148 hx hown (mvT hZ (hw _ (List.mem_of_getElem? (i := 8) rfl))) (hb hby at_241) rfl ?_
  obtain ⟨T152, h152, sl152, u152, X152, e152, W152, A152, st152⟩ := st_iastore X148 hx hZ e148 A148 (Ls := #[.val (.int p0), .val (.int p1), .val (.int p2), .val (.int p3), .unset, .unset, .unset, .unset]) (rest := [(.ref b1)]) (j := (37 : Int32)) (x := (1114111 : Int32)) (by decide) (by decide) (hb hby at_243)
  have N152 := Fr.snoc X152 N148 G1
  obtain ⟨f153, qf153⟩ : ∃ g : Int32 → Int32, g = fun i => if i = (37 : Int32) then (1114111 : Int32) else f149 i := ⟨_, rfl⟩
  replace A152 : Ints Z h152 b1 .int (39 : Int32) f153 := by rw [qf153]; exact A152
  have q154 := Sta.wr W152 q150
  have q155 := Ints.other W152 q151 ne_ta_b1
  have Z152 : n0 ≤ h152.size := Nat.le_trans Z148 (Keep.of_wr W152).1
  refine Run.back (g' := (mkF m 244 #[.val (.int p0), .val (.int p1), .val (.int p2), .val (.int p3), .unset, .unset, .unset, .unset] [(.ref b1)])) st152 ?_
  refine Run.dup (pc' := 245) X152 hx (hb hby at_244) rfl rfl ?_
  refine Run.bipush (pc' := 247) (v := (38 : Int32)) X152 hx (hb hby at_245) rfl rfl ?_
  refine Run.ldcInt (pc' := 249) (v := (2147483647 : Int32)) X152 hx hown (mvT hZ (hw _ (List.mem_of_getElem? (i := 9) rfl))) (hb hby at_247) rfl ?_
  obtain ⟨T156, h156, sl156, u156, X156, e156, W156, A156, st156⟩ := st_iastore X152 hx hZ e152 A152 (Ls := #[.val (.int p0), .val (.int p1), .val (.int p2), .val (.int p3), .unset, .unset, .unset, .unset]) (rest := [(.ref b1)]) (j := (38 : Int32)) (x := (2147483647 : Int32)) (by decide) (by decide) (hb hby at_249)
  have N156 := Fr.snoc X156 N152 G1
  obtain ⟨f157, qf157⟩ : ∃ g : Int32 → Int32, g = fun i => if i = (38 : Int32) then (2147483647 : Int32) else f153 i := ⟨_, rfl⟩
  replace A156 : Ints Z h156 b1 .int (39 : Int32) f157 := by rw [qf157]; exact A156
  have q158 := Sta.wr W156 q154
  have q159 := Ints.other W156 q155 ne_ta_b1
  have Z156 : n0 ≤ h156.size := Nat.le_trans Z152 (Keep.of_wr W156).1
  refine Run.back (g' := (mkF m 250 #[.val (.int p0), .val (.int p1), .val (.int p2), .val (.int p3), .unset, .unset, .unset, .unset] [(.ref b1)])) st156 ?_
  refine Run.astore (pc' := 252) X156 hx (l' := #[.val (.int p0), .val (.int p1), .val (.int p2), .val (.int p3), .val (.ref b1), .unset, .unset, .unset]) (hb hby at_250) rfl rfl ?_
  refine Run.iloadN (pc' := 253) X156 hx (hb hby at_252) rfl rfl ?_
  refine Run.iconst (pc' := 254) (v := (3 : Int32)) X156 hx (hb hby at_253) rfl rfl ?_
  refine Run.iand (pc' := 255) X156 hx (hb hby at_254) rfl ?_
  refine Run.istore (pc' := 257) X156 hx (l' := #[.val (.int p0), .val (.int p1), .val (.int p2), .val (.int p3), .val (.ref b1), .val (.int (p3 &&& (3 : Int32))), .unset, .unset]) (hb hby at_255) rfl rfl ?_
  refine Run.iload (pc' := 259) X156 hx (hb hby at_257) rfl rfl ?_
  by_cases hc259 : (p3 &&& (3 : Int32)) = (0 : Int32)
  · skip
    refine Run.ifNo (pc' := 262) X156 hx (hb hby at_259) ((if0 _ _).trans (teq hc259).2) rfl ?_
    refine Run.iloadN (pc' := 263) X156 hx (hb hby at_262) rfl rfl ?_
    refine Run.ldcInt (pc' := 265) (v := (2147483647 : Int32)) X156 hx hown (mvT hZ (hw _ (List.mem_of_getElem? (i := 9) rfl))) (hb hby at_263) rfl ?_
    refine Run.iand (pc' := 266) X156 hx (hb hby at_265) rfl ?_
    refine Run.istore (pc' := 268) X156 hx (l' := #[.val (.int p0), .val (.int p1), .val (.int p2), .val (.int p3), .val (.ref b1), .val (.int (p3 &&& (3 : Int32))), .val (.int (p0 &&& (2147483647 : Int32))), .unset]) (hb hby at_266) rfl rfl ?_
    refine Run.goto (pc' := 332) X156 hx (hb hby at_268) (by decide) (by decide) ?_
    refine Run.iload (pc' := 334) X156 hx (hb hby at_332) rfl rfl ?_
    obtain ⟨T160, L160, v160, X160, Q160, st160⟩ := callStatic X156 hx (y := (⟨"com/example/traceloom/traceloom/io/xes/XmlCharacters", "isNameStart", "(I)Z"⟩ : MethodName)) (Ls := #[.val (.int p0), .val (.int p1), .val (.int p2), .val (.int p3), .val (.ref b1), .val (.int (p3 &&& (3 : Int32))), .val (.int (p0 &&& (2147483647 : Int32))), .unset]) (rest := []) (W := 0) (argsL := [(.int (p0 &&& (2147483647 : Int32)))]) hZ hown (hw _ (List.mem_of_getElem? (i := 11) rfl)) (hw _ (List.mem_of_getElem? (i := 12) rfl)) (hw _ (List.mem_of_getElem? (i := 13) rfl)) (hw _ (List.mem_of_getElem? (i := 14) rfl)) (by decide) e156 (rm1 l Z a0 hw [] (p0 &&& (2147483647 : Int32)) ta own_T h156 n0 Z156 q158 q159 (own_p0 p0)) (hb hby at_334) (lenOf own_pd0 rfl) (by decide) (by decide) (by rw [hml]; rfl) (Nat.le_of_eq rfl) (by decide) (by decide)
    obtain ⟨rfl, M160, e160⟩ := Q160
    have N160 := Fr.app N156 M160
    refine Run.back (g' := (mkF m 337 #[.val (.int p0), .val (.int p1), .val (.int p2), .val (.int p3), .val (.ref b1), .val (.int (p3 &&& (3 : Int32))), .val (.int (p0 &&& (2147483647 : Int32))), .unset] [(.int (own_F1 (p0 &&& (2147483647 : Int32)) own_T))])) st160 ?_
    refine Run.iload (pc' := 339) X160 hx (hb hby at_337) rfl rfl ?_
    obtain ⟨T161, L161, v161, X161, Q161, st161⟩ := callStatic X160 hx (y := (⟨"com/example/traceloom/traceloom/io/xes/XmlCharactersIsNameStartPinLaw", "ref", "(I)Z"⟩ : MethodName)) (Ls := #[.val (.int p0), .val (.int p1), .val (.int p2), .val (.int p3), .val (.ref b1), .val (.int (p3 &&& (3 : Int32))), .val (.int (p0 &&& (2147483647 : Int32))), .unset]) (rest := [(.int (own_F1 (p0 &&& (2147483647 : Int32)) own_T))]) (W := 1) (argsL := [(.int (p0 &&& (2147483647 : Int32)))]) hZ hown (hw _ (List.mem_of_getElem? (i := 17) rfl)) (hw _ (List.mem_of_getElem? (i := 18) rfl)) (hw _ (List.mem_of_getElem? (i := 19) rfl)) (hw _ (List.mem_of_getElem? (i := 20) rfl)) (by decide) e160 (rm3 l Z a0 hw [] (p0 &&& (2147483647 : Int32))  h156 n0 Z156 ) (hb hby at_339) (lenOf own_pd0 rfl) (by decide) (by decide) (by rw [hml]; rfl) (Nat.le_of_eq rfl) (by decide) (by decide)
    obtain ⟨rfl, M161, e161⟩ := Q161
    have N161 := Fr.app N160 M161
    refine Run.back (g' := (mkF m 342 #[.val (.int p0), .val (.int p1), .val (.int p2), .val (.int p3), .val (.ref b1), .val (.int (p3 &&& (3 : Int32))), .val (.int (p0 &&& (2147483647 : Int32))), .unset] [(.int (own_F3 (p0 &&& (2147483647 : Int32)))), (.int (own_F1 (p0 &&& (2147483647 : Int32)) own_T))])) st161 ?_
    refine Run.icmpNo (pc' := 345) X161 hx (hb hby at_342) (teq (own_law _ (own_p0 p0))).2 rfl ?_
    refine Run.iconst (pc' := 346) (v := (1 : Int32)) X161 hx (hb hby at_345) rfl rfl ?_
    refine Run.goto (pc' := 350) X161 hx (hb hby at_346) (by decide) (by decide) ?_
    exact Run.retSmall X161 hx (t := .boolean) (z' := (1 : Int32)) Bd.notSynchronized Bd.returns (by simp) rfl (hb hby at_350) ⟨rfl, N161⟩ (by decide) (by decide)
  · skip
    refine Run.ifYes (pc' := 271) X156 hx (hb hby at_259) ((if0 _ _).trans (feq hc259).2) (by decide) (by decide) ?_
    refine Run.iload (pc' := 273) X156 hx (hb hby at_271) rfl rfl ?_
    refine Run.iconst (pc' := 274) (v := (1 : Int32)) X156 hx (hb hby at_273) rfl rfl ?_
    by_cases hc274 : (p3 &&& (3 : Int32)) = (1 : Int32)
    · skip
      refine Run.icmpNo (pc' := 277) X156 hx (hb hby at_274) (teq hc274).2 rfl ?_
      refine Run.iloadN (pc' := 278) X156 hx (hb hby at_277) rfl rfl ?_
      refine Run.ldcInt (pc' := 280) (v := (2147483647 : Int32)) X156 hx hown (mvT hZ (hw _ (List.mem_of_getElem? (i := 9) rfl))) (hb hby at_278) rfl ?_
      refine Run.iand (pc' := 281) X156 hx (hb hby at_280) rfl ?_
      refine Run.ldcInt (pc' := 283) (v := (1114112 : Int32)) X156 hx hown (mvT hZ (hw _ (List.mem_of_getElem? (i := 10) rfl))) (hb hby at_281) rfl ?_
      refine Run.irem (pc' := 284) X156 hx (hb hby at_283) (by decide) rfl ?_
      refine Run.istore (pc' := 286) X156 hx (l' := #[.val (.int p0), .val (.int p1), .val (.int p2), .val (.int p3), .val (.ref b1), .val (.int (p3 &&& (3 : Int32))), .val (.int ((p0 &&& (2147483647 : Int32)) % (1114112 : Int32))), .unset]) (hb hby at_284) rfl rfl ?_
      refine Run.goto (pc' := 332) X156 hx (hb hby at_286) (by decide) (by decide) ?_
      refine Run.iload (pc' := 334) X156 hx (hb hby at_332) rfl rfl ?_
      obtain ⟨T162, L162, v162, X162, Q162, st162⟩ := callStatic X156 hx (y := (⟨"com/example/traceloom/traceloom/io/xes/XmlCharacters", "isNameStart", "(I)Z"⟩ : MethodName)) (Ls := #[.val (.int p0), .val (.int p1), .val (.int p2), .val (.int p3), .val (.ref b1), .val (.int (p3 &&& (3 : Int32))), .val (.int ((p0 &&& (2147483647 : Int32)) % (1114112 : Int32))), .unset]) (rest := []) (W := 0) (argsL := [(.int ((p0 &&& (2147483647 : Int32)) % (1114112 : Int32)))]) hZ hown (hw _ (List.mem_of_getElem? (i := 11) rfl)) (hw _ (List.mem_of_getElem? (i := 12) rfl)) (hw _ (List.mem_of_getElem? (i := 13) rfl)) (hw _ (List.mem_of_getElem? (i := 14) rfl)) (by decide) e156 (rm1 l Z a0 hw [] ((p0 &&& (2147483647 : Int32)) % (1114112 : Int32)) ta own_T h156 n0 Z156 q158 q159 (own_p1 p0)) (hb hby at_334) (lenOf own_pd0 rfl) (by decide) (by decide) (by rw [hml]; rfl) (Nat.le_of_eq rfl) (by decide) (by decide)
      obtain ⟨rfl, M162, e162⟩ := Q162
      have N162 := Fr.app N156 M162
      refine Run.back (g' := (mkF m 337 #[.val (.int p0), .val (.int p1), .val (.int p2), .val (.int p3), .val (.ref b1), .val (.int (p3 &&& (3 : Int32))), .val (.int ((p0 &&& (2147483647 : Int32)) % (1114112 : Int32))), .unset] [(.int (own_F1 ((p0 &&& (2147483647 : Int32)) % (1114112 : Int32)) own_T))])) st162 ?_
      refine Run.iload (pc' := 339) X162 hx (hb hby at_337) rfl rfl ?_
      obtain ⟨T163, L163, v163, X163, Q163, st163⟩ := callStatic X162 hx (y := (⟨"com/example/traceloom/traceloom/io/xes/XmlCharactersIsNameStartPinLaw", "ref", "(I)Z"⟩ : MethodName)) (Ls := #[.val (.int p0), .val (.int p1), .val (.int p2), .val (.int p3), .val (.ref b1), .val (.int (p3 &&& (3 : Int32))), .val (.int ((p0 &&& (2147483647 : Int32)) % (1114112 : Int32))), .unset]) (rest := [(.int (own_F1 ((p0 &&& (2147483647 : Int32)) % (1114112 : Int32)) own_T))]) (W := 1) (argsL := [(.int ((p0 &&& (2147483647 : Int32)) % (1114112 : Int32)))]) hZ hown (hw _ (List.mem_of_getElem? (i := 17) rfl)) (hw _ (List.mem_of_getElem? (i := 18) rfl)) (hw _ (List.mem_of_getElem? (i := 19) rfl)) (hw _ (List.mem_of_getElem? (i := 20) rfl)) (by decide) e162 (rm3 l Z a0 hw [] ((p0 &&& (2147483647 : Int32)) % (1114112 : Int32))  h156 n0 Z156 ) (hb hby at_339) (lenOf own_pd0 rfl) (by decide) (by decide) (by rw [hml]; rfl) (Nat.le_of_eq rfl) (by decide) (by decide)
      obtain ⟨rfl, M163, e163⟩ := Q163
      have N163 := Fr.app N162 M163
      refine Run.back (g' := (mkF m 342 #[.val (.int p0), .val (.int p1), .val (.int p2), .val (.int p3), .val (.ref b1), .val (.int (p3 &&& (3 : Int32))), .val (.int ((p0 &&& (2147483647 : Int32)) % (1114112 : Int32))), .unset] [(.int (own_F3 ((p0 &&& (2147483647 : Int32)) % (1114112 : Int32)))), (.int (own_F1 ((p0 &&& (2147483647 : Int32)) % (1114112 : Int32)) own_T))])) st163 ?_
      refine Run.icmpNo (pc' := 345) X163 hx (hb hby at_342) (teq (own_law _ (own_p1 p0))).2 rfl ?_
      refine Run.iconst (pc' := 346) (v := (1 : Int32)) X163 hx (hb hby at_345) rfl rfl ?_
      refine Run.goto (pc' := 350) X163 hx (hb hby at_346) (by decide) (by decide) ?_
      exact Run.retSmall X163 hx (t := .boolean) (z' := (1 : Int32)) Bd.notSynchronized Bd.returns (by simp) rfl (hb hby at_350) ⟨rfl, N163⟩ (by decide) (by decide)
    · skip
      refine Run.icmpYes (pc' := 289) X156 hx (hb hby at_274) (feq hc274).2 (by decide) (by decide) ?_
      refine Run.iload (pc' := 291) X156 hx (hb hby at_289) rfl rfl ?_
      refine Run.iconst (pc' := 292) (v := (2 : Int32)) X156 hx (hb hby at_291) rfl rfl ?_
      by_cases hc292 : (p3 &&& (3 : Int32)) = (2 : Int32)
      · skip
        refine Run.icmpNo (pc' := 295) X156 hx (hb hby at_292) (teq hc292).2 rfl ?_
        refine Run.iloadN (pc' := 296) X156 hx (hb hby at_295) rfl rfl ?_
        refine Run.ldcInt (pc' := 298) (v := (65535 : Int32)) X156 hx hown (mvT hZ (hw _ (List.mem_of_getElem? (i := 24) rfl))) (hb hby at_296) rfl ?_
        refine Run.iand (pc' := 299) X156 hx (hb hby at_298) rfl ?_
        refine Run.istore (pc' := 301) X156 hx (l' := #[.val (.int p0), .val (.int p1), .val (.int p2), .val (.int p3), .val (.ref b1), .val (.int (p3 &&& (3 : Int32))), .val (.int (p0 &&& (65535 : Int32))), .unset]) (hb hby at_299) rfl rfl ?_
        refine Run.goto (pc' := 332) X156 hx (hb hby at_301) (by decide) (by decide) ?_
        refine Run.iload (pc' := 334) X156 hx (hb hby at_332) rfl rfl ?_
        obtain ⟨T164, L164, v164, X164, Q164, st164⟩ := callStatic X156 hx (y := (⟨"com/example/traceloom/traceloom/io/xes/XmlCharacters", "isNameStart", "(I)Z"⟩ : MethodName)) (Ls := #[.val (.int p0), .val (.int p1), .val (.int p2), .val (.int p3), .val (.ref b1), .val (.int (p3 &&& (3 : Int32))), .val (.int (p0 &&& (65535 : Int32))), .unset]) (rest := []) (W := 0) (argsL := [(.int (p0 &&& (65535 : Int32)))]) hZ hown (hw _ (List.mem_of_getElem? (i := 11) rfl)) (hw _ (List.mem_of_getElem? (i := 12) rfl)) (hw _ (List.mem_of_getElem? (i := 13) rfl)) (hw _ (List.mem_of_getElem? (i := 14) rfl)) (by decide) e156 (rm1 l Z a0 hw [] (p0 &&& (65535 : Int32)) ta own_T h156 n0 Z156 q158 q159 (own_p2 p0)) (hb hby at_334) (lenOf own_pd0 rfl) (by decide) (by decide) (by rw [hml]; rfl) (Nat.le_of_eq rfl) (by decide) (by decide)
        obtain ⟨rfl, M164, e164⟩ := Q164
        have N164 := Fr.app N156 M164
        refine Run.back (g' := (mkF m 337 #[.val (.int p0), .val (.int p1), .val (.int p2), .val (.int p3), .val (.ref b1), .val (.int (p3 &&& (3 : Int32))), .val (.int (p0 &&& (65535 : Int32))), .unset] [(.int (own_F1 (p0 &&& (65535 : Int32)) own_T))])) st164 ?_
        refine Run.iload (pc' := 339) X164 hx (hb hby at_337) rfl rfl ?_
        obtain ⟨T165, L165, v165, X165, Q165, st165⟩ := callStatic X164 hx (y := (⟨"com/example/traceloom/traceloom/io/xes/XmlCharactersIsNameStartPinLaw", "ref", "(I)Z"⟩ : MethodName)) (Ls := #[.val (.int p0), .val (.int p1), .val (.int p2), .val (.int p3), .val (.ref b1), .val (.int (p3 &&& (3 : Int32))), .val (.int (p0 &&& (65535 : Int32))), .unset]) (rest := [(.int (own_F1 (p0 &&& (65535 : Int32)) own_T))]) (W := 1) (argsL := [(.int (p0 &&& (65535 : Int32)))]) hZ hown (hw _ (List.mem_of_getElem? (i := 17) rfl)) (hw _ (List.mem_of_getElem? (i := 18) rfl)) (hw _ (List.mem_of_getElem? (i := 19) rfl)) (hw _ (List.mem_of_getElem? (i := 20) rfl)) (by decide) e164 (rm3 l Z a0 hw [] (p0 &&& (65535 : Int32))  h156 n0 Z156 ) (hb hby at_339) (lenOf own_pd0 rfl) (by decide) (by decide) (by rw [hml]; rfl) (Nat.le_of_eq rfl) (by decide) (by decide)
        obtain ⟨rfl, M165, e165⟩ := Q165
        have N165 := Fr.app N164 M165
        refine Run.back (g' := (mkF m 342 #[.val (.int p0), .val (.int p1), .val (.int p2), .val (.int p3), .val (.ref b1), .val (.int (p3 &&& (3 : Int32))), .val (.int (p0 &&& (65535 : Int32))), .unset] [(.int (own_F3 (p0 &&& (65535 : Int32)))), (.int (own_F1 (p0 &&& (65535 : Int32)) own_T))])) st165 ?_
        refine Run.icmpNo (pc' := 345) X165 hx (hb hby at_342) (teq (own_law _ (own_p2 p0))).2 rfl ?_
        refine Run.iconst (pc' := 346) (v := (1 : Int32)) X165 hx (hb hby at_345) rfl rfl ?_
        refine Run.goto (pc' := 350) X165 hx (hb hby at_346) (by decide) (by decide) ?_
        exact Run.retSmall X165 hx (t := .boolean) (z' := (1 : Int32)) Bd.notSynchronized Bd.returns (by simp) rfl (hb hby at_350) ⟨rfl, N165⟩ (by decide) (by decide)
      · skip
        refine Run.icmpYes (pc' := 304) X156 hx (hb hby at_292) (feq hc292).2 (by decide) (by decide) ?_
        refine Run.aload (pc' := 306) X156 hx (hb hby at_304) rfl rfl ?_
        refine Run.iloadN (pc' := 307) X156 hx (hb hby at_306) rfl rfl ?_
        refine Run.ldcInt (pc' := 309) (v := (2147483647 : Int32)) X156 hx hown (mvT hZ (hw _ (List.mem_of_getElem? (i := 9) rfl))) (hb hby at_307) rfl ?_
        refine Run.iand (pc' := 310) X156 hx (hb hby at_309) rfl ?_
        refine Run.aload (pc' := 312) X156 hx (hb hby at_310) rfl rfl ?_
        refine Run.arraylength (pc' := 313) X156 hx hZ e156 A156 (hb hby at_312) rfl ?_
        refine Run.irem (pc' := 314) X156 hx (hb hby at_313) (by decide) rfl ?_
        refine Run.iaload (pc' := 315) X156 hx hZ e156 A156 (own_idx p1).1 (own_idx p1).2 (hb hby at_314) rfl ?_
        refine Run.istore (pc' := 317) X156 hx (l' := #[.val (.int p0), .val (.int p1), .val (.int p2), .val (.int p3), .val (.ref b1), .val (.int (p3 &&& (3 : Int32))), .unset, .val (.int (f157 ((p1 &&& (2147483647 : Int32)) % (39 : Int32))))]) (hb hby at_315) rfl rfl ?_
        refine Run.iconst (pc' := 318) (v := (0 : Int32)) X156 hx (hb hby at_317) rfl rfl ?_
        refine Run.iload (pc' := 320) X156 hx (hb hby at_318) rfl rfl ?_
        refine Run.iloadN (pc' := 321) X156 hx (hb hby at_320) rfl rfl ?_
        refine Run.bipush (pc' := 323) (v := (7 : Int32)) X156 hx (hb hby at_321) rfl rfl ?_
        refine Run.iand (pc' := 324) X156 hx (hb hby at_323) rfl ?_
        refine Run.iconst (pc' := 325) (v := (4 : Int32)) X156 hx (hb hby at_324) rfl rfl ?_
        refine Run.isub (pc' := 326) X156 hx (hb hby at_325) rfl ?_
        refine Run.iadd (pc' := 327) X156 hx (hb hby at_326) rfl ?_
        obtain ⟨T166, L166, v166, X166, Q166, st166⟩ := callStatic X156 hx (y := (⟨"java/lang/Math", "max", "(II)I"⟩ : MethodName)) (Ls := #[.val (.int p0), .val (.int p1), .val (.int p2), .val (.int p3), .val (.ref b1), .val (.int (p3 &&& (3 : Int32))), .unset, .val (.int (f157 ((p1 &&& (2147483647 : Int32)) % (39 : Int32))))]) (rest := []) (W := 0) (argsL := [(.int (0 : Int32)), (.int ((f157 ((p1 &&& (2147483647 : Int32)) % (39 : Int32))) + ((p2 &&& (7 : Int32)) - (4 : Int32))))]) hZ hown (hw _ (List.mem_of_getElem? (i := 35) rfl)) (hw _ (List.mem_of_getElem? (i := 36) rfl)) (hw _ (List.mem_of_getElem? (i := 37) rfl)) (hw _ (List.mem_of_getElem? (i := 38) rfl)) (by decide) e156 (rm5 l Z a0 hw [] (0 : Int32) ((f157 ((p1 &&& (2147483647 : Int32)) % (39 : Int32))) + ((p2 &&& (7 : Int32)) - (4 : Int32)))  h156 n0 Z156 ) (hb hby at_327) (lenOf own_pd1 rfl) (by decide) (by decide) (by rw [hml]; rfl) (Nat.le_of_eq rfl) (by decide) (by decide)
        obtain ⟨rfl, M166, e166⟩ := Q166
        have N166 := Fr.app N156 M166
        refine Run.back (g' := (mkF m 330 #[.val (.int p0), .val (.int p1), .val (.int p2), .val (.int p3), .val (.ref b1), .val (.int (p3 &&& (3 : Int32))), .unset, .val (.int (f157 ((p1 &&& (2147483647 : Int32)) % (39 : Int32))))] [(.int (own_F5 (0 : Int32) ((f157 ((p1 &&& (2147483647 : Int32)) % (39 : Int32))) + ((p2 &&& (7 : Int32)) - (4 : Int32)))))])) st166 ?_
        refine Run.istore (pc' := 332) X166 hx (l' := #[.val (.int p0), .val (.int p1), .val (.int p2), .val (.int p3), .val (.ref b1), .val (.int (p3 &&& (3 : Int32))), .val (.int (own_F5 (0 : Int32) ((f157 ((p1 &&& (2147483647 : Int32)) % (39 : Int32))) + ((p2 &&& (7 : Int32)) - (4 : Int32))))), .val (.int (f157 ((p1 &&& (2147483647 : Int32)) % (39 : Int32))))]) (hb hby at_330) rfl rfl ?_
        refine Run.iload (pc' := 334) X166 hx (hb hby at_332) rfl rfl ?_
        obtain ⟨T167, L167, v167, X167, Q167, st167⟩ := callStatic X166 hx (y := (⟨"com/example/traceloom/traceloom/io/xes/XmlCharacters", "isNameStart", "(I)Z"⟩ : MethodName)) (Ls := #[.val (.int p0), .val (.int p1), .val (.int p2), .val (.int p3), .val (.ref b1), .val (.int (p3 &&& (3 : Int32))), .val (.int (own_F5 (0 : Int32) ((f157 ((p1 &&& (2147483647 : Int32)) % (39 : Int32))) + ((p2 &&& (7 : Int32)) - (4 : Int32))))), .val (.int (f157 ((p1 &&& (2147483647 : Int32)) % (39 : Int32))))]) (rest := []) (W := 0) (argsL := [(.int (own_F5 (0 : Int32) ((f157 ((p1 &&& (2147483647 : Int32)) % (39 : Int32))) + ((p2 &&& (7 : Int32)) - (4 : Int32)))))]) hZ hown (hw _ (List.mem_of_getElem? (i := 11) rfl)) (hw _ (List.mem_of_getElem? (i := 12) rfl)) (hw _ (List.mem_of_getElem? (i := 13) rfl)) (hw _ (List.mem_of_getElem? (i := 14) rfl)) (by decide) e166 (rm1 l Z a0 hw [] (own_F5 (0 : Int32) ((f157 ((p1 &&& (2147483647 : Int32)) % (39 : Int32))) + ((p2 &&& (7 : Int32)) - (4 : Int32)))) ta own_T h156 n0 Z156 q158 q159 (own_p3 _)) (hb hby at_334) (lenOf own_pd0 rfl) (by decide) (by decide) (by rw [hml]; rfl) (Nat.le_of_eq rfl) (by decide) (by decide)
        obtain ⟨rfl, M167, e167⟩ := Q167
        have N167 := Fr.app N166 M167
        refine Run.back (g' := (mkF m 337 #[.val (.int p0), .val (.int p1), .val (.int p2), .val (.int p3), .val (.ref b1), .val (.int (p3 &&& (3 : Int32))), .val (.int (own_F5 (0 : Int32) ((f157 ((p1 &&& (2147483647 : Int32)) % (39 : Int32))) + ((p2 &&& (7 : Int32)) - (4 : Int32))))), .val (.int (f157 ((p1 &&& (2147483647 : Int32)) % (39 : Int32))))] [(.int (own_F1 (own_F5 (0 : Int32) ((f157 ((p1 &&& (2147483647 : Int32)) % (39 : Int32))) + ((p2 &&& (7 : Int32)) - (4 : Int32)))) own_T))])) st167 ?_
        refine Run.iload (pc' := 339) X167 hx (hb hby at_337) rfl rfl ?_
        obtain ⟨T168, L168, v168, X168, Q168, st168⟩ := callStatic X167 hx (y := (⟨"com/example/traceloom/traceloom/io/xes/XmlCharactersIsNameStartPinLaw", "ref", "(I)Z"⟩ : MethodName)) (Ls := #[.val (.int p0), .val (.int p1), .val (.int p2), .val (.int p3), .val (.ref b1), .val (.int (p3 &&& (3 : Int32))), .val (.int (own_F5 (0 : Int32) ((f157 ((p1 &&& (2147483647 : Int32)) % (39 : Int32))) + ((p2 &&& (7 : Int32)) - (4 : Int32))))), .val (.int (f157 ((p1 &&& (2147483647 : Int32)) % (39 : Int32))))]) (rest := [(.int (own_F1 (own_F5 (0 : Int32) ((f157 ((p1 &&& (2147483647 : Int32)) % (39 : Int32))) + ((p2 &&& (7 : Int32)) - (4 : Int32)))) own_T))]) (W := 1) (argsL := [(.int (own_F5 (0 : Int32) ((f157 ((p1 &&& (2147483647 : Int32)) % (39 : Int32))) + ((p2 &&& (7 : Int32)) - (4 : Int32)))))]) hZ hown (hw _ (List.mem_of_getElem? (i := 17) rfl)) (hw _ (List.mem_of_getElem? (i := 18) rfl)) (hw _ (List.mem_of_getElem? (i := 19) rfl)) (hw _ (List.mem_of_getElem? (i := 20) rfl)) (by decide) e167 (rm3 l Z a0 hw [] (own_F5 (0 : Int32) ((f157 ((p1 &&& (2147483647 : Int32)) % (39 : Int32))) + ((p2 &&& (7 : Int32)) - (4 : Int32))))  h156 n0 Z156 ) (hb hby at_339) (lenOf own_pd0 rfl) (by decide) (by decide) (by rw [hml]; rfl) (Nat.le_of_eq rfl) (by decide) (by decide)
        obtain ⟨rfl, M168, e168⟩ := Q168
        have N168 := Fr.app N167 M168
        refine Run.back (g' := (mkF m 342 #[.val (.int p0), .val (.int p1), .val (.int p2), .val (.int p3), .val (.ref b1), .val (.int (p3 &&& (3 : Int32))), .val (.int (own_F5 (0 : Int32) ((f157 ((p1 &&& (2147483647 : Int32)) % (39 : Int32))) + ((p2 &&& (7 : Int32)) - (4 : Int32))))), .val (.int (f157 ((p1 &&& (2147483647 : Int32)) % (39 : Int32))))] [(.int (own_F3 (own_F5 (0 : Int32) ((f157 ((p1 &&& (2147483647 : Int32)) % (39 : Int32))) + ((p2 &&& (7 : Int32)) - (4 : Int32)))))), (.int (own_F1 (own_F5 (0 : Int32) ((f157 ((p1 &&& (2147483647 : Int32)) % (39 : Int32))) + ((p2 &&& (7 : Int32)) - (4 : Int32)))) own_T))])) st168 ?_
        refine Run.icmpNo (pc' := 345) X168 hx (hb hby at_342) (teq (own_law _ (own_p3 _))).2 rfl ?_
        refine Run.iconst (pc' := 346) (v := (1 : Int32)) X168 hx (hb hby at_345) rfl rfl ?_
        refine Run.goto (pc' := 350) X168 hx (hb hby at_346) (by decide) (by decide) ?_
        exact Run.retSmall X168 hx (t := .boolean) (z' := (1 : Int32)) Bd.notSynchronized Bd.returns (by simp) rfl (hb hby at_350) ⟨rfl, N168⟩ (by decide) (by decide)
set_option maxRecDepth 65536 in
set_option maxHeartbeats 40000000 in
theorem comes_1 {Post : Tables → Env → Array Value → State → Outcome → State → Prop} (hpost : ∀ tb e args s v u, (limb_1_1.after args s (.returned v) u = true ∧ limb_1_2.after args s (.returned v) u = true ∧ True) → FrameEnd s (.returned v) u (Jvm.fieldLocs frame_1_writes args s ++ Jvm.arrayLocs frame_1_arrays args s ++ Jvm.staticLocs frame_1_statics s) 16 192 → Post tb e args s (.returned v) u) :
    ArmFor flags0 classFile x code maxLocals ret World_1 tables_1 room_1 Calls_1 rest_1 Pre_1 Post := by
  intro l hfl _ _ p e ha hc hk s m args below hf hA hF happ hP
  obtain ⟨hcalls, hrest, hpre⟩ := hP
  obtain ⟨-, -, -, hnamed, -, -, -, hat⟩ := (Spec.applies_iff hf).mp happ
  obtain ⟨hg, hn⟩ := and_e (Cond.before_iff.mp (show (Jvm.Cond.and given_1 narrow_1).before args s = true from hpre))
  obtain ⟨hcount, hg0⟩ := and_e hg
  obtain ⟨ha0, hg1⟩ := and_e hg0
  obtain ⟨ha1, hg2⟩ := and_e hg1
  obtain ⟨ha2, hg3⟩ := and_e hg2
  obtain ⟨w0, w1, w2, w3, rfl⟩ : ∃ w0 w1 w2 w3 : Value, args = #[w0, w1, w2, w3] := by
    have hs : args.size = 4 := by simpa [Cond.value, given_1] using hcount
    obtain ⟨L⟩ := args
    match L, hs with
    | [w0, w1, w2, w3], _ => exact ⟨w0, w1, w2, w3, rfl⟩
  have hw := fun d (hd : d ∈ tables_1) => atoms_spec (ws := Jvm.Cond.code x code maxLocals ret :: tables_1) hat d (List.mem_cons_of_mem _ hd)
  have hfit : Fit s := fun {y c} hc i hi => by
    obtain ⟨ha, rfl⟩ := Array.getElem?_eq_some_iff.mp hc
    have q := List.all_eq_true.mp ((Array.all_eq_true_iff_forall_mem.mp hF) _ (Array.getElem_mem ha)) i (List.mem_range.mpr hi)
    simpa [Array.getElem?_eq_getElem hi] using q
  obtain ⟨i0, ei0⟩ := is_v ha0
  obtain rfl : w0 = (.int i0) := Option.some.inj ei0
  obtain ⟨i1, ei1⟩ := is_v ha1
  obtain rfl : w1 = (.int i1) := Option.some.inj ei1
  obtain ⟨i2, ei2⟩ := is_v ha2
  obtain rfl : w2 = (.int i2) := Option.some.inj ei2
  obtain ⟨i3, ei3⟩ := is_v hg3
  obtain rfl : w3 = (.int i3) := Option.some.inj ei3
  obtain ⟨n0, nr0⟩ := and_e hn
  obtain ⟨n1, nr1⟩ := and_e nr0
  obtain ⟨n2, nr2⟩ := and_e nr1
  obtain ⟨n3, nr3⟩ := and_e nr2
  obtain ⟨n4, nr4⟩ := and_e nr3
  obtain ⟨n5, nr5⟩ := and_e nr4
  obtain ⟨n6, nr6⟩ := and_e nr5
  obtain ⟨n7, nr7⟩ := and_e nr6
  obtain ⟨n8, nr8⟩ := and_e nr7
  obtain ⟨n9, nr9⟩ := and_e nr8
  obtain ⟨n10, nr10⟩ := and_e nr9
  obtain ⟨n11, nr11⟩ := and_e nr10
  obtain ⟨n12, nr12⟩ := and_e nr11
  obtain ⟨n13, nr13⟩ := and_e nr12
  have n14 := nr13
  obtain ⟨ta, et0⟩ := arr_v n0
  have et : ∀ idx, (Jvm.Term.static "com/example/traceloom/traceloom/io/xes/XmlCharacters" "NAME_BYTES" "[B").eval #[(.int i0), (.int i1), (.int i2), (.int i3)] s none idx s = some (.ref ta) := fun idx => by rw [← et0]; rfl
  obtain ⟨cl, Ar⟩ := Arr.start et0 n0
  have F0 := tab_start hfit et0 Ar n1 (by simp) (by decide)
  have t2 := tab_le et F0 n2
  have t3 := tab_one et F0 (by decide) (by decide) n3
  have t4 := tab_one et F0 (by decide) (by decide) n4
  have t5 := tab_one et F0 (by decide) (by decide) n5
  have t6 := tab_in et F0 n6
  have t7 := tab_one et F0 (by decide) (by decide) n7
  have t8 := tab_in et F0 n8
  have t9 := tab_in et F0 n9
  have t10 := tab_in et F0 n10
  have t11 := tab_one et F0 (by decide) (by decide) n11
  have t12 := tab_one et F0 (by decide) (by decide) n12
  have t13 := tab_in et F0 n13
  have t14 := tab_ge et F0 n14
  have A_t : Ints s s.heap ta .byte 128 own_T := Ints.congr (tab_ints F0) (own_T_of (atv cl) t2 t3 t4 t5 t6 t7 t8 t9 t10 t11 t12 t13 t14)
  have S_t : Sta s s.heap "com/example/traceloom/traceloom/io/xes/XmlCharacters" "NAME_BYTES" "[B" (.ref ta) := Sta.start et0 (Or.inr ⟨(hw _ (List.mem_of_getElem? (i := 13) rfl)), (hw _ (List.mem_of_getElem? (i := 16) rfl))⟩)
  obtain ⟨n, o, h1, h2, h3, _, L, rfl, ⟨rfl, N⟩, hq⟩ := rm0 l s _ hw tables_1 i0 i1 i2 i3 ta s.heap s.heap.size (Nat.le_refl _) S_t A_t p e ha hc hk s m _ below hf ((Spec.applies_iff_loose hf).mp happ).1 ⟨rfl, State.Warmed39.refl s, rfl⟩ trivial
  refine ⟨n, _, h1, h2, h3, hpost _ _ _ _ _ _ ⟨Cond.after_iff.mpr rfl, Cond.after_iff.mpr (eq_i res_at (Term.int_eval (1)) rfl), trivial⟩ ⟨hq.1, hq.2.1, (hq.2.2.sift fun y hy => Or.inr (N y hy)).mono (by decide) (by decide)⟩⟩
theorem main_1_1 : Claimed_1_1 := comes_1 fun _ _ _ _ _ _ h hF => ⟨h.1, hF⟩
theorem main_1_2 : Claimed_1_2 := comes_1 fun _ _ _ _ _ _ h hF => ⟨h.2.1, hF⟩
end Jvm.Pilot.@@N@@
namespace Jvm.Pilot.@@N@@
open Jvm Jvm.ClassFile Sem Op Lib Jvm.Free Jvm.Stand Jvm.Pilot.@@N@@.Jvm.D
/-! MADE BY PROGRAM (witnessworld.py) out of the Statement's table words and the real class files: 10 classes; the members and pool entries that the words name. The judged class is class 1, her method 3. -/
namespace start1
open Jvm.ClassFile
def u (s : String) : CpInfo := .utf8 (stringToUtf16 s)
/-- a pool by its gaps: so many unusable entries, then the entry; so many at the end -/
def gap : Nat → List CpInfo → List CpInfo
  | 0, r => r
  | n + 1, r => .unusable :: gap n r
def poolList (es : List (Nat × CpInfo)) (last : Nat) : List CpInfo := es.foldr (fun e r => gap e.1 (e.2 :: r)) (gap last [])
def pool (es : List (Nat × CpInfo)) (last : Nat) : Array CpInfo := ⟨poolList es last⟩
def fileOf (pool : Array CpInfo) (this : Nat) (attrs : Array Attribute := #[]) (ms : Array MethodInfo := #[]) (fl : Nat := 33) (sup : Nat := 0) (ifs : Array Nat := #[]) (fds : Array FieldInfo := #[]) : ClassFile where
  minorVersion := 0
  majorVersion := 65
  constantPool := pool
  accessFlags := fl
  thisClass := this
  superClass := sup
  interfaces := ifs
  fields := fds
  methods := ms
  attributes := attrs
def plain (name : String) (sup : Option ClassId) : Class where
  name := name
  kind := .ordinary
  loader := none
  accessFlags := 33
  super := sup
  interfaces := #[]
  cf := none
  fields := #[]
  methods := #[]
  instanceTypes := #[]
  staticTypes := #[]
  resolved := #[]
  callSites := []
  init := .initialized
  statics := none
  mirror := none

def pool0 : Array CpInfo := pool [(5, u "<init>"), (0, u "()V"), (1, .class_ 10), (1, u "java/lang/Object")] 113

def k0m0 : Method := { name := "<init>", desc := "()V", sig := { parameters := [], returnType := none }, accessFlags := 1, code := none }
/-- java/lang/Object -/
def k0 : Class := { plain "java/lang/Object" none with
  accessFlags := 33
  interfaces := #[]
  cf := some (fileOf pool0 8 #[] #[{ accessFlags := 1, nameIndex := 5, descriptorIndex := 6, attributes := #[] }] 33 0 #[] #[])
  fields := #[]
  methods := #[k0m0]
  instanceTypes := #[]
  staticTypes := #[]
  resolved := Array.replicate 124 none
  statics := none }

def pool1 : Array CpInfo := pool [(2, .class_ 4), (1, u "java/lang/Object"), (0, u "<init>"), (0, u "()V"), (0, .integer 55296), (0, .integer 63743), (0, .integer 64976), (0, .integer 65007), (0, .integer 65534), (0, .integer 65535), (0, .integer 983039), (0, .methodref 15 16), (0, .class_ 17), (0, .nameAndType 18 19), (0, u "com/example/traceloom/traceloom/io/xes/XmlCharactersIsNameStartPinLaw"), (0, u "inGap"), (0, u "(I)Z"), (0, .integer 55295), (0, .integer 63744), (0, .integer 64975), (0, .integer 65008), (0, .integer 65533), (0, .integer 65536), (0, .integer 1114111), (0, .integer 2147483647), (0, .integer 1114112), (0, .methodref 30 31), (0, .class_ 32), (0, .nameAndType 33 34), (0, u "java/lang/Math"), (0, u "max"), (0, u "(II)I"), (0, .methodref 36 37), (0, .class_ 38), (0, .nameAndType 39 19), (0, u "com/example/traceloom/traceloom/io/xes/XmlCharacters"), (0, u "isNameStart"), (0, .methodref 15 41), (0, .nameAndType 42 19), (0, u "ref"), (3, u "law"), (0, u "(IIII)Z")] 4

def k1m0 : Method := { name := "<init>", desc := "()V", sig := { parameters := [], returnType := none }, accessFlags := 2, code := none }
def k1c1 : Code := { maxStack := 2, maxLocals := 1, code := method_2_code, exceptionTable := #[], attributes := #[] }
def k1m1 : Method := { name := "inGap", desc := "(I)Z", sig := { parameters := [.int], returnType := some .boolean }, accessFlags := 10, code := some k1c1 }
def k1c2 : Code := { maxStack := 2, maxLocals := 1, code := method_3_code, exceptionTable := #[], attributes := #[] }
def k1m2 : Method := { name := "ref", desc := "(I)Z", sig := { parameters := [.int], returnType := some .boolean }, accessFlags := 10, code := some k1c2 }
def k1c3 : Code := { maxStack := 4, maxLocals := 8, code := code, exceptionTable := #[], attributes := #[] }
def k1m3 : Method := { name := "law", desc := "(IIII)Z", sig := { parameters := [.int, .int, .int, .int], returnType := some .boolean }, accessFlags := 9, code := some k1c3 }
/-- com/example/traceloom/traceloom/io/xes/XmlCharactersIsNameStartPinLaw -/
def k1 : Class := { plain "com/example/traceloom/traceloom/io/xes/XmlCharactersIsNameStartPinLaw" (some 0) with
  accessFlags := 49
  interfaces := #[]
  cf := some (fileOf pool1 15 #[] #[{ accessFlags := 2, nameIndex := 5, descriptorIndex := 6, attributes := #[] }, { accessFlags := 10, nameIndex := 18, descriptorIndex := 19, attributes := #[] }, { accessFlags := 10, nameIndex := 42, descriptorIndex := 19, attributes := #[] }, { accessFlags := 9, nameIndex := 46, descriptorIndex := 47, attributes := #[] }] 49 2 #[] #[])
  fields := #[]
  methods := #[k1m0, k1m1, k1m2, k1m3]
  instanceTypes := #[]
  staticTypes := #[]
  resolved := Array.replicate 52 none
  statics := none }

def pool2 : Array CpInfo := pool [(2, .class_ 4), (1, u "java/lang/Object"), (0, u "<init>"), (0, u "()V"), (0, .integer 55295), (1, .integer 65533), (0, .integer 65536), (3, .fieldref 15 16), (0, .class_ 17), (0, .nameAndType 18 19), (0, u "com/example/traceloom/traceloom/io/xes/XmlCharacters"), (0, u "NAME_BYTES"), (0, u "[B"), (0, .integer 63744), (0, .integer 64975), (0, .integer 65008), (0, .integer 983039), (2, u "isNameStart"), (0, u "(I)Z"), (32, u "NAME"), (0, u "B"), (2, u "NAME_START")] 12

def k2m0 : Method := { name := "<init>", desc := "()V", sig := { parameters := [], returnType := none }, accessFlags := 2, code := none }
def k2c1 : Code := { maxStack := 2, maxLocals := 1, code := prog_78_method_3_code, exceptionTable := #[], attributes := #[] }
def k2m1 : Method := { name := "isNameStart", desc := "(I)Z", sig := { parameters := [.int], returnType := some .boolean }, accessFlags := 8, code := some k2c1 }
/-- com/example/traceloom/traceloom/io/xes/XmlCharacters -/
def k2 : Class := { plain "com/example/traceloom/traceloom/io/xes/XmlCharacters" (some 0) with
  accessFlags := 48
  interfaces := #[]
  cf := some (fileOf pool2 15 #[] #[{ accessFlags := 2, nameIndex := 5, descriptorIndex := 6, attributes := #[] }, { accessFlags := 8, nameIndex := 26, descriptorIndex := 27, attributes := #[] }] 48 2 #[] #[{ accessFlags := 26, nameIndex := 60, descriptorIndex := 61, attributes := #[] }, { accessFlags := 26, nameIndex := 64, descriptorIndex := 61, attributes := #[] }, { accessFlags := 26, nameIndex := 18, descriptorIndex := 19, attributes := #[] }])
  fields := #[{ name := "NAME", type := .byte, accessFlags := 26, slot := 0, constantValue := 0 }, { name := "NAME_START", type := .byte, accessFlags := 26, slot := 1, constantValue := 0 }, { name := "NAME_BYTES", type := (.array .byte), accessFlags := 26, slot := 2, constantValue := 0 }]
  methods := #[k2m0, k2m1]
  instanceTypes := #[]
  staticTypes := #[.byte, .byte, (.array .byte)]
  resolved := Array.replicate 77 none
  statics := some 0 }

def pool3 : Array CpInfo := pool [(1, .class_ 2), (0, u "java/lang/Math"), (1, .class_ 6), (1, u "java/lang/Object"), (0, u "<init>"), (0, u "()V"), (89, .class_ 100), (1, u "java/lang/Math$RandomNumberGeneratorHolder"), (71, u "negativeZeroFloatBits"), (0, u "J"), (2, u "negativeZeroDoubleBits"), (21, u "max"), (46, u "$assertionsDisabled"), (0, u "Z"), (88, u "(II)I"), (2, u "twoToTheDoubleScaleDown"), (0, u "D"), (4, u "twoToTheDoubleScaleUp"), (9, u "E"), (3, u "PI"), (2, u "TAU"), (2, u "DEGREES_TO_RADIANS"), (0, u "RADIANS_TO_DEGREES")] 94

def k3m0 : Method := { name := "<init>", desc := "()V", sig := { parameters := [], returnType := none }, accessFlags := 2, code := none }
def k3c1 : Code := { maxStack := 2, maxLocals := 2, code := jdk_29_method_65_code, exceptionTable := #[], attributes := #[] }
def k3m1 : Method := { name := "max", desc := "(II)I", sig := { parameters := [.int, .int], returnType := some .int }, accessFlags := 9, code := some k3c1 }
/-- java/lang/Math -/
def k3 : Class := { plain "java/lang/Math" (some 0) with
  accessFlags := 49
  interfaces := #[]
  cf := some (fileOf pool3 1 #[.nestMembers #[98]] #[{ accessFlags := 2, nameIndex := 7, descriptorIndex := 8, attributes := #[] }, { accessFlags := 9, nameIndex := 198, descriptorIndex := 335, attributes := #[] }] 49 4 #[] #[{ accessFlags := 25, nameIndex := 354, descriptorIndex := 339, attributes := #[] }, { accessFlags := 25, nameIndex := 358, descriptorIndex := 339, attributes := #[] }, { accessFlags := 25, nameIndex := 361, descriptorIndex := 339, attributes := #[] }, { accessFlags := 26, nameIndex := 364, descriptorIndex := 339, attributes := #[] }, { accessFlags := 26, nameIndex := 365, descriptorIndex := 339, attributes := #[] }, { accessFlags := 26, nameIndex := 172, descriptorIndex := 173, attributes := #[] }, { accessFlags := 26, nameIndex := 176, descriptorIndex := 173, attributes := #[] }, { accessFlags := 8, nameIndex := 344, descriptorIndex := 339, attributes := #[] }, { accessFlags := 8, nameIndex := 338, descriptorIndex := 339, attributes := #[] }, { accessFlags := 4120, nameIndex := 245, descriptorIndex := 246, attributes := #[] }])
  fields := #[{ name := "E", type := .double, accessFlags := 25, slot := 0, constantValue := 0 }, { name := "PI", type := .double, accessFlags := 25, slot := 1, constantValue := 0 }, { name := "TAU", type := .double, accessFlags := 25, slot := 2, constantValue := 0 }, { name := "DEGREES_TO_RADIANS", type := .double, accessFlags := 26, slot := 3, constantValue := 0 }, { name := "RADIANS_TO_DEGREES", type := .double, accessFlags := 26, slot := 4, constantValue := 0 }, { name := "negativeZeroFloatBits", type := .long, accessFlags := 26, slot := 5, constantValue := 0 }, { name := "negativeZeroDoubleBits", type := .long, accessFlags := 26, slot := 6, constantValue := 0 }, { name := "twoToTheDoubleScaleUp", type := .double, accessFlags := 8, slot := 7, constantValue := 0 }, { name := "twoToTheDoubleScaleDown", type := .double, accessFlags := 8, slot := 8, constantValue := 0 }, { name := "$assertionsDisabled", type := .boolean, accessFlags := 4120, slot := 9, constantValue := 0 }]
  methods := #[k3m0, k3m1]
  instanceTypes := #[]
  staticTypes := #[.double, .double, .double, .double, .double, .long, .long, .double, .double, .boolean]
  resolved := Array.replicate 460 none
  statics := none }

def pool4 : Array CpInfo := pool [(1, u "java/lang/Cloneable"), (0, .class_ 1), (0, u "java/lang/Object"), (0, .class_ 3)] 3

/-- java/lang/Cloneable -/
def k4 : Class := { plain "java/lang/Cloneable" (some 0) with
  accessFlags := 1537
  interfaces := #[]
  cf := some (fileOf pool4 2 #[] #[] 1537 4 #[] #[])
  fields := #[]
  methods := #[]
  instanceTypes := #[]
  staticTypes := #[]
  resolved := Array.replicate 8 none
  statics := none }

def pool5 : Array CpInfo := pool [(1, u "java/io/Serializable"), (0, .class_ 1), (0, u "java/lang/Object"), (0, .class_ 3)] 3

/-- java/io/Serializable -/
def k5 : Class := { plain "java/io/Serializable" (some 0) with
  accessFlags := 1537
  interfaces := #[]
  cf := some (fileOf pool5 2 #[] #[] 1537 4 #[] #[])
  fields := #[]
  methods := #[]
  instanceTypes := #[]
  staticTypes := #[]
  resolved := Array.replicate 8 none
  statics := none }

/-- the primitive byte -/
def k6 : Class := { plain "byte" none with kind := .primitive 'B', accessFlags := 0x411 }
/-- [B -/
def k7 : Class := { plain "[B" (some 0) with kind := .array 6 .byte, interfaces := #[4, 5], accessFlags := 1041 }

/-- the primitive int -/
def k8 : Class := { plain "int" none with kind := .primitive 'I', accessFlags := 0x411 }
/-- [I -/
def k9 : Class := { plain "[I" (some 0) with kind := .array 8 .int, interfaces := #[4, 5], accessFlags := 1041 }

def heap : Heap := #[{ cls := 2, slots := #[.int 0, .int 0, .ref 1], vm := .statics 2 },
  { cls := 7, slots := #[.int 0, .int 0, .int 0, .int 0, .int 0, .int 0, .int 0, .int 0, .int 0, .int 0, .int 0, .int 0, .int 0, .int 0, .int 0, .int 0, .int 0, .int 0, .int 0, .int 0, .int 0, .int 0, .int 0, .int 0, .int 0, .int 0, .int 0, .int 0, .int 0, .int 0, .int 0, .int 0, .int 0, .int 0, .int 0, .int 0, .int 0, .int 0, .int 0, .int 0, .int 0, .int 0, .int 0, .int 0, .int 0, .int 1, .int 1, .int 0, .int 1, .int 1, .int 1, .int 1, .int 1, .int 1, .int 1, .int 1, .int 1, .int 1, .int 3, .int 0, .int 0, .int 0, .int 0, .int 0, .int 0, .int 3, .int 3, .int 3, .int 3, .int 3, .int 3, .int 3, .int 3, .int 3, .int 3, .int 3, .int 3, .int 3, .int 3, .int 3, .int 3, .int 3, .int 3, .int 3, .int 3, .int 3, .int 3, .int 3, .int 3, .int 3, .int 3, .int 0, .int 0, .int 0, .int 0, .int 3, .int 0, .int 3, .int 3, .int 3, .int 3, .int 3, .int 3, .int 3, .int 3, .int 3, .int 3, .int 3, .int 3, .int 3, .int 3, .int 3, .int 3, .int 3, .int 3, .int 3, .int 3, .int 3, .int 3, .int 3, .int 3, .int 3, .int 3, .int 0, .int 0, .int 0, .int 0, .int 0], vm := .none }]
def classes : Array Class := #[k0, k1, k2, k3, k4, k5, k6, k7, k8, k9]
def interned : List (Array UInt16 × Addr) := []
def slotsUsed : Nat := 131
def theMethod : MethodId := ⟨1, 3⟩
def args0 : Array Value := #[.int 97, .int 3, .int 5, .int 1]
def aboutOver (below : List Frame) : State where
  vm := { classes := classes, interned := interned.toArray }
  heap := heap
  slotsUsed := slotsUsed
  threads := #[{ frames := .invoking theMethod args0 :: below }]
def below0 : List Frame := [.native { method := ⟨0, 0⟩, args := #[] }]
def about1 : State := aboutOver below0
def p0 : Program := .bare "" "" ""
def e0 : Env := launch0.env 0 0 0
theorem w_frames : about1.frames = Frame.invoking theMethod args0 :: below0 := rfl
set_option maxRecDepth 65536 in
theorem w_args : argsFit about1.vm theMethod args0 = true := by decide +kernel
set_option maxRecDepth 65536 in
theorem w_heap : heapFits about1 = true := by decide +kernel
set_option maxRecDepth 65536 in
theorem w_runnable : about1.curStatus? = some .runnable := by decide +kernel
set_option maxRecDepth 65536 in
theorem w_alone : about1.alone = true := by decide +kernel
set_option maxRecDepth 65536 in
theorem w_named : about1.methodNamed? x = some theMethod := by decide +kernel
set_option maxRecDepth 65536 in
theorem w_hears : about1.hears theMethod below0 = true := by decide +kernel
set_option maxRecDepth 65536 in
theorem w_ripe : about1.ripe theMethod args0 below0 = true := by decide +kernel
theorem w_running : about1.status = .running := rfl
set_option maxRecDepth 65536 in
theorem w_room : about1.hasRoom e0.platform room_1 = true :=
  launch0.hasRoom_least _ room_1 (by decide +kernel) (by decide +kernel) (by decide +kernel) (by decide +kernel) (by decide +kernel) (by decide +kernel)
theorem allAtoms_all (ts : List Jvm.Cond) (a : Array Jvm.Value) (st : Jvm.State) : (allAtoms ts).before a st = ts.all (fun c => c.before a st) := by
  induction ts with
  | nil => rfl
  | cons c t ih =>
    show (Jvm.Cond.and c (allAtoms t)).before a st = _
    rw [Jvm.Cond.before_and, ih, List.all_cons]
def words1 : List Jvm.Cond := Jvm.Cond.code x code maxLocals ret :: tables_1
/-- a 'code' word, met by the world's own term for the bytes: nothing is compared byte by byte -/
theorem code_word {y : MethodName} {bytes : ByteArray} {mx : Nat} {rt : Option FieldType} {a : Array Value} {s : State} {m : MethodId} {meth : Method} {c : Code} (h1 : s.methodNamed? y = some m) (h2 : s.vm.method? m = some meth) (h3 : meth.code = some c) (h4 : c.code = bytes)
    (h5 : (c.maxLocals == mx && c.exceptionTable.isEmpty && decide (c.maxStack ≤ mostOperands) && decide (meth.sig.returnType = rt) && !meth.locks && decide (parseMethodDescriptor y.desc = some meth.sig)) = true) : (Jvm.Cond.code y bytes mx rt).before a s = true := by
  simp only [Bool.and_eq_true, beq_iff_eq, Bool.not_eq_true', decide_eq_true_eq] at h5
  obtain ⟨⟨⟨⟨⟨g1, g2⟩, g3⟩, g4⟩, g5⟩, g6⟩ := h5
  simp [Cond.before, Cond.holds, Cond.value, h1, h2, h3, h4, g1, g2, g3, g4, g5, g6]
def isCode : Jvm.Cond → Bool
  | .code _ _ _ _ => true
  | _ => false
theorem all_split {L : List Jvm.Cond} {P : Jvm.Cond → Bool} (h1 : L.all (fun c => isCode c || P c) = true) (h2 : ∀ c ∈ L.filter isCode, P c = true) : L.all P = true := by
  refine List.all_eq_true.mpr fun c hc => ?_
  have h := List.all_eq_true.mp h1 c hc
  rcases Bool.eq_false_or_eq_true (isCode c) with hi | hi
  · exact h2 c (List.mem_filter.mpr ⟨hc, hi⟩)
  · simpa [hi] using h
set_option maxRecDepth 65536 in
theorem w_c0 : (Jvm.Cond.code x code maxLocals ret).before args0 about1 = true := code_word (m := ⟨1, 3⟩) (meth := k1m3) (c := k1c3) (by decide +kernel) rfl rfl rfl (by decide +kernel)
set_option maxRecDepth 65536 in
theorem w_c1 : (Jvm.Cond.code ({ cls := "com/example/traceloom/traceloom/io/xes/XmlCharacters", name := "isNameStart", desc := "(I)Z" } : Jvm.MethodName) prog_78_method_3_code (1 : Nat) (Option.some Jvm.ClassFile.FieldType.boolean)).before args0 about1 = true := code_word (m := ⟨2, 1⟩) (meth := k2m1) (c := k2c1) (by decide +kernel) rfl rfl rfl (by decide +kernel)
set_option maxRecDepth 65536 in
theorem w_c2 : (Jvm.Cond.code ({ cls := "com/example/traceloom/traceloom/io/xes/XmlCharactersIsNameStartPinLaw", name := "ref", desc := "(I)Z" } : Jvm.MethodName) method_3_code (1 : Nat) (Option.some Jvm.ClassFile.FieldType.boolean)).before args0 about1 = true := code_word (m := ⟨1, 2⟩) (meth := k1m2) (c := k1c2) (by decide +kernel) rfl rfl rfl (by decide +kernel)
set_option maxRecDepth 65536 in
theorem w_c3 : (Jvm.Cond.code ({ cls := "com/example/traceloom/traceloom/io/xes/XmlCharactersIsNameStartPinLaw", name := "inGap", desc := "(I)Z" } : Jvm.MethodName) method_2_code (1 : Nat) (Option.some Jvm.ClassFile.FieldType.boolean)).before args0 about1 = true := code_word (m := ⟨1, 1⟩) (meth := k1m1) (c := k1c1) (by decide +kernel) rfl rfl rfl (by decide +kernel)
set_option maxRecDepth 65536 in
theorem w_c4 : (Jvm.Cond.code ({ cls := "java/lang/Math", name := "max", desc := "(II)I" } : Jvm.MethodName) jdk_29_method_65_code (2 : Nat) (Option.some Jvm.ClassFile.FieldType.int)).before args0 about1 = true := code_word (m := ⟨3, 1⟩) (meth := k3m1) (c := k3c1) (by decide +kernel) rfl rfl rfl (by decide +kernel)
def codes1 : List Jvm.Cond := [Jvm.Cond.code x code maxLocals ret, Jvm.Cond.code ({ cls := "com/example/traceloom/traceloom/io/xes/XmlCharacters", name := "isNameStart", desc := "(I)Z" } : Jvm.MethodName) prog_78_method_3_code (1 : Nat) (Option.some Jvm.ClassFile.FieldType.boolean), Jvm.Cond.code ({ cls := "com/example/traceloom/traceloom/io/xes/XmlCharactersIsNameStartPinLaw", name := "ref", desc := "(I)Z" } : Jvm.MethodName) method_3_code (1 : Nat) (Option.some Jvm.ClassFile.FieldType.boolean), Jvm.Cond.code ({ cls := "com/example/traceloom/traceloom/io/xes/XmlCharactersIsNameStartPinLaw", name := "inGap", desc := "(I)Z" } : Jvm.MethodName) method_2_code (1 : Nat) (Option.some Jvm.ClassFile.FieldType.boolean), Jvm.Cond.code ({ cls := "java/lang/Math", name := "max", desc := "(II)I" } : Jvm.MethodName) jdk_29_method_65_code (2 : Nat) (Option.some Jvm.ClassFile.FieldType.int)]
set_option maxRecDepth 65536 in
theorem codes_eq : words1.filter isCode = codes1 := rfl
theorem w_codes : ∀ c ∈ words1.filter isCode, c.before args0 about1 = true := by
  rw [codes_eq]
  intro c hc
  simp only [codes1, List.mem_cons, List.not_mem_nil, or_false] at hc
  rcases hc with rfl | rfl | rfl | rfl | rfl
  · exact w_c0
  · exact w_c1
  · exact w_c2
  · exact w_c3
  · exact w_c4
set_option maxRecDepth 65536 in
theorem w_t1 : (words1.take 24).all (fun c => isCode c || c.before args0 about1) = true := by decide +kernel
set_option maxRecDepth 65536 in
theorem w_t2 : (words1.drop 24).all (fun c => isCode c || c.before args0 about1) = true := by decide +kernel
theorem w_tables : (allAtoms (Jvm.Cond.code x code maxLocals ret :: tables_1)).before args0 about1 = true := by
  rw [allAtoms_all]
  show words1.all (fun c => c.before args0 about1) = true
  refine all_split ?_ w_codes
  rw [← List.take_append_drop 24 words1, List.all_append, w_t1, w_t2]
  rfl
set_option maxRecDepth 65536 in
theorem w_case : (Jvm.Cond.and given_1 narrow_1).before args0 about1 = true := by decide +kernel
theorem w_applies : (headSpec (Jvm.Cond.code x code maxLocals ret :: tables_1) room_1).applies x e0.platform about1 = true :=
  (Spec.applies_iff w_frames).mpr ⟨w_running, w_runnable, w_alone, w_named, w_hears, w_ripe, w_room, w_tables⟩
theorem atStart : AtStart classFile x code maxLocals ret World_1 tables_1 room_1 Calls_1 rest_1 Pre_1 launch0 p0 e0 about1 theMethod args0 below0 :=
  ⟨lists_1, trivial, launch0.admits_env _ _ _, launch0.least_env, fairChoices_fair.cas, fairChoices_fair.clock, w_frames, w_args, w_heap, w_applies, trivial, trivial, w_case⟩
end start1
theorem witness_1 : WitnessClaimed_1 := ⟨start1.p0, start1.e0, start1.about1, start1.theMethod, start1.args0, start1.below0, start1.atStart⟩
end Jvm.Pilot.@@N@@
