import JvmDerived
import JvmDerived.Pilot.@@N@@Statement
import JvmDerived.Pilot.@@N@@Code
set_option linter.unusedVariables false
set_option linter.unusedSimpArgs false
namespace Jvm.OwnRun
open Sem ClassFile Op Lib Jvm.Stand Jvm.Free Jvm.LawKit Jvm.RoadKit
/-- from T with the top frame g the method's run ends as Φ says -/
def Run (tb : Tables) (e : Env) (below : List Frame) (Φ : Outcome → State → Prop) (T : State) (g : JFrame) : Prop := ∃ s₂ o, Steps tb e below (T.setTop g) s₂ ∧ s₂.status = .running ∧ Ended s₂ below o ∧ Φ o s₂
/-- what a contract asks of the end -/
def FinR (s : State) (K N : Nat) (Q : Option Value → Heap → List Loc → Prop) : Outcome → State → Prop := fun o u => ∃ v L, o = .returned v ∧ Q v u.heap L ∧ FrameEnd s o u L K N
section Steps
variable {p : Program} {l : Launch} {e : Env} {R : Room} {s : State} {m : MethodId} {args : Array Value} {below : List Frame} {meth : Method} {c : Code} {T : State} {locs : List Loc} {cells slots : Nat} {Φ : Outcome → State → Prop} {pc pc' : Nat} {Ls : Array Slot} {rest : List Value}
theorem Run.back {tb : Tables} {T' : State} {g g' : JFrame} (h : ∀ t, Steps tb e below (T'.setTop g') t → Steps tb e below (T.setTop g) t) (k : Run tb e below Φ T' g') : Run tb e below Φ T g := by
  obtain ⟨s₂, o, h1, h2⟩ := k
  exact ⟨s₂, o, h _ h1, h2⟩
theorem Run.fwd {tb : Tables} {T' : State} {g g' : JFrame} (h : Steps tb e below (T.setTop g) (T'.setTop g')) (k : Run tb e below Φ T' g') : Run tb e below Φ T g := k.back fun _ kt => h.trans kt
theorem Run.iload (X : Stand p l e R s m args below meth c T locs cells slots) (hx : p.tables.exec = Jvm.exec) {k : Nat} {v : Int32} (hd : decode c.code pc = .ok (.iload k, 2)) (hl : Ls[k]? = some (.val (.int v))) (hp : pc + 2 = pc') (k : Run p.tables e below Φ T (mkF m pc' Ls (.int v :: rest))) : Run p.tables e below Φ T (mkF m pc Ls rest) := by
  subst hp
  exact k.back fun _ kt => XS.iload X.here hx rfl hd hl kt
theorem Run.iloadN (X : Stand p l e R s m args below meth c T locs cells slots) (hx : p.tables.exec = Jvm.exec) {k : Fin 4} {v : Int32} (hd : decode c.code pc = .ok (.iload_n k, 1)) (hl : Ls[k.val]? = some (.val (.int v))) (hp : pc + 1 = pc') (k : Run p.tables e below Φ T (mkF m pc' Ls (.int v :: rest))) : Run p.tables e below Φ T (mkF m pc Ls rest) := by
  subst hp
  exact k.back fun _ kt => XS.iloadN X.here hx rfl hd hl kt
theorem Run.istore (X : Stand p l e R s m args below meth c T locs cells slots) (hx : p.tables.exec = Jvm.exec) {k : Nat} {v : Int32} {l' : Array Slot} (hd : decode c.code pc = .ok (.istore k, 2)) (hl : storeLocals Ls k (.int v) = some l') (hp : pc + 2 = pc') (k : Run p.tables e below Φ T (mkF m pc' l' rest)) : Run p.tables e below Φ T (mkF m pc Ls (.int v :: rest)) := by
  subst hp
  exact k.back fun _ kt => XS.istore X.here hx rfl hd rfl hl kt
theorem Run.istoreN (X : Stand p l e R s m args below meth c T locs cells slots) (hx : p.tables.exec = Jvm.exec) {k : Fin 4} {v : Int32} {l' : Array Slot} (hd : decode c.code pc = .ok (.istore_n k, 1)) (hl : storeLocals Ls k.val (.int v) = some l') (hp : pc + 1 = pc') (k : Run p.tables e below Φ T (mkF m pc' l' rest)) : Run p.tables e below Φ T (mkF m pc Ls (.int v :: rest)) := by
  subst hp
  exact k.back fun _ kt => XS.istoreN X.here hx rfl hd rfl hl kt
theorem Run.lload (X : Stand p l e R s m args below meth c T locs cells slots) (hx : p.tables.exec = Jvm.exec) {k : Nat} {v : Int64} (hd : decode c.code pc = .ok (.lload k, 2)) (hl : Ls[k]? = some (.val (.long v))) (hp : pc + 2 = pc') (k : Run p.tables e below Φ T (mkF m pc' Ls (.long v :: rest))) : Run p.tables e below Φ T (mkF m pc Ls rest) := by
  subst hp
  exact k.back fun _ kt => XS.lload X.here hx rfl hd hl kt
theorem Run.lloadN (X : Stand p l e R s m args below meth c T locs cells slots) (hx : p.tables.exec = Jvm.exec) {k : Fin 4} {v : Int64} (hd : decode c.code pc = .ok (.lload_n k, 1)) (hl : Ls[k.val]? = some (.val (.long v))) (hp : pc + 1 = pc') (k : Run p.tables e below Φ T (mkF m pc' Ls (.long v :: rest))) : Run p.tables e below Φ T (mkF m pc Ls rest) := by
  subst hp
  exact k.back fun _ kt => XS.lloadN X.here hx rfl hd hl kt
theorem Run.lstore (X : Stand p l e R s m args below meth c T locs cells slots) (hx : p.tables.exec = Jvm.exec) {k : Nat} {v : Int64} {l' : Array Slot} (hd : decode c.code pc = .ok (.lstore k, 2)) (hl : storeLocals Ls k (.long v) = some l') (hp : pc + 2 = pc') (k : Run p.tables e below Φ T (mkF m pc' l' rest)) : Run p.tables e below Φ T (mkF m pc Ls (.long v :: rest)) := by
  subst hp
  exact k.back fun _ kt => XS.lstore X.here hx rfl hd rfl hl kt
theorem Run.lstoreN (X : Stand p l e R s m args below meth c T locs cells slots) (hx : p.tables.exec = Jvm.exec) {k : Fin 4} {v : Int64} {l' : Array Slot} (hd : decode c.code pc = .ok (.lstore_n k, 1)) (hl : storeLocals Ls k.val (.long v) = some l') (hp : pc + 1 = pc') (k : Run p.tables e below Φ T (mkF m pc' l' rest)) : Run p.tables e below Φ T (mkF m pc Ls (.long v :: rest)) := by
  subst hp
  exact k.back fun _ kt => XS.lstoreN X.here hx rfl hd rfl hl kt
theorem Run.aload (X : Stand p l e R s m args below meth c T locs cells slots) (hx : p.tables.exec = Jvm.exec) {k : Nat} {v : Addr} (hd : decode c.code pc = .ok (.aload k, 2)) (hl : Ls[k]? = some (.val (.ref v))) (hp : pc + 2 = pc') (k : Run p.tables e below Φ T (mkF m pc' Ls (.ref v :: rest))) : Run p.tables e below Φ T (mkF m pc Ls rest) := by
  subst hp
  exact k.back fun _ kt => XS.aload X.here hx rfl hd hl rfl kt
theorem Run.aloadN (X : Stand p l e R s m args below meth c T locs cells slots) (hx : p.tables.exec = Jvm.exec) {k : Fin 4} {v : Addr} (hd : decode c.code pc = .ok (.aload_n k, 1)) (hl : Ls[k.val]? = some (.val (.ref v))) (hp : pc + 1 = pc') (k : Run p.tables e below Φ T (mkF m pc' Ls (.ref v :: rest))) : Run p.tables e below Φ T (mkF m pc Ls rest) := by
  subst hp
  exact k.back fun _ kt => XS.aloadN X.here hx rfl hd hl rfl kt
theorem Run.astore (X : Stand p l e R s m args below meth c T locs cells slots) (hx : p.tables.exec = Jvm.exec) {k : Nat} {v : Addr} {l' : Array Slot} (hd : decode c.code pc = .ok (.astore k, 2)) (hl : storeLocals Ls k (.ref v) = some l') (hp : pc + 2 = pc') (k : Run p.tables e below Φ T (mkF m pc' l' rest)) : Run p.tables e below Φ T (mkF m pc Ls (.ref v :: rest)) := by
  subst hp
  exact k.back fun _ kt => XS.astore X.here hx rfl hd rfl rfl hl kt
theorem Run.astoreN (X : Stand p l e R s m args below meth c T locs cells slots) (hx : p.tables.exec = Jvm.exec) {k : Fin 4} {v : Addr} {l' : Array Slot} (hd : decode c.code pc = .ok (.astore_n k, 1)) (hl : storeLocals Ls k.val (.ref v) = some l') (hp : pc + 1 = pc') (k : Run p.tables e below Φ T (mkF m pc' l' rest)) : Run p.tables e below Φ T (mkF m pc Ls (.ref v :: rest)) := by
  subst hp
  exact k.back fun _ kt => XS.astoreN X.here hx rfl hd rfl rfl hl kt
theorem Run.iconst (X : Stand p l e R s m args below meth c T locs cells slots) (hx : p.tables.exec = Jvm.exec) {i : Int} {v : Int32} (hd : decode c.code pc = .ok (.iconst i, 1)) (hv : Int32.ofInt i = v) (hp : pc + 1 = pc') (k : Run p.tables e below Φ T (mkF m pc' Ls (.int v :: rest))) : Run p.tables e below Φ T (mkF m pc Ls rest) := by
  subst hp
  exact k.back fun _ kt => XS.iconst X.here hx rfl hd (by rw [hv]; exact kt)
theorem Run.bipush (X : Stand p l e R s m args below meth c T locs cells slots) (hx : p.tables.exec = Jvm.exec) {i : Int} {v : Int32} (hd : decode c.code pc = .ok (.bipush i, 2)) (hv : (Int8.ofInt i).toInt32 = v) (hp : pc + 2 = pc') (k : Run p.tables e below Φ T (mkF m pc' Ls (.int v :: rest))) : Run p.tables e below Φ T (mkF m pc Ls rest) := by
  subst hp
  exact k.back fun _ kt => XS.bipush X.here hx rfl hd (by rw [hv]; exact kt)
theorem Run.sipush (X : Stand p l e R s m args below meth c T locs cells slots) (hx : p.tables.exec = Jvm.exec) {i : Int} {v : Int32} (hd : decode c.code pc = .ok (.sipush i, 3)) (hv : (Int16.ofInt i).toInt32 = v) (hp : pc + 3 = pc') (k : Run p.tables e below Φ T (mkF m pc' Ls (.int v :: rest))) : Run p.tables e below Φ T (mkF m pc Ls rest) := by
  subst hp
  exact k.back fun _ kt => XS.sipush X.here hx rfl hd (by rw [hv]; exact kt)
theorem Run.lconst (X : Stand p l e R s m args below meth c T locs cells slots) (hx : p.tables.exec = Jvm.exec) {i : Fin 2} {v : Int64} (hd : decode c.code pc = .ok (.lconst i, 1)) (hv : Int64.ofNat i = v) (hp : pc + 1 = pc') (k : Run p.tables e below Φ T (mkF m pc' Ls (.long v :: rest))) : Run p.tables e below Φ T (mkF m pc Ls rest) := by
  subst hp
  exact k.back fun _ kt => XS.lconst X.here hx rfl hd (by first | (rw [hv]; exact kt) | (rw [← hv] at kt; exact kt))
theorem Run.aconstNull (X : Stand p l e R s m args below meth c T locs cells slots) (hx : p.tables.exec = Jvm.exec) (hd : decode c.code pc = .ok (.aconst_null, 1)) (hp : pc + 1 = pc') (k : Run p.tables e below Φ T (mkF m pc' Ls (.null :: rest))) : Run p.tables e below Φ T (mkF m pc Ls rest) := by
  subst hp
  exact k.back fun _ kt => XS.aconstNull X.here hx rfl hd kt
theorem Run.iadd (X : Stand p l e R s m args below meth c T locs cells slots) (hx : p.tables.exec = Jvm.exec) {x y : Int32} (hd : decode c.code pc = .ok (.iadd, 1)) (hp : pc + 1 = pc') (k : Run p.tables e below Φ T (mkF m pc' Ls (.int (x + y) :: rest))) : Run p.tables e below Φ T (mkF m pc Ls (.int y :: .int x :: rest)) := by
  subst hp
  exact k.back fun _ kt => XS.iadd X.here hx rfl hd rfl kt
theorem Run.isub (X : Stand p l e R s m args below meth c T locs cells slots) (hx : p.tables.exec = Jvm.exec) {x y : Int32} (hd : decode c.code pc = .ok (.isub, 1)) (hp : pc + 1 = pc') (k : Run p.tables e below Φ T (mkF m pc' Ls (.int (x - y) :: rest))) : Run p.tables e below Φ T (mkF m pc Ls (.int y :: .int x :: rest)) := by
  subst hp
  exact k.back fun _ kt => XS.isub X.here hx rfl hd rfl kt
theorem Run.imul (X : Stand p l e R s m args below meth c T locs cells slots) (hx : p.tables.exec = Jvm.exec) {x y : Int32} (hd : decode c.code pc = .ok (.imul, 1)) (hp : pc + 1 = pc') (k : Run p.tables e below Φ T (mkF m pc' Ls (.int (x * y) :: rest))) : Run p.tables e below Φ T (mkF m pc Ls (.int y :: .int x :: rest)) := by
  subst hp
  exact k.back fun _ kt => XS.imul X.here hx rfl hd rfl kt
theorem Run.iand (X : Stand p l e R s m args below meth c T locs cells slots) (hx : p.tables.exec = Jvm.exec) {x y : Int32} (hd : decode c.code pc = .ok (.iand, 1)) (hp : pc + 1 = pc') (k : Run p.tables e below Φ T (mkF m pc' Ls (.int (x &&& y) :: rest))) : Run p.tables e below Φ T (mkF m pc Ls (.int y :: .int x :: rest)) := by
  subst hp
  exact k.back fun _ kt => XS.iand X.here hx rfl hd rfl kt
theorem Run.ior (X : Stand p l e R s m args below meth c T locs cells slots) (hx : p.tables.exec = Jvm.exec) {x y : Int32} (hd : decode c.code pc = .ok (.ior, 1)) (hp : pc + 1 = pc') (k : Run p.tables e below Φ T (mkF m pc' Ls (.int (x ||| y) :: rest))) : Run p.tables e below Φ T (mkF m pc Ls (.int y :: .int x :: rest)) := by
  subst hp
  exact k.back fun _ kt => XS.ior X.here hx rfl hd rfl kt
theorem Run.ixor (X : Stand p l e R s m args below meth c T locs cells slots) (hx : p.tables.exec = Jvm.exec) {x y : Int32} (hd : decode c.code pc = .ok (.ixor, 1)) (hp : pc + 1 = pc') (k : Run p.tables e below Φ T (mkF m pc' Ls (.int (x ^^^ y) :: rest))) : Run p.tables e below Φ T (mkF m pc Ls (.int y :: .int x :: rest)) := by
  subst hp
  exact k.back fun _ kt => XS.ixor X.here hx rfl hd rfl kt
theorem Run.idiv (X : Stand p l e R s m args below meth c T locs cells slots) (hx : p.tables.exec = Jvm.exec) {x y : Int32} (hd : decode c.code pc = .ok (.idiv, 1)) (hy : y ≠ 0) (hp : pc + 1 = pc') (k : Run p.tables e below Φ T (mkF m pc' Ls (.int (x / y) :: rest))) : Run p.tables e below Φ T (mkF m pc Ls (.int y :: .int x :: rest)) := by
  subst hp
  exact k.back fun _ kt => XS.idiv X.here hx rfl hd rfl hy kt
theorem Run.ladd (X : Stand p l e R s m args below meth c T locs cells slots) (hx : p.tables.exec = Jvm.exec) {x y : Int64} (hd : decode c.code pc = .ok (.ladd, 1)) (hp : pc + 1 = pc') (k : Run p.tables e below Φ T (mkF m pc' Ls (.long (x + y) :: rest))) : Run p.tables e below Φ T (mkF m pc Ls (.long y :: .long x :: rest)) := by
  subst hp
  exact k.back fun _ kt => XS.ladd X.here hx rfl hd rfl kt
theorem Run.lsub (X : Stand p l e R s m args below meth c T locs cells slots) (hx : p.tables.exec = Jvm.exec) {x y : Int64} (hd : decode c.code pc = .ok (.lsub, 1)) (hp : pc + 1 = pc') (k : Run p.tables e below Φ T (mkF m pc' Ls (.long (x - y) :: rest))) : Run p.tables e below Φ T (mkF m pc Ls (.long y :: .long x :: rest)) := by
  subst hp
  exact k.back fun _ kt => XS.lsub X.here hx rfl hd rfl kt
theorem Run.lmul (X : Stand p l e R s m args below meth c T locs cells slots) (hx : p.tables.exec = Jvm.exec) {x y : Int64} (hd : decode c.code pc = .ok (.lmul, 1)) (hp : pc + 1 = pc') (k : Run p.tables e below Φ T (mkF m pc' Ls (.long (x * y) :: rest))) : Run p.tables e below Φ T (mkF m pc Ls (.long y :: .long x :: rest)) := by
  subst hp
  exact k.back fun _ kt => XS.lmul X.here hx rfl hd rfl kt
theorem Run.land (X : Stand p l e R s m args below meth c T locs cells slots) (hx : p.tables.exec = Jvm.exec) {x y : Int64} (hd : decode c.code pc = .ok (.land, 1)) (hp : pc + 1 = pc') (k : Run p.tables e below Φ T (mkF m pc' Ls (.long (x &&& y) :: rest))) : Run p.tables e below Φ T (mkF m pc Ls (.long y :: .long x :: rest)) := by
  subst hp
  exact k.back fun _ kt => XS.land X.here hx rfl hd rfl kt
theorem Run.lor (X : Stand p l e R s m args below meth c T locs cells slots) (hx : p.tables.exec = Jvm.exec) {x y : Int64} (hd : decode c.code pc = .ok (.lor, 1)) (hp : pc + 1 = pc') (k : Run p.tables e below Φ T (mkF m pc' Ls (.long (x ||| y) :: rest))) : Run p.tables e below Φ T (mkF m pc Ls (.long y :: .long x :: rest)) := by
  subst hp
  exact k.back fun _ kt => XS.lor X.here hx rfl hd rfl kt
theorem Run.lxor (X : Stand p l e R s m args below meth c T locs cells slots) (hx : p.tables.exec = Jvm.exec) {x y : Int64} (hd : decode c.code pc = .ok (.lxor, 1)) (hp : pc + 1 = pc') (k : Run p.tables e below Φ T (mkF m pc' Ls (.long (x ^^^ y) :: rest))) : Run p.tables e below Φ T (mkF m pc Ls (.long y :: .long x :: rest)) := by
  subst hp
  exact k.back fun _ kt => XS.lxor X.here hx rfl hd rfl kt
theorem Run.ldiv (X : Stand p l e R s m args below meth c T locs cells slots) (hx : p.tables.exec = Jvm.exec) {x y : Int64} (hd : decode c.code pc = .ok (.ldiv, 1)) (hy : y ≠ 0) (hp : pc + 1 = pc') (k : Run p.tables e below Φ T (mkF m pc' Ls (.long (x / y) :: rest))) : Run p.tables e below Φ T (mkF m pc Ls (.long y :: .long x :: rest)) := by
  subst hp
  exact k.back fun _ kt => XS.ldiv X.here hx rfl hd rfl hy kt
theorem Run.irem (X : Stand p l e R s m args below meth c T locs cells slots) (hx : p.tables.exec = Jvm.exec) {x y : Int32} (hd : decode c.code pc = .ok (.irem, 1)) (hy : y ≠ 0) (hp : pc + 1 = pc') (k : Run p.tables e below Φ T (mkF m pc' Ls (.int (x % y) :: rest))) : Run p.tables e below Φ T (mkF m pc Ls (.int y :: .int x :: rest)) := by
  subst hp
  exact k.back fun _ kt => iremM X hx rfl hd rfl hy kt
theorem Run.ishl (X : Stand p l e R s m args below meth c T locs cells slots) (hx : p.tables.exec = Jvm.exec) {x : Int32} {y : Int32} (hd : decode c.code pc = .ok (.ishl, 1)) (hp : pc + 1 = pc') (k : Run p.tables e below Φ T (mkF m pc' Ls (.int (x <<< (y &&& 31)) :: rest))) : Run p.tables e below Φ T (mkF m pc Ls (.int y :: .int x :: rest)) := by
  subst hp
  exact k.back fun _ kt => XS.ishl X.here hx rfl hd rfl kt
theorem Run.ishr (X : Stand p l e R s m args below meth c T locs cells slots) (hx : p.tables.exec = Jvm.exec) {x : Int32} {y : Int32} (hd : decode c.code pc = .ok (.ishr, 1)) (hp : pc + 1 = pc') (k : Run p.tables e below Φ T (mkF m pc' Ls (.int (x >>> (y &&& 31)) :: rest))) : Run p.tables e below Φ T (mkF m pc Ls (.int y :: .int x :: rest)) := by
  subst hp
  exact k.back fun _ kt => XS.ishr X.here hx rfl hd rfl kt
theorem Run.iushr (X : Stand p l e R s m args below meth c T locs cells slots) (hx : p.tables.exec = Jvm.exec) {x : Int32} {y : Int32} (hd : decode c.code pc = .ok (.iushr, 1)) (hp : pc + 1 = pc') (k : Run p.tables e below Φ T (mkF m pc' Ls (.int ((x.toUInt32 >>> (y &&& 31).toUInt32).toInt32) :: rest))) : Run p.tables e below Φ T (mkF m pc Ls (.int y :: .int x :: rest)) := by
  subst hp
  exact k.back fun _ kt => XS.iushr X.here hx rfl hd rfl kt
theorem Run.lshl (X : Stand p l e R s m args below meth c T locs cells slots) (hx : p.tables.exec = Jvm.exec) {x : Int64} {y : Int32} (hd : decode c.code pc = .ok (.lshl, 1)) (hp : pc + 1 = pc') (k : Run p.tables e below Φ T (mkF m pc' Ls (.long (x <<< (y &&& 0x3f).toInt64) :: rest))) : Run p.tables e below Φ T (mkF m pc Ls (.int y :: .long x :: rest)) := by
  subst hp
  exact k.back fun _ kt => XS.lshl X.here hx rfl hd rfl kt
theorem Run.lshr (X : Stand p l e R s m args below meth c T locs cells slots) (hx : p.tables.exec = Jvm.exec) {x : Int64} {y : Int32} (hd : decode c.code pc = .ok (.lshr, 1)) (hp : pc + 1 = pc') (k : Run p.tables e below Φ T (mkF m pc' Ls (.long (x >>> (y &&& 0x3f).toInt64) :: rest))) : Run p.tables e below Φ T (mkF m pc Ls (.int y :: .long x :: rest)) := by
  subst hp
  exact k.back fun _ kt => XS.lshr X.here hx rfl hd rfl kt
theorem Run.lushr (X : Stand p l e R s m args below meth c T locs cells slots) (hx : p.tables.exec = Jvm.exec) {x : Int64} {y : Int32} (hd : decode c.code pc = .ok (.lushr, 1)) (hp : pc + 1 = pc') (k : Run p.tables e below Φ T (mkF m pc' Ls (.long ((x.toUInt64 >>> (y &&& 0x3f).toInt64.toUInt64).toInt64) :: rest))) : Run p.tables e below Φ T (mkF m pc Ls (.int y :: .long x :: rest)) := by
  subst hp
  exact k.back fun _ kt => XS.lushr X.here hx rfl hd rfl kt
theorem Run.i2l (X : Stand p l e R s m args below meth c T locs cells slots) (hx : p.tables.exec = Jvm.exec) {x : Int32} (hd : decode c.code pc = .ok (.i2l, 1)) (hp : pc + 1 = pc') (k : Run p.tables e below Φ T (mkF m pc' Ls (.long (x.toInt64) :: rest))) : Run p.tables e below Φ T (mkF m pc Ls (.int x :: rest)) := by
  subst hp
  exact k.back fun _ kt => XS.i2l X.here hx rfl hd rfl kt
theorem Run.l2i (X : Stand p l e R s m args below meth c T locs cells slots) (hx : p.tables.exec = Jvm.exec) {x : Int64} (hd : decode c.code pc = .ok (.l2i, 1)) (hp : pc + 1 = pc') (k : Run p.tables e below Φ T (mkF m pc' Ls (.int (x.toInt32) :: rest))) : Run p.tables e below Φ T (mkF m pc Ls (.long x :: rest)) := by
  subst hp
  exact k.back fun _ kt => XS.l2i X.here hx rfl hd rfl kt
theorem Run.i2b (X : Stand p l e R s m args below meth c T locs cells slots) (hx : p.tables.exec = Jvm.exec) {x : Int32} (hd : decode c.code pc = .ok (.i2b, 1)) (hp : pc + 1 = pc') (k : Run p.tables e below Φ T (mkF m pc' Ls (.int (x.toInt8.toInt32) :: rest))) : Run p.tables e below Φ T (mkF m pc Ls (.int x :: rest)) := by
  subst hp
  exact k.back fun _ kt => XS.i2b X.here hx rfl hd rfl kt
theorem Run.i2s (X : Stand p l e R s m args below meth c T locs cells slots) (hx : p.tables.exec = Jvm.exec) {x : Int32} (hd : decode c.code pc = .ok (.i2s, 1)) (hp : pc + 1 = pc') (k : Run p.tables e below Φ T (mkF m pc' Ls (.int (x.toInt16.toInt32) :: rest))) : Run p.tables e below Φ T (mkF m pc Ls (.int x :: rest)) := by
  subst hp
  exact k.back fun _ kt => XS.i2s X.here hx rfl hd rfl kt
theorem Run.i2c (X : Stand p l e R s m args below meth c T locs cells slots) (hx : p.tables.exec = Jvm.exec) {x : Int32} (hd : decode c.code pc = .ok (.i2c, 1)) (hp : pc + 1 = pc') (k : Run p.tables e below Φ T (mkF m pc' Ls (.int (x.toUInt32.toUInt16.toUInt32.toInt32) :: rest))) : Run p.tables e below Φ T (mkF m pc Ls (.int x :: rest)) := by
  subst hp
  exact k.back fun _ kt => XS.i2c X.here hx rfl hd rfl kt
theorem Run.ineg (X : Stand p l e R s m args below meth c T locs cells slots) (hx : p.tables.exec = Jvm.exec) {x : Int32} (hd : decode c.code pc = .ok (.ineg, 1)) (hp : pc + 1 = pc') (k : Run p.tables e below Φ T (mkF m pc' Ls (.int (-x) :: rest))) : Run p.tables e below Φ T (mkF m pc Ls (.int x :: rest)) := by
  subst hp
  exact k.back fun _ kt => XS.ineg X.here hx rfl hd rfl kt
theorem Run.lcmp (X : Stand p l e R s m args below meth c T locs cells slots) (hx : p.tables.exec = Jvm.exec) {x y : Int64} (hd : decode c.code pc = .ok (.lcmp, 1)) (hp : pc + 1 = pc') (k : Run p.tables e below Φ T (mkF m pc' Ls (.int (lcmpW x y) :: rest))) : Run p.tables e below Φ T (mkF m pc Ls (.long y :: .long x :: rest)) := by
  subst hp
  exact k.back fun _ kt => XS.lcmp X.here hx rfl hd rfl kt
theorem Run.dup (X : Stand p l e R s m args below meth c T locs cells slots) (hx : p.tables.exec = Jvm.exec) {x : Value} (hd : decode c.code pc = .ok (.dup, 1)) (hc : x.category = 1) (hp : pc + 1 = pc') (k : Run p.tables e below Φ T (mkF m pc' Ls (x :: x :: rest))) : Run p.tables e below Φ T (mkF m pc Ls (x :: rest)) := by
  subst hp
  exact k.back fun _ kt => XS.dup X.here hx rfl hd rfl hc kt
theorem Run.dupX1 (X : Stand p l e R s m args below meth c T locs cells slots) (hx : p.tables.exec = Jvm.exec) {x y : Value} (hd : decode c.code pc = .ok (.dup_x1, 1)) (hc : x.category = 1) (hc2 : y.category = 1) (hp : pc + 1 = pc') (k : Run p.tables e below Φ T (mkF m pc' Ls (x :: y :: x :: rest))) : Run p.tables e below Φ T (mkF m pc Ls (x :: y :: rest)) := by
  subst hp
  exact k.back fun _ kt => XS.dupX1 X.here hx rfl hd rfl hc hc2 kt
theorem Run.pop (X : Stand p l e R s m args below meth c T locs cells slots) (hx : p.tables.exec = Jvm.exec) {x : Value} (hd : decode c.code pc = .ok (.pop, 1)) (hc : x.category = 1) (hp : pc + 1 = pc') (k : Run p.tables e below Φ T (mkF m pc' Ls rest)) : Run p.tables e below Φ T (mkF m pc Ls (x :: rest)) := by
  subst hp
  exact k.back fun _ kt => XS.pop X.here hx rfl hd rfl hc kt
theorem Run.iinc (X : Stand p l e R s m args below meth c T locs cells slots) (hx : p.tables.exec = Jvm.exec) {n : Nat} {i : Int} {v w : Int32} {l' : Array Slot} (hd : decode c.code pc = .ok (.iinc n i, 3)) (hl : Ls[n]? = some (.val (.int v))) (hv : Int32.ofInt i = w) (hl' : storeLocals Ls n (.int (v + w)) = some l') (hp : pc + 3 = pc') (k : Run p.tables e below Φ T (mkF m pc' l' rest)) : Run p.tables e below Φ T (mkF m pc Ls rest) := by
  subst hp
  exact k.back fun _ kt => XS.iinc X.here hx rfl hd hl (by rw [hv]; exact hl') kt
theorem Run.goto (X : Stand p l e R s m args below meth c T locs cells slots) (hx : p.tables.exec = Jvm.exec) {o : Int} (hd : decode c.code pc = .ok (.goto o, 3)) (ho : 0 ≤ (pc : Int) + o) (hp : ((pc : Int) + o).toNat = pc') (k : Run p.tables e below Φ T (mkF m pc' Ls rest)) : Run p.tables e below Φ T (mkF m pc Ls rest) := k.back fun _ kt => XS.goto X.here hx rfl rfl hd ho hp kt
theorem Run.ifYes (X : Stand p l e R s m args below meth c T locs cells slots) (hx : p.tables.exec = Jvm.exec) {cd : ClassFile.Cond} {o : Int} {x : Int32} (hd : decode c.code pc = .ok (.ifCond cd o, 3)) (hc : ifCond.holds cd x = true) (ho : 0 ≤ (pc : Int) + o) (hp : ((pc : Int) + o).toNat = pc') (k : Run p.tables e below Φ T (mkF m pc' Ls rest)) : Run p.tables e below Φ T (mkF m pc Ls (.int x :: rest)) := k.back fun _ kt => XS.ifYes X.here hx rfl rfl hd rfl hc ho hp kt
theorem Run.ifNo (X : Stand p l e R s m args below meth c T locs cells slots) (hx : p.tables.exec = Jvm.exec) {cd : ClassFile.Cond} {o : Int} {x : Int32} (hd : decode c.code pc = .ok (.ifCond cd o, 3)) (hc : ifCond.holds cd x = false) (hp : pc + 3 = pc') (k : Run p.tables e below Φ T (mkF m pc' Ls rest)) : Run p.tables e below Φ T (mkF m pc Ls (.int x :: rest)) := by
  subst hp
  exact k.back fun _ kt => XS.ifNo X.here hx rfl hd rfl hc kt
theorem Run.icmpYes (X : Stand p l e R s m args below meth c T locs cells slots) (hx : p.tables.exec = Jvm.exec) {cd : ClassFile.Cond} {o : Int} {x y : Int32} (hd : decode c.code pc = .ok (.if_icmp cd o, 3)) (hc : if_icmp.holds cd x y = true) (ho : 0 ≤ (pc : Int) + o) (hp : ((pc : Int) + o).toNat = pc') (k : Run p.tables e below Φ T (mkF m pc' Ls rest)) : Run p.tables e below Φ T (mkF m pc Ls (.int y :: .int x :: rest)) := k.back fun _ kt => XS.icmpYes X.here hx rfl rfl hd rfl hc ho hp kt
theorem Run.icmpNo (X : Stand p l e R s m args below meth c T locs cells slots) (hx : p.tables.exec = Jvm.exec) {cd : ClassFile.Cond} {o : Int} {x y : Int32} (hd : decode c.code pc = .ok (.if_icmp cd o, 3)) (hc : if_icmp.holds cd x y = false) (hp : pc + 3 = pc') (k : Run p.tables e below Φ T (mkF m pc' Ls rest)) : Run p.tables e below Φ T (mkF m pc Ls (.int y :: .int x :: rest)) := by
  subst hp
  exact k.back fun _ kt => XS.icmpNo X.here hx rfl hd rfl hc kt
theorem Run.acmpYes (X : Stand p l e R s m args below meth c T locs cells slots) (hx : p.tables.exec = Jvm.exec) {cd : ACond} {o : Int} {a b : Addr} (hd : decode c.code pc = .ok (.if_acmp cd o, 3)) (hc : if_acmp.holds cd (some a) (some b) = true) (ho : 0 ≤ (pc : Int) + o) (hp : ((pc : Int) + o).toNat = pc') (k : Run p.tables e below Φ T (mkF m pc' Ls rest)) : Run p.tables e below Φ T (mkF m pc Ls (.ref b :: .ref a :: rest)) := k.back fun _ kt => XS.acmpYes X.here hx rfl rfl hd rfl hc ho hp kt
theorem Run.acmpNo (X : Stand p l e R s m args below meth c T locs cells slots) (hx : p.tables.exec = Jvm.exec) {cd : ACond} {o : Int} {a b : Addr} (hd : decode c.code pc = .ok (.if_acmp cd o, 3)) (hc : if_acmp.holds cd (some a) (some b) = false) (hp : pc + 3 = pc') (k : Run p.tables e below Φ T (mkF m pc' Ls rest)) : Run p.tables e below Φ T (mkF m pc Ls (.ref b :: .ref a :: rest)) := by
  subst hp
  exact k.back fun _ kt => XS.acmpNo X.here hx rfl hd rfl hc kt
theorem own_acmpEqT {a b : Addr} (h : a = b) : if_acmp.holds .eq (some a) (some b) = true := by subst h; simp [if_acmp.holds]
theorem own_acmpEqF {a b : Addr} (h : ¬ a = b) : if_acmp.holds .eq (some a) (some b) = false := by simp [if_acmp.holds, h]
theorem own_acmpNeT {a b : Addr} (h : a = b) : if_acmp.holds .ne (some a) (some b) = false := by subst h; simp [if_acmp.holds]
theorem own_acmpNeF {a b : Addr} (h : ¬ a = b) : if_acmp.holds .ne (some a) (some b) = true := by simp [if_acmp.holds, h]
theorem Run.ldcInt (X : Stand p l e R s m args below meth c T locs cells slots) (hx : p.tables.exec = Jvm.exec) {own : String} {index : Nat} {v : Int32} (hown : s.vm.findClass own = some m.cls) (hconst : (Cond.constant own index v).before args s = true) (hd : decode c.code pc = .ok (.ldc index, 2)) (hp : pc + 2 = pc') (k : Run p.tables e below Φ T (mkF m pc' Ls (.int v :: rest))) : Run p.tables e below Φ T (mkF m pc Ls rest) := by
  subst hp
  exact k.back fun _ kt => X.ldcInt hx hown hconst (g := mkF m pc Ls rest) rfl hd _ kt
theorem Run.ldc2Long (X : Stand p l e R s m args below meth c T locs cells slots) (hx : p.tables.exec = Jvm.exec) {own : String} {index : Nat} {v : Int64} (hown : s.vm.findClass own = some m.cls) (hconst : (Cond.constantLong own index v).before args s = true) (hd : decode c.code pc = .ok (.ldc2_w index, 3)) (hp : pc + 3 = pc') (k : Run p.tables e below Φ T (mkF m pc' Ls (.long v :: rest))) : Run p.tables e below Φ T (mkF m pc Ls rest) := by
  subst hp
  exact k.back fun _ kt => X.ldc2Long hx hown hconst (g := mkF m pc Ls rest) rfl hd _ kt
theorem Run.switchHit (X : Stand p l e R s m args below meth c T locs cells slots) (hx : p.tables.exec = Jvm.exec) {default : Int} {pairs : Array (Int × Int)} {len : Nat} {a off : Int} {z : Int32} (hd : decode c.code pc = .ok (.lookupswitch default pairs, len)) (hs : (pairs.toList.zip (pairs.toList.drop 1)).all (fun (a, next) => a.1 < next.1) = true) (hf : pairs.find? (·.1 == z.toInt) = some (a, off)) (ho : 0 ≤ (pc : Int) + off) (hp : ((pc : Int) + off).toNat = pc') (k : Run p.tables e below Φ T (mkF m pc' Ls rest)) : Run p.tables e below Φ T (mkF m pc Ls (.int z :: rest)) := by
  subst hp
  exact k.back fun _ kt => X.lookupswitchHit hx (g := mkF m pc Ls (.int z :: rest)) rfl rfl hd hs hf ho _ kt
theorem Run.switchMiss (X : Stand p l e R s m args below meth c T locs cells slots) (hx : p.tables.exec = Jvm.exec) {default : Int} {pairs : Array (Int × Int)} {len : Nat} {z : Int32} (hd : decode c.code pc = .ok (.lookupswitch default pairs, len)) (hs : (pairs.toList.zip (pairs.toList.drop 1)).all (fun (a, next) => a.1 < next.1) = true) (hf : pairs.find? (·.1 == z.toInt) = none) (ho : 0 ≤ (pc : Int) + default) (hp : ((pc : Int) + default).toNat = pc') (k : Run p.tables e below Φ T (mkF m pc' Ls rest)) : Run p.tables e below Φ T (mkF m pc Ls (.int z :: rest)) := by
  subst hp
  exact k.back fun _ kt => X.lookupswitchMiss hx (g := mkF m pc Ls (.int z :: rest)) rfl rfl hd hs hf ho _ kt
/-- a body that writes nothing returns r -/
abbrev QPure (n0 : Nat) (h0 : Heap) (r : Value) : Option Value → Heap → List Loc → Prop := fun v h L => v = some r ∧ Fr n0 L ∧ h = h0
theorem Run.retInt (X : Stand p l e R s m args below meth c T locs cells slots) (hx : p.tables.exec = Jvm.exec) {K N : Nat} {Q : Option Value → Heap → List Loc → Prop} {z : Int32} (hlk : meth.locks = false) (hret : meth.sig.returnType = some .int) (hd : decode c.code pc = .ok (.ireturn, 1)) (hQ : Q (some (.int z)) T.heap locs) (hc : cells ≤ K) (hn : slots ≤ N) : Run p.tables e below (FinR s K N Q) T (mkF m pc Ls (.int z :: rest)) := by
  obtain ⟨fs, hr, hrun, hended, hW, hsame⟩ := X.leave (v := (some (.int z))) (fun h => by rw [hret] at h; cases h) hlk
  exact ⟨_, _, retOut X hx hret rfl (Or.inl ⟨rfl, Or.inl rfl, z, rfl⟩) hd hr, hrun, hended, _, _, rfl, hQ, ⟨_, rfl⟩, hW, hsame.mono hc hn⟩
theorem Run.retLong (X : Stand p l e R s m args below meth c T locs cells slots) (hx : p.tables.exec = Jvm.exec) {K N : Nat} {Q : Option Value → Heap → List Loc → Prop} {z : Int64} (hlk : meth.locks = false) (hret : meth.sig.returnType = some .long) (hd : decode c.code pc = .ok (.lreturn, 1)) (hQ : Q (some (.long z)) T.heap locs) (hc : cells ≤ K) (hn : slots ≤ N) : Run p.tables e below (FinR s K N Q) T (mkF m pc Ls (.long z :: rest)) := by
  obtain ⟨fs, hr, hrun, hended, hW, hsame⟩ := X.leave (v := (some (.long z))) (fun h => by rw [hret] at h; cases h) hlk
  exact ⟨_, _, retOut X hx hret rfl (Or.inr (Or.inl ⟨rfl, rfl, z, rfl⟩)) hd hr, hrun, hended, _, _, rfl, hQ, ⟨_, rfl⟩, hW, hsame.mono hc hn⟩
theorem Run.retRef (X : Stand p l e R s m args below meth c T locs cells slots) (hx : p.tables.exec = Jvm.exec) {K N : Nat} {Q : Option Value → Heap → List Loc → Prop} {z : Addr} {t : FieldType} (hlk : meth.locks = false) (hret : meth.sig.returnType = some t) (ht : t.isReference = true) (hnr : narrow t (.ref z) = .ref z) (hd : decode c.code pc = .ok (.areturn, 1)) (hQ : Q (some (.ref z)) T.heap locs) (hc : cells ≤ K) (hn : slots ≤ N) : Run p.tables e below (FinR s K N Q) T (mkF m pc Ls (.ref z :: rest)) := by
  obtain ⟨fs, hr, hrun, hended, hW, hsame⟩ := X.leave (v := (some (.ref z))) (fun h => by rw [hret] at h; cases h) hlk
  exact ⟨_, _, retOut X hx hret hnr (Or.inr (Or.inr (Or.inr (Or.inr ⟨rfl, ht, rfl⟩)))) hd hr, hrun, hended, _, _, rfl, hQ, ⟨_, rfl⟩, hW, hsame.mono hc hn⟩
theorem Run.retSmall (X : Stand p l e R s m args below meth c T locs cells slots) (hx : p.tables.exec = Jvm.exec) {K N : Nat} {Q : Option Value → Heap → List Loc → Prop} {z z' : Int32} {t : FieldType} (hlk : meth.locks = false) (hret : meth.sig.returnType = some t) (ht : t = .boolean ∨ t = .byte ∨ t = .char ∨ t = .short) (hz : nar t z = z') (hd : decode c.code pc = .ok (.ireturn, 1)) (hQ : Q (some (.int z')) T.heap locs) (hc : cells ≤ K) (hn : slots ≤ N) : Run p.tables e below (FinR s K N Q) T (mkF m pc Ls (.int z :: rest)) := by
  obtain ⟨fs, hr, hrun, hended, hW, hsame⟩ := X.leave (v := (some (.int z'))) (fun h => by rw [hret] at h; cases h) hlk
  exact ⟨_, _, RoadKit.retN X hx hret ht hd (by rw [hz]; exact hr), hrun, hended, _, _, rfl, hQ, ⟨_, rfl⟩, hW, hsame.mono hc hn⟩
theorem Run.retVoid (X : Stand p l e R s m args below meth c T locs cells slots) (hx : p.tables.exec = Jvm.exec) {K N : Nat} {Q : Option Value → Heap → List Loc → Prop} (hlk : meth.locks = false) (hret : meth.sig.returnType = none) (hd : decode c.code pc = .ok (.return_, 1)) (hQ : Q none T.heap locs) (hc : cells ≤ K) (hn : slots ≤ N) : Run p.tables e below (FinR s K N Q) T (mkF m pc Ls []) := by
  obtain ⟨fs, hr, hrun, hended, hW, hsame⟩ := X.leave (v := none) (fun _ => rfl) hlk
  exact ⟨_, _, X.returnOut hx hret hd hr, hrun, hended, _, _, rfl, hQ, ⟨_, rfl⟩, hW, hsame.mono hc hn⟩
theorem callStatic (X : Stand p l e R s m args below meth c T locs cells slots) (hx : p.tables.exec = Jvm.exec) {a0 : Array Value} {Z : State} {h : Heap} {own : String} {index : Nat} {bytes : ByteArray} {maxL : Nat} {ret : Option FieldType} {rm : Room} {W : Nat} {Qc : Option Value → Heap → List Loc → Prop} {y : MethodName} {argsL : List Value} (hZ : Z.Warmed39 s.vm) (hown : s.vm.findClass own = some m.cls) (w1 : (Cond.methodLink own index y).before a0 Z = true) (w2 : (Cond.static y).before a0 Z = true) (w3 : (Cond.initialized y.cls).before a0 Z = true) (w4 : (Cond.code y bytes maxL ret).before a0 Z = true) (hy : y.cls ≠ "java/lang/invoke/MethodHandle" ∧ y.cls ≠ "java/lang/invoke/VarHandle") (eT : T.heap = h) (hM : MetFree l y (head1 [Cond.code y bytes maxL ret] rm) (fun av U => av = argsL.toArray ∧ Z.Warmed39 U.vm ∧ U.heap = h) (fun _ _ _ _ _ => True) (fun _ U o U' => ∃ v L, o = .returned v ∧ Qc v U'.heap L ∧ FrameEnd U o U' L rm.cells rm.slots)) (hd : decode c.code pc = .ok (.invokestatic index, 3)) (hlen : ∀ sig, parseMethodDescriptor y.desc = some sig → argsL.length = sig.parameters.length) (hf : rm.frames + 1 ≤ R.frames) (hl : W + (maxL + 11) + rm.locals ≤ R.locals) (hsize : Ls.size = c.maxLocals) (hW : (rest.map fun v => v.category).sum ≤ W) (hcs : cells + rm.cells ≤ R.cells) (hss : slots + rm.slots ≤ R.slots) :
    ∃ (T' : State) (L : List Loc) (v : Option Value), Stand p l e R s m args below meth c T' (locs ++ L) (cells + rm.cells) (slots + rm.slots) ∧ Qc v T'.heap L ∧ ∀ t, Steps p.tables e below (T'.setTop (mkF m (pc + 3) Ls (v.toList ++ rest))) t → Steps p.tables e below (T.setTop (mkF m pc Ls (argsL.reverse ++ rest))) t := by
  obtain ⟨v, vm, ⟨T', L', k', n'⟩, -, X', ⟨L, hQ, l1, l2, l3⟩, st⟩ := Jvm.LawKit.callS X hx (y := y) hown (mvT hZ w1) (mvT hZ w2) (mvT hZ w3) (mvT hZ w4) hy (backOf (W := W) hM hZ w4 w3 hf hl) (g := mkF m pc Ls (argsL.reverse ++ rest)) rfl hsize (argsL := argsL) (rest := rest) hlen rfl (by show 2 * 0 + _ ≤ _; omega) hd (fun _ _ => ⟨rfl, eT, hcs, hss⟩)
  dsimp only [Pt.U, Pt.locs, Pt.cells, Pt.slots] at X' hQ l1 l2 l3 st
  subst l1 l2 l3
  exact ⟨T', L, v, X', hQ, st⟩
theorem callSpecial (X : Stand p l e R s m args below meth c T locs cells slots) (hx : p.tables.exec = Jvm.exec) {a0 : Array Value} {Z : State} {h : Heap} {own : String} {index : Nat} {bytes : ByteArray} {maxL : Nat} {ret : Option FieldType} {rm : Room} {W : Nat} {Qc : Option Value → Heap → List Loc → Prop} {y : MethodName} {a : Addr} {argsL : List Value} (hy1 : y.name = "<init>") (hZ : Z.Warmed39 s.vm) (hown : s.vm.findClass own = some m.cls) (w1 : (Cond.methodLink own index y).before a0 Z = true) (w2 : (Cond.instanceMethod y).before a0 Z = true) (w3 : (Cond.initialized y.cls).before a0 Z = true) (w4 : (Cond.code y bytes maxL none).before a0 Z = true) (hy : y.cls ≠ "java/lang/invoke/MethodHandle" ∧ y.cls ≠ "java/lang/invoke/VarHandle") (eT : T.heap = h) (hM : MetFree l y (head1 [Cond.code y bytes maxL none] rm) (fun av U => av = (.ref a :: argsL).toArray ∧ Z.Warmed39 U.vm ∧ U.heap = h) (fun _ _ _ _ _ => True) (fun _ U o U' => ∃ v L, o = .returned v ∧ Qc v U'.heap L ∧ FrameEnd U o U' L rm.cells rm.slots)) (hd : decode c.code pc = .ok (.invokespecial index, 3)) (hlen : ∀ sig, parseMethodDescriptor y.desc = some sig → argsL.length = sig.parameters.length) (hf : rm.frames + 1 ≤ R.frames) (hl : W + (maxL + 11) + rm.locals ≤ R.locals) (hsize : Ls.size = c.maxLocals) (hW : (rest.map fun v => v.category).sum ≤ W) (hcs : cells + rm.cells ≤ R.cells) (hss : slots + rm.slots ≤ R.slots) :
    ∃ (T' : State) (L : List Loc) (v : Option Value), Stand p l e R s m args below meth c T' (locs ++ L) (cells + rm.cells) (slots + rm.slots) ∧ Qc v T'.heap L ∧ ∀ t, Steps p.tables e below (T'.setTop (mkF m (pc + 3) Ls (v.toList ++ rest))) t → Steps p.tables e below (T.setTop (mkF m pc Ls (argsL.reverse ++ .ref a :: rest))) t := by
  obtain ⟨v, vm, ⟨T', L', k', n'⟩, -, X', ⟨L, hQ, l1, l2, l3⟩, st⟩ := X.specialBack hx (y := y) hy1 hown (mvT hZ w1) (mvT hZ w2) (mvT hZ w4) hy (backOf (W := W) hM hZ w4 w3 hf hl) (g := mkF m pc Ls (argsL.reverse ++ .ref a :: rest)) rfl hsize (Steps.refl _) (a := a) (argsL := argsL) (rest := rest) hlen rfl (by show 2 * 0 + _ ≤ _; omega) hd (fun _ _ => ⟨rfl, eT, hcs, hss⟩)
  dsimp only [Pt.U, Pt.locs, Pt.cells, Pt.slots] at X' hQ l1 l2 l3 st
  subst l1 l2 l3
  exact ⟨T', L, v, X', hQ, fun t kt => st.trans kt⟩
theorem callVirtual (X : Stand p l e R s m args below meth c T locs cells slots) (hx : p.tables.exec = Jvm.exec) {a0 : Array Value} {Z : State} {h : Heap} {own : String} {index : Nat} {bytes : ByteArray} {maxL : Nat} {ret : Option FieldType} {rm : Room} {W : Nat} {Qc : Option Value → Heap → List Loc → Prop} {y z : MethodName} {C : String} {a : Addr} {argsL : List Value} (hZ : Z.Warmed39 s.vm) (hown : s.vm.findClass own = some m.cls) (w1 : (Cond.methodLink own index y).before a0 Z = true) (w2 : (Cond.declares y).before a0 Z = true) (hnf : NotFace s y) (w5 : (Cond.selects C y z).before a0 Z = true) (w6 : (Cond.instanceMethod z).before a0 Z = true) (w3 : (Cond.initialized z.cls).before a0 Z = true) (w4 : (Cond.code z bytes maxL ret).before a0 Z = true) (hy : y.cls ≠ "java/lang/invoke/MethodHandle" ∧ y.cls ≠ "java/lang/invoke/VarHandle") (eT : T.heap = h) (E : Exa Z h a C) (hM : MetFree l z (head1 [Cond.code z bytes maxL ret] rm) (fun av U => av = (.ref a :: argsL).toArray ∧ Z.Warmed39 U.vm ∧ U.heap = h) (fun _ _ _ _ _ => True) (fun _ U o U' => ∃ v L, o = .returned v ∧ Qc v U'.heap L ∧ FrameEnd U o U' L rm.cells rm.slots)) (hd : decode c.code pc = .ok (.invokevirtual index, 3)) (hlen : ∀ sig, parseMethodDescriptor y.desc = some sig → argsL.length = sig.parameters.length) (hf : rm.frames + 1 ≤ R.frames) (hl : W + (maxL + 11) + rm.locals ≤ R.locals) (hsize : Ls.size = c.maxLocals) (hW : (rest.map fun v => v.category).sum ≤ W) (hcs : cells + rm.cells ≤ R.cells) (hss : slots + rm.slots ≤ R.slots) :
    ∃ (T' : State) (L : List Loc) (v : Option Value), Stand p l e R s m args below meth c T' (locs ++ L) (cells + rm.cells) (slots + rm.slots) ∧ Qc v T'.heap L ∧ ∀ t, Steps p.tables e below (T'.setTop (mkF m (pc + 3) Ls (v.toList ++ rest))) t → Steps p.tables e below (T.setTop (mkF m pc Ls (argsL.reverse ++ .ref a :: rest))) t := by
  obtain ⟨cB, kB, qa, -, qc⟩ := isOf hZ eT E
  obtain ⟨v, vm, ⟨T', L', k', n'⟩, -, X', ⟨L, hQ, l1, l2, l3⟩, st⟩ := X.virtualBack hx (y := y) (z := z) hown (mvT hZ w1) (mvT hZ w2) hnf (mvT hZ w5) (mvT hZ w6) hy (backOf (W := W) hM hZ w4 w3 hf hl) qa qc (g := mkF m pc Ls (argsL.reverse ++ .ref a :: rest)) rfl hsize (Steps.refl _) (argsL := argsL) (rest := rest) hlen rfl (by show 2 * 0 + _ ≤ _; omega) hd (fun _ _ => ⟨rfl, eT, hcs, hss⟩)
  dsimp only [Pt.U, Pt.locs, Pt.cells, Pt.slots] at X' hQ l1 l2 l3 st
  subst l1 l2 l3
  exact ⟨T', L, v, X', hQ, fun t kt => st.trans kt⟩
end Steps
section Arrays
variable {Z : State} {h h' : Heap} {a b : Addr} {ty : FieldType} {n : Int32} {f : Int32 → Int32} {sl : Nat} {v : Value} {ws : List Addr}
/-- the array at a: of kind ty, n places, the place j holds the int f j -/
def Ints (Z : State) (h : Heap) (a : Addr) (ty : FieldType) (n : Int32) (f : Int32 → Int32) : Prop := ∃ cl : Cell, Arr Z h a cl ty ∧ cl.slots.size = n.toNatClampNeg ∧ ¬ n < 0 ∧ ∀ j : Int32, ¬ j < 0 → j < n → cl.slots[j.toNatClampNeg]? = some (.int (f j))
theorem Ints.lt (F : Ints Z h a ty n f) : a < h.size := by obtain ⟨_, A, -⟩ := F; exact A.lt
theorem Ints.ext (E : Ext h h') (F : Ints Z h a ty n f) : Ints Z h' a ty n f := by obtain ⟨c, A, r⟩ := F; exact ⟨c, A.ext E, r⟩
theorem Ints.other (W : Wr h h' b sl v) (F : Ints Z h a ty n f) (q : a ≠ b) : Ints Z h' a ty n f := by obtain ⟨c, A, r⟩ := F; exact ⟨c, A.other W q, r⟩
theorem Ints.keep (F : Ints Z h a ty n f) (K : Keep h h' ws) (q : a ∉ ws) : Ints Z h' a ty n f := by obtain ⟨c, A, r⟩ := F; exact ⟨c, ⟨K.2.1 a c A.1 q, A.2⟩, r⟩
theorem Ints.inb {cl : Cell} (S : cl.slots.size = n.toNatClampNeg) {j : Int32} (h1 : ¬ j < 0) (h2 : j < n) : ¬ (j < 0 ∨ cl.slots.size ≤ j.toNatClampNeg) := inb_of S ⟨h1, h2⟩
theorem nat_inj {i j : Int32} (hi : ¬ i < 0) (hj : ¬ j < 0) (q : i.toNatClampNeg = j.toNatClampNeg) : i = j := Int32.toInt_inj.mp (by rw [nat_of hi, nat_of hj, q])
theorem Ints.set {j : Int32} {x : Int32} {cl : Cell} (A : Arr Z h a cl ty) (S : cl.slots.size = n.toNatClampNeg) (hn : ¬ n < 0) (H : ∀ j : Int32, ¬ j < 0 → j < n → cl.slots[j.toNatClampNeg]? = some (.int (f j))) (h1 : ¬ j < 0) (h2 : j < n) (W : Wr h h' a j.toNatClampNeg (.int x)) : Ints Z h' a ty n (fun i => if i = j then x else f i) := by
  refine ⟨_, A.same W, by rw [← S]; simp [Cell.setSlot], hn, fun i hi hi2 => ?_⟩
  have hlt : i.toNatClampNeg < cl.slots.size := Nat.lt_of_not_le fun q => inb_of S ⟨hi, hi2⟩ (Or.inr q)
  by_cases e : i = j
  · subst e; simp [Cell.setSlot, hlt]
  · have hne : j.toNatClampNeg ≠ i.toNatClampNeg := fun q => e (nat_inj hi h1 q.symm)
    simp only [if_neg e]
    rw [← H i hi hi2]
    simp [Cell.setSlot, Array.getElem?_setIfInBounds_ne hne]
theorem Ints.new {k : ClassId} (A : Arr Z h a (newA k ty n) ty) (hn : ¬ n < 0) (hd : defaultValue ty = .int 0) : Ints Z h a ty n (fun _ => 0) := by
  obtain ⟨cl, A', -, S, -, H, -⟩ := Arv.new A hn
  exact ⟨cl, A', S, hn, fun j h1 h2 => by rw [H _ (Nat.lt_of_not_le fun q => inb_of S ⟨h1, h2⟩ (Or.inr q))]; simp [hd]⟩
theorem Ints.congr {g : Int32 → Int32} (F : Ints Z h a ty n f) (q : ∀ j : Int32, ¬ j < 0 → j < n → f j = g j) : Ints Z h a ty n g := by
  obtain ⟨cl, A, S, hn, H⟩ := F
  exact ⟨cl, A, S, hn, fun j h1 h2 => by rw [← q j h1 h2]; exact H j h1 h2⟩
end Arrays
section ArraySteps
variable {p : Program} {l : Launch} {e : Env} {R : Room} {s : State} {m : MethodId} {args : Array Value} {below : List Frame} {meth : Method} {c : Code} {T : State} {locs : List Loc} {cells slots : Nat} {Φ : Outcome → State → Prop} {pc pc' : Nat} {Ls : Array Slot} {rest : List Value} {Z : State} {h : Heap} {a : Addr} {n j : Int32} {f : Int32 → Int32}
theorem Run.iaload (X : Stand p l e R s m args below meth c T locs cells slots) (hx : p.tables.exec = Jvm.exec) (hZ : Z.Warmed39 s.vm) (eT : T.heap = h) (F : Ints Z h a .int n f) (h1 : ¬ j < 0) (h2 : j < n) (hd : decode c.code pc = .ok (.iaload, 1)) (hp : pc + 1 = pc') (k : Run p.tables e below Φ T (mkF m pc' Ls (.int (f j) :: rest))) : Run p.tables e below Φ T (mkF m pc Ls (.int j :: .ref a :: rest)) := by
  subst hp
  obtain ⟨cl, A, S, hn, H⟩ := F
  exact k.back fun _ kt => X.iaload hx (by rw [eT]; exact A.1) (State.isArrayOf_alike hZ.alike A.2.1) A.2.2 (inb_of S ⟨h1, h2⟩) (H j h1 h2) (g := mkF m pc Ls (.int j :: .ref a :: rest)) rfl rfl hd _ kt
theorem Run.baload (X : Stand p l e R s m args below meth c T locs cells slots) (hx : p.tables.exec = Jvm.exec) (hZ : Z.Warmed39 s.vm) (eT : T.heap = h) (F : Ints Z h a .byte n f) (h1 : ¬ j < 0) (h2 : j < n) (hd : decode c.code pc = .ok (.baload, 1)) (hp : pc + 1 = pc') (k : Run p.tables e below Φ T (mkF m pc' Ls (.int (f j) :: rest))) : Run p.tables e below Φ T (mkF m pc Ls (.int j :: .ref a :: rest)) := by
  subst hp
  obtain ⟨cl, A, S, hn, H⟩ := F
  exact k.back fun _ kt => X.baloadBytes hx (by rw [eT]; exact A.1) (State.isArrayOf_alike hZ.alike A.2.1) A.2.2 (inb_of S ⟨h1, h2⟩) (H j h1 h2) (g := mkF m pc Ls (.int j :: .ref a :: rest)) rfl rfl hd _ kt
theorem Run.zaload (X : Stand p l e R s m args below meth c T locs cells slots) (hx : p.tables.exec = Jvm.exec) (hZ : Z.Warmed39 s.vm) (eT : T.heap = h) (F : Ints Z h a .boolean n f) (h1 : ¬ j < 0) (h2 : j < n) (hd : decode c.code pc = .ok (.baload, 1)) (hp : pc + 1 = pc') (k : Run p.tables e below Φ T (mkF m pc' Ls (.int (f j) :: rest))) : Run p.tables e below Φ T (mkF m pc Ls (.int j :: .ref a :: rest)) := by
  subst hp
  obtain ⟨cl, A, S, hn, H⟩ := F
  exact k.back fun _ kt => X.baloadBooleans hx (by rw [eT]; exact A.1) (State.isArrayOf_alike hZ.alike A.2.1) A.2.2 (inb_of S ⟨h1, h2⟩) (H j h1 h2) (g := mkF m pc Ls (.int j :: .ref a :: rest)) rfl rfl hd _ kt
theorem Run.arraylength (X : Stand p l e R s m args below meth c T locs cells slots) (hx : p.tables.exec = Jvm.exec) {ty : FieldType} (hZ : Z.Warmed39 s.vm) (eT : T.heap = h) (F : Ints Z h a ty n f) (hd : decode c.code pc = .ok (.arraylength, 1)) (hp : pc + 1 = pc') (k : Run p.tables e below Φ T (mkF m pc' Ls (.int n :: rest))) : Run p.tables e below Φ T (mkF m pc Ls (.ref a :: rest)) := by
  subst hp
  obtain ⟨cl, A, S, hn, H⟩ := F
  rw [← len_of S hn] at k
  exact k.back fun _ kt => X.arraylength hx (by rw [eT]; exact A.1) (State.isArrayOf_alike hZ.alike A.2.1) (g := mkF m pc Ls (.ref a :: rest)) rfl rfl hd _ kt
theorem st_iastore (X : Stand p l e R s m args below meth c T locs cells slots) (hx : p.tables.exec = Jvm.exec) {x : Int32} (hZ : Z.Warmed39 s.vm) (eT : T.heap = h) (F : Ints Z h a .int n f) (h1 : ¬ j < 0) (h2 : j < n) (hd : decode c.code pc = .ok (.iastore, 1)) : ∃ T' h' sl v, Stand p l e R s m args below meth c T' (locs ++ [⟨a, sl⟩]) cells slots ∧ T'.heap = h' ∧ Wr h h' a sl v ∧ Ints Z h' a .int n (fun i => if i = j then x else f i) ∧ ∀ t, Steps p.tables e below (T'.setTop (mkF m (pc + 1) Ls rest)) t → Steps p.tables e below (T.setTop (mkF m pc Ls (.int x :: .int j :: .ref a :: rest))) t := by
  obtain ⟨cl, A, S, hn, H⟩ := F
  obtain ⟨T', h', X', e', W, st⟩ := stI X hx hZ eT A (j := j) (x := x) (inb_of S ⟨h1, h2⟩) (g := mkF m pc Ls (.int x :: .int j :: .ref a :: rest)) rfl rfl hd
  exact ⟨T', h', _, _, X', e', W, Ints.set A S hn H h1 h2 W, st⟩
theorem st_bastore (X : Stand p l e R s m args below meth c T locs cells slots) (hx : p.tables.exec = Jvm.exec) {x : Int32} (hZ : Z.Warmed39 s.vm) (eT : T.heap = h) (F : Ints Z h a .byte n f) (h1 : ¬ j < 0) (h2 : j < n) (hd : decode c.code pc = .ok (.bastore, 1)) : ∃ T' h' sl v, Stand p l e R s m args below meth c T' (locs ++ [⟨a, sl⟩]) cells slots ∧ T'.heap = h' ∧ Wr h h' a sl v ∧ Ints Z h' a .byte n (fun i => if i = j then x.toInt8.toInt32 else f i) ∧ ∀ t, Steps p.tables e below (T'.setTop (mkF m (pc + 1) Ls rest)) t → Steps p.tables e below (T.setTop (mkF m pc Ls (.int x :: .int j :: .ref a :: rest))) t := by
  obtain ⟨cl, A, S, hn, H⟩ := F
  obtain ⟨T', h', X', e', W, st⟩ := stB X hx hZ eT A (j := j) (x := x) (inb_of S ⟨h1, h2⟩) (g := mkF m pc Ls (.int x :: .int j :: .ref a :: rest)) rfl rfl hd
  exact ⟨T', h', _, _, X', e', W, Ints.set A S hn H h1 h2 W, st⟩
theorem st_zastore (X : Stand p l e R s m args below meth c T locs cells slots) (hx : p.tables.exec = Jvm.exec) {x : Int32} (hZ : Z.Warmed39 s.vm) (eT : T.heap = h) (F : Ints Z h a .boolean n f) (h1 : ¬ j < 0) (h2 : j < n) (hd : decode c.code pc = .ok (.bastore, 1)) : ∃ T' h' sl v, Stand p l e R s m args below meth c T' (locs ++ [⟨a, sl⟩]) cells slots ∧ T'.heap = h' ∧ Wr h h' a sl v ∧ Ints Z h' a .boolean n (fun i => if i = j then x &&& 1 else f i) ∧ ∀ t, Steps p.tables e below (T'.setTop (mkF m (pc + 1) Ls rest)) t → Steps p.tables e below (T.setTop (mkF m pc Ls (.int x :: .int j :: .ref a :: rest))) t := by
  obtain ⟨cl, A, S, hn, H⟩ := F
  obtain ⟨T', h', X', e', W, st⟩ := stZ X hx hZ eT A (j := j) (x := x) (inb_of S ⟨h1, h2⟩) (g := mkF m pc Ls (.int x :: .int j :: .ref a :: rest)) rfl rfl hd
  exact ⟨T', h', _, _, X', e', W, Ints.set A S hn H h1 h2 W, st⟩
theorem st_newarray (X : Stand p l e R s m args below meth c T locs cells slots) (hx : p.tables.exec = Jvm.exec) {aty : ArrayType} {a0 : Array Value} (hZ : Z.Warmed39 s.vm) (w : (Cond.arrayClass (newarray.typeOf aty)).before a0 Z = true) (eT : T.heap = h) (hd : decode c.code pc = .ok (.newarray aty, 2)) (hn : ¬ n < 0) {cap : Nat} (hcap : n.toNatClampNeg ≤ cap) (hb : cap * 8 ≤ 536870912) (hc : cells + 1 ≤ R.cells) (hl : slots + cap ≤ R.slots) (hdef : defaultValue (newarray.typeOf aty) = .int 0) : ∃ T' h' b, Stand p l e R s m args below meth c T' locs (cells + 1) (slots + cap) ∧ T'.heap = h' ∧ Ext h h' ∧ b = h.size ∧ Ints Z h' b (newarray.typeOf aty) n (fun _ => 0) ∧ ∀ t, Steps p.tables e below (T'.setTop (mkF m (pc + 2) Ls (.ref b :: rest))) t → Steps p.tables e below (T.setTop (mkF m pc Ls (.int n :: rest))) t := by
  obtain ⟨T', h', cA, X', e', E, A, st⟩ := newP X hx hZ w eT (g := mkF m pc Ls (.int n :: rest)) rfl hd rfl hn hcap hb hc hl
  exact ⟨T', h', _, X', e', E, rfl, Ints.new A hn hdef, st⟩
end ArraySteps
section Table
variable {Z : State} {args : Array Value} {t : Term} {a : Addr} {c : Cell} {ty : FieldType} {n j : Int32}
theorem tab_ints {h : Heap} (F : Tab Z h a c ty n) : Ints Z h a ty n (atv c) := ⟨c, F.1, F.2.1, F.2.2.1, fun j h1 h2 => F.2.2.2 j (inb_of F.2.1 ⟨h1, h2⟩)⟩
theorem tab_all {q : Jvm.Cond} (et : ∀ idx, t.eval args Z none idx Z = some (.ref a)) (F : Tab Z Z.heap a c ty n) (h : (Jvm.Cond.all t q).value args Z none Z [] = some true) (h1 : ¬ j < 0) (h2 : j < n) : q.value args Z none Z [j.toNatClampNeg] = some true :=
  Jvm.Cond.all_elim (et []) (F.1.fin (Vm.Alike.refl _)) h _ (Nat.lt_of_not_le fun y => inb_of F.2.1 ⟨h1, h2⟩ (Or.inr y))
theorem tab_elem (et : ∀ idx, t.eval args Z none idx Z = some (.ref a)) (F : Tab Z Z.heap a c ty n) (h1 : ¬ j < 0) (h2 : j < n) : (Term.elem t (.index 0)).eval args Z none [j.toNatClampNeg] Z = some (.int (atv c j)) :=
  (elem_f (et _) (idx_at h1) (F.1.fin (Vm.Alike.refl _)) h1).trans (F.2.2.2 j (inb_of F.2.1 ⟨h1, h2⟩))
theorem tab_le {x v : Int32} (et : ∀ idx, t.eval args Z none idx Z = some (.ref a)) (F : Tab Z Z.heap a c ty n) (h : (Jvm.Cond.all t (.or (.le (.int x) (.index 0)) (.eq (.elem t (.index 0)) (.int v)))).value args Z none Z [] = some true) (j : Int32) (h1 : ¬ j < 0) (h2 : j < n) : x ≤ j ∨ atv c j = v :=
  or_e2 (Jvm.Cond.le_ints (Term.int_eval x) (idx_at h1)) (Jvm.Cond.eq_ints (tab_elem et F h1 h2) (Term.int_eval v)) (tab_all et F h h1 h2)
theorem tab_in {x y v : Int32} (et : ∀ idx, t.eval args Z none idx Z = some (.ref a)) (F : Tab Z Z.heap a c ty n) (h : (Jvm.Cond.all t (.or (.lt (.index 0) (.int x)) (.or (.le (.int y) (.index 0)) (.eq (.elem t (.index 0)) (.int v))))).value args Z none Z [] = some true) (j : Int32) (h1 : ¬ j < 0) (h2 : j < n) : j < x ∨ ¬ j < y ∨ atv c j = v :=
  or3 (tab_all et F h h1 h2) (Jvm.Cond.lt_ints (idx_at h1) (Term.int_eval x)) (Jvm.Cond.le_ints (Term.int_eval y) (idx_at h1)) (Jvm.Cond.eq_ints (tab_elem et F h1 h2) (Term.int_eval v))
theorem tab_one {k v : Int32} (et : ∀ idx, t.eval args Z none idx Z = some (.ref a)) (F : Tab Z Z.heap a c ty n) (h1 : ¬ k < 0) (h2 : k < n) (h : (Jvm.Cond.eq (.elem t (.int k)) (.int v)).value args Z none Z [] = some true) : atv c k = v := by
  have e := (elem_f (et []) (Term.int_eval (args := args) (first := Z) (o := none) (idx := []) (s := Z) k) (F.1.fin (Vm.Alike.refl _)) h1).trans (F.2.2.2 k (inb_of F.2.1 ⟨h1, h2⟩))
  have q := (Jvm.Cond.eq_ints e (Term.int_eval v)).symm.trans h
  simpa using q
theorem tab_ge {x v : Int32} (et : ∀ idx, t.eval args Z none idx Z = some (.ref a)) (F : Tab Z Z.heap a c ty n) (h : (Jvm.Cond.all t (.or (.lt (.index 0) (.int x)) (.eq (.elem t (.index 0)) (.int v)))).value args Z none Z [] = some true) (j : Int32) (h1 : ¬ j < 0) (h2 : j < n) : j < x ∨ atv c j = v :=
  or_e2 (Jvm.Cond.lt_ints (idx_at h1) (Term.int_eval x)) (Jvm.Cond.eq_ints (tab_elem et F h1 h2) (Term.int_eval v)) (tab_all et F h h1 h2)
theorem tab_start (hf : Fit Z) (et : t.eval args Z none [] Z = some (.ref a)) (A : Arr Z Z.heap a c ty) (hl : (Jvm.Cond.eq (Term.length t) (.int n)).value args Z none Z [] = some true) (ht : ty = .int ∨ ty = .boolean ∨ ty = .byte ∨ ty = .char ∨ ty = .short) (hn : ¬ n < 0) : Tab Z Z.heap a c ty n := by
  have e := eqv_i (Term.int_eval n) hl
  have ha : Z.arrayAt? a = some c := A.fin (Vm.Alike.refl _)
  by_cases q : c.slots.size < 2 ^ 31
  · have e2 := len_f et ha q
    exact Tab.start hf A ht q (by simpa using Option.some.inj (e2.symm.trans e)) hn
  · simp [Term.eval, et, ha, q] at e
theorem small_int (N : Nat) (hN : N < 2147483648) (P : Int32 → Prop) (H : ∀ k : Fin N, P (Int32.ofNat k.val)) (c : Int32) (h1 : ¬ c < 0) (h2 : c < Int32.ofNat N) : P c := by
  have e : c.toInt = (c.toNatClampNeg : Int) := nat_of h1
  have hc : Int32.ofNat c.toNatClampNeg = c := by
    apply Int32.toInt_inj.mp
    rw [Int32.toInt_ofNat_of_lt (by have := c.toInt_lt; omega), e]
  have h3 : c.toInt < (Int32.ofNat N).toInt := Int32.lt_iff_toInt_lt.mp h2
  rw [Int32.toInt_ofNat_of_lt (by omega)] at h3
  rw [← hc]
  exact H ⟨c.toNatClampNeg, by omega⟩
end Table
end Jvm.OwnRun

namespace Jvm.Pilot.@@N@@
open Jvm Jvm.ClassFile Sem Op Lib Jvm.Free Jvm.Stand Jvm.LawKit Jvm.RoadKit Jvm.OwnRun Bundle Jvm.Pilot.@@N@@.Jvm.D
theorem own_pd0 : parseMethodDescriptor "(I)Lcom/example/certwright/certwright/x509/AttributeType;" = some ⟨[.int], some (.object "com/example/certwright/certwright/x509/AttributeType")⟩ := by decide +kernel
theorem own_pd1 : parseMethodDescriptor "(I)I" = some ⟨[.int], some .int⟩ := by decide +kernel
theorem own_pd2 : parseMethodDescriptor "(I)Z" = some ⟨[.int], some .boolean⟩ := by decide +kernel
theorem own_pn0 : plainName "com/example/certwright/certwright/x509/AttributeTypeFitsPinLaw" = true := by first | (simp [plainName, overriddenIn]; done) | decide +kernel
theorem own_pn1 : plainName "com/example/certwright/certwright/x509/AttributeType" = true := by first | (simp [plainName, overriddenIn]; done) | decide +kernel
def own_F1 (p0 : Int32) (a_COMMON_NAME : Addr) (a_LOCALITY : Addr) (a_STATE_OR_PROVINCE : Addr) (a_ORGANIZATION : Addr) (a_ORGANIZATIONAL_UNIT : Addr) (a_COUNTRY : Addr) (a_STREET : Addr) (a_DOMAIN_COMPONENT : Addr) (a_USER_ID : Addr) (a_SERIAL_NUMBER : Addr) (a_EMAIL_ADDRESS : Addr) : Addr := (if p0 = (0 : Int32) then a_COMMON_NAME else (if p0 = (1 : Int32) then a_LOCALITY else (if p0 = (2 : Int32) then a_STATE_OR_PROVINCE else (if p0 = (3 : Int32) then a_ORGANIZATION else (if p0 = (4 : Int32) then a_ORGANIZATIONAL_UNIT else (if p0 = (5 : Int32) then a_COUNTRY else (if p0 = (6 : Int32) then a_STREET else (if p0 = (7 : Int32) then a_DOMAIN_COMPONENT else (if p0 = (8 : Int32) then a_USER_ID else (if p0 = (9 : Int32) then a_SERIAL_NUMBER else a_EMAIL_ADDRESS))))))))))
theorem own_d1_0 : decode method_2_code 0 = .ok (.iload_n 0, 1) := by decide +kernel
theorem own_d1_1 : decode method_2_code 1 = .ok (.ifCond .ne 7, 3) := by decide +kernel
theorem own_d1_4 : decode method_2_code 4 = .ok (.getstatic 7, 3) := by decide +kernel
theorem own_d1_7 : decode method_2_code 7 = .ok (.areturn, 1) := by decide +kernel
theorem own_d1_8 : decode method_2_code 8 = .ok (.iload_n 0, 1) := by decide +kernel
theorem own_d1_9 : decode method_2_code 9 = .ok (.iconst 1, 1) := by decide +kernel
theorem own_d1_10 : decode method_2_code 10 = .ok (.if_icmp .ne 7, 3) := by decide +kernel
theorem own_d1_13 : decode method_2_code 13 = .ok (.getstatic 13, 3) := by decide +kernel
theorem own_d1_16 : decode method_2_code 16 = .ok (.areturn, 1) := by decide +kernel
theorem own_d1_17 : decode method_2_code 17 = .ok (.iload_n 0, 1) := by decide +kernel
theorem own_d1_18 : decode method_2_code 18 = .ok (.iconst 2, 1) := by decide +kernel
theorem own_d1_19 : decode method_2_code 19 = .ok (.if_icmp .ne 7, 3) := by decide +kernel
theorem own_d1_22 : decode method_2_code 22 = .ok (.getstatic 16, 3) := by decide +kernel
theorem own_d1_25 : decode method_2_code 25 = .ok (.areturn, 1) := by decide +kernel
theorem own_d1_26 : decode method_2_code 26 = .ok (.iload_n 0, 1) := by decide +kernel
theorem own_d1_27 : decode method_2_code 27 = .ok (.iconst 3, 1) := by decide +kernel
theorem own_d1_28 : decode method_2_code 28 = .ok (.if_icmp .ne 7, 3) := by decide +kernel
theorem own_d1_31 : decode method_2_code 31 = .ok (.getstatic 19, 3) := by decide +kernel
theorem own_d1_34 : decode method_2_code 34 = .ok (.areturn, 1) := by decide +kernel
theorem own_d1_35 : decode method_2_code 35 = .ok (.iload_n 0, 1) := by decide +kernel
theorem own_d1_36 : decode method_2_code 36 = .ok (.iconst 4, 1) := by decide +kernel
theorem own_d1_37 : decode method_2_code 37 = .ok (.if_icmp .ne 7, 3) := by decide +kernel
theorem own_d1_40 : decode method_2_code 40 = .ok (.getstatic 22, 3) := by decide +kernel
theorem own_d1_43 : decode method_2_code 43 = .ok (.areturn, 1) := by decide +kernel
theorem own_d1_44 : decode method_2_code 44 = .ok (.iload_n 0, 1) := by decide +kernel
theorem own_d1_45 : decode method_2_code 45 = .ok (.iconst 5, 1) := by decide +kernel
theorem own_d1_46 : decode method_2_code 46 = .ok (.if_icmp .ne 7, 3) := by decide +kernel
theorem own_d1_49 : decode method_2_code 49 = .ok (.getstatic 25, 3) := by decide +kernel
theorem own_d1_52 : decode method_2_code 52 = .ok (.areturn, 1) := by decide +kernel
theorem own_d1_53 : decode method_2_code 53 = .ok (.iload_n 0, 1) := by decide +kernel
theorem own_d1_54 : decode method_2_code 54 = .ok (.bipush 6, 2) := by decide +kernel
theorem own_d1_56 : decode method_2_code 56 = .ok (.if_icmp .ne 7, 3) := by decide +kernel
theorem own_d1_59 : decode method_2_code 59 = .ok (.getstatic 28, 3) := by decide +kernel
theorem own_d1_62 : decode method_2_code 62 = .ok (.areturn, 1) := by decide +kernel
theorem own_d1_63 : decode method_2_code 63 = .ok (.iload_n 0, 1) := by decide +kernel
theorem own_d1_64 : decode method_2_code 64 = .ok (.bipush 7, 2) := by decide +kernel
theorem own_d1_66 : decode method_2_code 66 = .ok (.if_icmp .ne 7, 3) := by decide +kernel
theorem own_d1_69 : decode method_2_code 69 = .ok (.getstatic 31, 3) := by decide +kernel
theorem own_d1_72 : decode method_2_code 72 = .ok (.areturn, 1) := by decide +kernel
theorem own_d1_73 : decode method_2_code 73 = .ok (.iload_n 0, 1) := by decide +kernel
theorem own_d1_74 : decode method_2_code 74 = .ok (.bipush 8, 2) := by decide +kernel
theorem own_d1_76 : decode method_2_code 76 = .ok (.if_icmp .ne 7, 3) := by decide +kernel
theorem own_d1_79 : decode method_2_code 79 = .ok (.getstatic 34, 3) := by decide +kernel
theorem own_d1_82 : decode method_2_code 82 = .ok (.areturn, 1) := by decide +kernel
theorem own_d1_83 : decode method_2_code 83 = .ok (.iload_n 0, 1) := by decide +kernel
theorem own_d1_84 : decode method_2_code 84 = .ok (.bipush 9, 2) := by decide +kernel
theorem own_d1_86 : decode method_2_code 86 = .ok (.if_icmp .ne 7, 3) := by decide +kernel
theorem own_d1_89 : decode method_2_code 89 = .ok (.getstatic 37, 3) := by decide +kernel
theorem own_d1_92 : decode method_2_code 92 = .ok (.areturn, 1) := by decide +kernel
theorem own_d1_93 : decode method_2_code 93 = .ok (.getstatic 40, 3) := by decide +kernel
theorem own_d1_96 : decode method_2_code 96 = .ok (.areturn, 1) := by decide +kernel
theorem own_ef1 (m : MethodId) (x0 : Int32) : entryFrame m #[(.int x0)] 1 = mkF m 0 #[.val (.int x0)] [] := by first | (simp [entryFrame, mkF, argsToLocals, Value.category]; done) | rfl
set_option maxRecDepth 65536 in
set_option maxHeartbeats 40000000 in
theorem rm1 (l : Launch) (Z : State) (a0 : Array Value) (hw : ∀ d ∈ tables_1, d.before a0 Z = true) (ws : List Jvm.Cond) (p0 : Int32) (a_COMMON_NAME : Addr) (a_LOCALITY : Addr) (a_STATE_OR_PROVINCE : Addr) (a_ORGANIZATION : Addr) (a_ORGANIZATIONAL_UNIT : Addr) (a_COUNTRY : Addr) (a_STREET : Addr) (a_DOMAIN_COMPONENT : Addr) (a_USER_ID : Addr) (a_SERIAL_NUMBER : Addr) (a_EMAIL_ADDRESS : Addr) (h0 : Heap) (n0 : Nat) (Z0 : n0 ≤ h0.size) (S_COMMON_NAME : Sta Z h0 "com/example/certwright/certwright/x509/AttributeType" "COMMON_NAME" "Lcom/example/certwright/certwright/x509/AttributeType;" (.ref a_COMMON_NAME)) (S_LOCALITY : Sta Z h0 "com/example/certwright/certwright/x509/AttributeType" "LOCALITY" "Lcom/example/certwright/certwright/x509/AttributeType;" (.ref a_LOCALITY)) (S_STATE_OR_PROVINCE : Sta Z h0 "com/example/certwright/certwright/x509/AttributeType" "STATE_OR_PROVINCE" "Lcom/example/certwright/certwright/x509/AttributeType;" (.ref a_STATE_OR_PROVINCE)) (S_ORGANIZATION : Sta Z h0 "com/example/certwright/certwright/x509/AttributeType" "ORGANIZATION" "Lcom/example/certwright/certwright/x509/AttributeType;" (.ref a_ORGANIZATION)) (S_ORGANIZATIONAL_UNIT : Sta Z h0 "com/example/certwright/certwright/x509/AttributeType" "ORGANIZATIONAL_UNIT" "Lcom/example/certwright/certwright/x509/AttributeType;" (.ref a_ORGANIZATIONAL_UNIT)) (S_COUNTRY : Sta Z h0 "com/example/certwright/certwright/x509/AttributeType" "COUNTRY" "Lcom/example/certwright/certwright/x509/AttributeType;" (.ref a_COUNTRY)) (S_STREET : Sta Z h0 "com/example/certwright/certwright/x509/AttributeType" "STREET" "Lcom/example/certwright/certwright/x509/AttributeType;" (.ref a_STREET)) (S_DOMAIN_COMPONENT : Sta Z h0 "com/example/certwright/certwright/x509/AttributeType" "DOMAIN_COMPONENT" "Lcom/example/certwright/certwright/x509/AttributeType;" (.ref a_DOMAIN_COMPONENT)) (S_USER_ID : Sta Z h0 "com/example/certwright/certwright/x509/AttributeType" "USER_ID" "Lcom/example/certwright/certwright/x509/AttributeType;" (.ref a_USER_ID)) (S_SERIAL_NUMBER : Sta Z h0 "com/example/certwright/certwright/x509/AttributeType" "SERIAL_NUMBER" "Lcom/example/certwright/certwright/x509/AttributeType;" (.ref a_SERIAL_NUMBER)) (S_EMAIL_ADDRESS : Sta Z h0 "com/example/certwright/certwright/x509/AttributeType" "EMAIL_ADDRESS" "Lcom/example/certwright/certwright/x509/AttributeType;" (.ref a_EMAIL_ADDRESS)) :
    MetFree l (⟨"com/example/certwright/certwright/x509/AttributeTypeFitsPinLaw", "type", "(I)Lcom/example/certwright/certwright/x509/AttributeType;"⟩ : MethodName) (head1 (Jvm.Cond.code (⟨"com/example/certwright/certwright/x509/AttributeTypeFitsPinLaw", "type", "(I)Lcom/example/certwright/certwright/x509/AttributeType;"⟩ : MethodName) method_2_code 1 (some (.object "com/example/certwright/certwright/x509/AttributeType")) :: ws) ({ frames := 0, cells := 0, slots := 0, locals := 0 } : Room)) (fun a U => a = #[(.int p0)] ∧ Z.Warmed39 U.vm ∧ U.heap = h0) (fun _ _ _ _ _ => True) (fun _ U o U' => ∃ v L, o = .returned v ∧ (QPure n0 h0 (.ref (own_F1 p0 a_COMMON_NAME a_LOCALITY a_STATE_OR_PROVINCE a_ORGANIZATION a_ORGANIZATIONAL_UNIT a_COUNTRY a_STREET a_DOMAIN_COMPONENT a_USER_ID a_SERIAL_NUMBER a_EMAIL_ADDRESS))) v U'.heap L ∧ FrameEnd U o U' L ({ frames := 0, cells := 0, slots := 0, locals := 0 } : Room).cells ({ frames := 0, cells := 0, slots := 0, locals := 0 } : Room).slots) := by
  refine MetFree.of_bodySF (plainFor_of_name own_pn0) hisR ?_
  intro p e s m args below meth c s₁ Bd hml0 hP hK
  obtain ⟨rfl, hZ, hh⟩ := hP
  have hx := Bd.exec
  have hby := Bd.bytes
  have hml : c.maxLocals = 1 := hml0
  have hown : s.vm.findClass "com/example/certwright/certwright/x509/AttributeTypeFitsPinLaw" = some m.cls := findClass_of_methodNamed Bd.named
  have hnm := (name_of_methodNamed Bd.named Bd.method).1
  have X0 : Stand p l e ({ frames := 0, cells := 0, slots := 0, locals := 0 } : Room) s m #[(.int p0)] below meth c s₁ [] 0 0 := Stand.of_body Bd
  have e0 : s₁.heap = h0 := by rw [← hh, Bd.state]; rfl
  have N0 := Fr.nil n0
  suffices H : Run p.tables e below (FinR s ({ frames := 0, cells := 0, slots := 0, locals := 0 } : Room).cells ({ frames := 0, cells := 0, slots := 0, locals := 0 } : Room).slots (QPure n0 h0 (.ref (own_F1 p0 a_COMMON_NAME a_LOCALITY a_STATE_OR_PROVINCE a_ORGANIZATION a_ORGANIZATIONAL_UNIT a_COUNTRY a_STREET a_DOMAIN_COMPONENT a_USER_ID a_SERIAL_NUMBER a_EMAIL_ADDRESS)))) s₁ (mkF m 0 #[.val (.int p0)] []) by
    obtain ⟨s₂, o, k1, k2, k3, k4⟩ := H
    exact ⟨s₂, o, castTop (own_ef1 m p0) k1, k2, k3, k4⟩
  obtain ⟨r, hr⟩ : ∃ r, r = own_F1 p0 a_COMMON_NAME a_LOCALITY a_STATE_OR_PROVINCE a_ORGANIZATION a_ORGANIZATIONAL_UNIT a_COUNTRY a_STREET a_DOMAIN_COMPONENT a_USER_ID a_SERIAL_NUMBER a_EMAIL_ADDRESS := ⟨_, rfl⟩
  rw [← hr]
  rw [own_F1] at hr
  refine Run.iloadN (pc' := 1) X0 hx (hb hby own_d1_0) rfl rfl ?_
  by_cases hc1 : p0 = (0 : Int32)
  · rw [if_pos hc1] at hr
    refine Run.ifNo (pc' := 4) X0 hx (hb hby own_d1_1) ((if0 _ _).trans (teq hc1).2) rfl ?_
    obtain ⟨T1, X1, e1, st1⟩ := getS2 X0 hx hZ hown (host := "") (Or.inl (hw _ (List.mem_of_getElem? (i := 5) rfl))) Via.refl e0 S_COMMON_NAME (g := (mkF m 4 #[.val (.int p0)] [])) rfl (hb hby own_d1_4)
    refine Run.back (g' := (mkF m 7 #[.val (.int p0)] [(.ref a_COMMON_NAME)])) st1 ?_
    exact Run.retRef X1 hx Bd.notSynchronized Bd.returns rfl rfl (hb hby own_d1_7) ⟨by rw [hr], N0, e1⟩ (by decide) (by decide)
  · rw [if_neg hc1] at hr
    refine Run.ifYes (pc' := 8) X0 hx (hb hby own_d1_1) ((if0 _ _).trans (feq hc1).2) (by decide) (by decide) ?_
    refine Run.iloadN (pc' := 9) X0 hx (hb hby own_d1_8) rfl rfl ?_
    refine Run.iconst (pc' := 10) (v := (1 : Int32)) X0 hx (hb hby own_d1_9) rfl rfl ?_
    by_cases hc10 : p0 = (1 : Int32)
    · rw [if_pos hc10] at hr
      refine Run.icmpNo (pc' := 13) X0 hx (hb hby own_d1_10) (teq hc10).2 rfl ?_
      obtain ⟨T2, X2, e2, st2⟩ := getS2 X0 hx hZ hown (host := "") (Or.inl (hw _ (List.mem_of_getElem? (i := 34) rfl))) Via.refl e0 S_LOCALITY (g := (mkF m 13 #[.val (.int p0)] [])) rfl (hb hby own_d1_13)
      refine Run.back (g' := (mkF m 16 #[.val (.int p0)] [(.ref a_LOCALITY)])) st2 ?_
      exact Run.retRef X2 hx Bd.notSynchronized Bd.returns rfl rfl (hb hby own_d1_16) ⟨by rw [hr], N0, e2⟩ (by decide) (by decide)
    · rw [if_neg hc10] at hr
      refine Run.icmpYes (pc' := 17) X0 hx (hb hby own_d1_10) (feq hc10).2 (by decide) (by decide) ?_
      refine Run.iloadN (pc' := 18) X0 hx (hb hby own_d1_17) rfl rfl ?_
      refine Run.iconst (pc' := 19) (v := (2 : Int32)) X0 hx (hb hby own_d1_18) rfl rfl ?_
      by_cases hc19 : p0 = (2 : Int32)
      · rw [if_pos hc19] at hr
        refine Run.icmpNo (pc' := 22) X0 hx (hb hby own_d1_19) (teq hc19).2 rfl ?_
        obtain ⟨T3, X3, e3, st3⟩ := getS2 X0 hx hZ hown (host := "") (Or.inl (hw _ (List.mem_of_getElem? (i := 36) rfl))) Via.refl e0 S_STATE_OR_PROVINCE (g := (mkF m 22 #[.val (.int p0)] [])) rfl (hb hby own_d1_22)
        refine Run.back (g' := (mkF m 25 #[.val (.int p0)] [(.ref a_STATE_OR_PROVINCE)])) st3 ?_
        exact Run.retRef X3 hx Bd.notSynchronized Bd.returns rfl rfl (hb hby own_d1_25) ⟨by rw [hr], N0, e3⟩ (by decide) (by decide)
      · rw [if_neg hc19] at hr
        refine Run.icmpYes (pc' := 26) X0 hx (hb hby own_d1_19) (feq hc19).2 (by decide) (by decide) ?_
        refine Run.iloadN (pc' := 27) X0 hx (hb hby own_d1_26) rfl rfl ?_
        refine Run.iconst (pc' := 28) (v := (3 : Int32)) X0 hx (hb hby own_d1_27) rfl rfl ?_
        by_cases hc28 : p0 = (3 : Int32)
        · rw [if_pos hc28] at hr
          refine Run.icmpNo (pc' := 31) X0 hx (hb hby own_d1_28) (teq hc28).2 rfl ?_
          obtain ⟨T4, X4, e4, st4⟩ := getS2 X0 hx hZ hown (host := "") (Or.inl (hw _ (List.mem_of_getElem? (i := 24) rfl))) Via.refl e0 S_ORGANIZATION (g := (mkF m 31 #[.val (.int p0)] [])) rfl (hb hby own_d1_31)
          refine Run.back (g' := (mkF m 34 #[.val (.int p0)] [(.ref a_ORGANIZATION)])) st4 ?_
          exact Run.retRef X4 hx Bd.notSynchronized Bd.returns rfl rfl (hb hby own_d1_34) ⟨by rw [hr], N0, e4⟩ (by decide) (by decide)
        · rw [if_neg hc28] at hr
          refine Run.icmpYes (pc' := 35) X0 hx (hb hby own_d1_28) (feq hc28).2 (by decide) (by decide) ?_
          refine Run.iloadN (pc' := 36) X0 hx (hb hby own_d1_35) rfl rfl ?_
          refine Run.iconst (pc' := 37) (v := (4 : Int32)) X0 hx (hb hby own_d1_36) rfl rfl ?_
          by_cases hc37 : p0 = (4 : Int32)
          · rw [if_pos hc37] at hr
            refine Run.icmpNo (pc' := 40) X0 hx (hb hby own_d1_37) (teq hc37).2 rfl ?_
            obtain ⟨T5, X5, e5, st5⟩ := getS2 X0 hx hZ hown (host := "") (Or.inl (hw _ (List.mem_of_getElem? (i := 42) rfl))) Via.refl e0 S_ORGANIZATIONAL_UNIT (g := (mkF m 40 #[.val (.int p0)] [])) rfl (hb hby own_d1_40)
            refine Run.back (g' := (mkF m 43 #[.val (.int p0)] [(.ref a_ORGANIZATIONAL_UNIT)])) st5 ?_
            exact Run.retRef X5 hx Bd.notSynchronized Bd.returns rfl rfl (hb hby own_d1_43) ⟨by rw [hr], N0, e5⟩ (by decide) (by decide)
          · rw [if_neg hc37] at hr
            refine Run.icmpYes (pc' := 44) X0 hx (hb hby own_d1_37) (feq hc37).2 (by decide) (by decide) ?_
            refine Run.iloadN (pc' := 45) X0 hx (hb hby own_d1_44) rfl rfl ?_
            refine Run.iconst (pc' := 46) (v := (5 : Int32)) X0 hx (hb hby own_d1_45) rfl rfl ?_
            by_cases hc46 : p0 = (5 : Int32)
            · rw [if_pos hc46] at hr
              refine Run.icmpNo (pc' := 49) X0 hx (hb hby own_d1_46) (teq hc46).2 rfl ?_
              obtain ⟨T6, X6, e6, st6⟩ := getS2 X0 hx hZ hown (host := "") (Or.inl (hw _ (List.mem_of_getElem? (i := 28) rfl))) Via.refl e0 S_COUNTRY (g := (mkF m 49 #[.val (.int p0)] [])) rfl (hb hby own_d1_49)
              refine Run.back (g' := (mkF m 52 #[.val (.int p0)] [(.ref a_COUNTRY)])) st6 ?_
              exact Run.retRef X6 hx Bd.notSynchronized Bd.returns rfl rfl (hb hby own_d1_52) ⟨by rw [hr], N0, e6⟩ (by decide) (by decide)
            · rw [if_neg hc46] at hr
              refine Run.icmpYes (pc' := 53) X0 hx (hb hby own_d1_46) (feq hc46).2 (by decide) (by decide) ?_
              refine Run.iloadN (pc' := 54) X0 hx (hb hby own_d1_53) rfl rfl ?_
              refine Run.bipush (pc' := 56) (v := (6 : Int32)) X0 hx (hb hby own_d1_54) rfl rfl ?_
              by_cases hc56 : p0 = (6 : Int32)
              · rw [if_pos hc56] at hr
                refine Run.icmpNo (pc' := 59) X0 hx (hb hby own_d1_56) (teq hc56).2 rfl ?_
                obtain ⟨T7, X7, e7, st7⟩ := getS2 X0 hx hZ hown (host := "") (Or.inl (hw _ (List.mem_of_getElem? (i := 30) rfl))) Via.refl e0 S_STREET (g := (mkF m 59 #[.val (.int p0)] [])) rfl (hb hby own_d1_59)
                refine Run.back (g' := (mkF m 62 #[.val (.int p0)] [(.ref a_STREET)])) st7 ?_
                exact Run.retRef X7 hx Bd.notSynchronized Bd.returns rfl rfl (hb hby own_d1_62) ⟨by rw [hr], N0, e7⟩ (by decide) (by decide)
              · rw [if_neg hc56] at hr
                refine Run.icmpYes (pc' := 63) X0 hx (hb hby own_d1_56) (feq hc56).2 (by decide) (by decide) ?_
                refine Run.iloadN (pc' := 64) X0 hx (hb hby own_d1_63) rfl rfl ?_
                refine Run.bipush (pc' := 66) (v := (7 : Int32)) X0 hx (hb hby own_d1_64) rfl rfl ?_
                by_cases hc66 : p0 = (7 : Int32)
                · rw [if_pos hc66] at hr
                  refine Run.icmpNo (pc' := 69) X0 hx (hb hby own_d1_66) (teq hc66).2 rfl ?_
                  obtain ⟨T8, X8, e8, st8⟩ := getS2 X0 hx hZ hown (host := "") (Or.inl (hw _ (List.mem_of_getElem? (i := 40) rfl))) Via.refl e0 S_DOMAIN_COMPONENT (g := (mkF m 69 #[.val (.int p0)] [])) rfl (hb hby own_d1_69)
                  refine Run.back (g' := (mkF m 72 #[.val (.int p0)] [(.ref a_DOMAIN_COMPONENT)])) st8 ?_
                  exact Run.retRef X8 hx Bd.notSynchronized Bd.returns rfl rfl (hb hby own_d1_72) ⟨by rw [hr], N0, e8⟩ (by decide) (by decide)
                · rw [if_neg hc66] at hr
                  refine Run.icmpYes (pc' := 73) X0 hx (hb hby own_d1_66) (feq hc66).2 (by decide) (by decide) ?_
                  refine Run.iloadN (pc' := 74) X0 hx (hb hby own_d1_73) rfl rfl ?_
                  refine Run.bipush (pc' := 76) (v := (8 : Int32)) X0 hx (hb hby own_d1_74) rfl rfl ?_
                  by_cases hc76 : p0 = (8 : Int32)
                  · rw [if_pos hc76] at hr
                    refine Run.icmpNo (pc' := 79) X0 hx (hb hby own_d1_76) (teq hc76).2 rfl ?_
                    obtain ⟨T9, X9, e9, st9⟩ := getS2 X0 hx hZ hown (host := "") (Or.inl (hw _ (List.mem_of_getElem? (i := 32) rfl))) Via.refl e0 S_USER_ID (g := (mkF m 79 #[.val (.int p0)] [])) rfl (hb hby own_d1_79)
                    refine Run.back (g' := (mkF m 82 #[.val (.int p0)] [(.ref a_USER_ID)])) st9 ?_
                    exact Run.retRef X9 hx Bd.notSynchronized Bd.returns rfl rfl (hb hby own_d1_82) ⟨by rw [hr], N0, e9⟩ (by decide) (by decide)
                  · rw [if_neg hc76] at hr
                    refine Run.icmpYes (pc' := 83) X0 hx (hb hby own_d1_76) (feq hc76).2 (by decide) (by decide) ?_
                    refine Run.iloadN (pc' := 84) X0 hx (hb hby own_d1_83) rfl rfl ?_
                    refine Run.bipush (pc' := 86) (v := (9 : Int32)) X0 hx (hb hby own_d1_84) rfl rfl ?_
                    by_cases hc86 : p0 = (9 : Int32)
                    · rw [if_pos hc86] at hr
                      refine Run.icmpNo (pc' := 89) X0 hx (hb hby own_d1_86) (teq hc86).2 rfl ?_
                      obtain ⟨T10, X10, e10, st10⟩ := getS2 X0 hx hZ hown (host := "") (Or.inl (hw _ (List.mem_of_getElem? (i := 26) rfl))) Via.refl e0 S_SERIAL_NUMBER (g := (mkF m 89 #[.val (.int p0)] [])) rfl (hb hby own_d1_89)
                      refine Run.back (g' := (mkF m 92 #[.val (.int p0)] [(.ref a_SERIAL_NUMBER)])) st10 ?_
                      exact Run.retRef X10 hx Bd.notSynchronized Bd.returns rfl rfl (hb hby own_d1_92) ⟨by rw [hr], N0, e10⟩ (by decide) (by decide)
                    · rw [if_neg hc86] at hr
                      refine Run.icmpYes (pc' := 93) X0 hx (hb hby own_d1_86) (feq hc86).2 (by decide) (by decide) ?_
                      obtain ⟨T11, X11, e11, st11⟩ := getS2 X0 hx hZ hown (host := "") (Or.inl (hw _ (List.mem_of_getElem? (i := 38) rfl))) Via.refl e0 S_EMAIL_ADDRESS (g := (mkF m 93 #[.val (.int p0)] [])) rfl (hb hby own_d1_93)
                      refine Run.back (g' := (mkF m 96 #[.val (.int p0)] [(.ref a_EMAIL_ADDRESS)])) st11 ?_
                      exact Run.retRef X11 hx Bd.notSynchronized Bd.returns rfl rfl (hb hby own_d1_96) ⟨by rw [hr], N0, e11⟩ (by decide) (by decide)
def own_F2 (p0 : Int32) : Int32 := (if p0 = (5 : Int32) then (2 : Int32) else (1 : Int32))
theorem own_d2_0 : decode method_3_code 0 = .ok (.iload_n 0, 1) := by decide +kernel
theorem own_d2_1 : decode method_3_code 1 = .ok (.iconst 5, 1) := by decide +kernel
theorem own_d2_2 : decode method_3_code 2 = .ok (.if_icmp .ne 5, 3) := by decide +kernel
theorem own_d2_5 : decode method_3_code 5 = .ok (.iconst 2, 1) := by decide +kernel
theorem own_d2_6 : decode method_3_code 6 = .ok (.ireturn, 1) := by decide +kernel
theorem own_d2_7 : decode method_3_code 7 = .ok (.iconst 1, 1) := by decide +kernel
theorem own_d2_8 : decode method_3_code 8 = .ok (.ireturn, 1) := by decide +kernel
theorem own_ef2 (m : MethodId) (x0 : Int32) : entryFrame m #[(.int x0)] 1 = mkF m 0 #[.val (.int x0)] [] := by first | (simp [entryFrame, mkF, argsToLocals, Value.category]; done) | rfl
set_option maxRecDepth 65536 in
set_option maxHeartbeats 40000000 in
theorem rm2 (l : Launch) (Z : State) (a0 : Array Value) (hw : ∀ d ∈ tables_1, d.before a0 Z = true) (ws : List Jvm.Cond) (p0 : Int32) (h0 : Heap) (n0 : Nat) (Z0 : n0 ≤ h0.size) :
    MetFree l (⟨"com/example/certwright/certwright/x509/AttributeTypeFitsPinLaw", "low", "(I)I"⟩ : MethodName) (head1 (Jvm.Cond.code (⟨"com/example/certwright/certwright/x509/AttributeTypeFitsPinLaw", "low", "(I)I"⟩ : MethodName) method_3_code 1 (some .int) :: ws) ({ frames := 0, cells := 0, slots := 0, locals := 0 } : Room)) (fun a U => a = #[(.int p0)] ∧ Z.Warmed39 U.vm ∧ U.heap = h0) (fun _ _ _ _ _ => True) (fun _ U o U' => ∃ v L, o = .returned v ∧ (QPure n0 h0 (.int (own_F2 p0))) v U'.heap L ∧ FrameEnd U o U' L ({ frames := 0, cells := 0, slots := 0, locals := 0 } : Room).cells ({ frames := 0, cells := 0, slots := 0, locals := 0 } : Room).slots) := by
  refine MetFree.of_bodySF (plainFor_of_name own_pn0) hisR ?_
  intro p e s m args below meth c s₁ Bd hml0 hP hK
  obtain ⟨rfl, hZ, hh⟩ := hP
  have hx := Bd.exec
  have hby := Bd.bytes
  have hml : c.maxLocals = 1 := hml0
  have hown : s.vm.findClass "com/example/certwright/certwright/x509/AttributeTypeFitsPinLaw" = some m.cls := findClass_of_methodNamed Bd.named
  have hnm := (name_of_methodNamed Bd.named Bd.method).1
  have X0 : Stand p l e ({ frames := 0, cells := 0, slots := 0, locals := 0 } : Room) s m #[(.int p0)] below meth c s₁ [] 0 0 := Stand.of_body Bd
  have e0 : s₁.heap = h0 := by rw [← hh, Bd.state]; rfl
  have N0 := Fr.nil n0
  suffices H : Run p.tables e below (FinR s ({ frames := 0, cells := 0, slots := 0, locals := 0 } : Room).cells ({ frames := 0, cells := 0, slots := 0, locals := 0 } : Room).slots (QPure n0 h0 (.int (own_F2 p0)))) s₁ (mkF m 0 #[.val (.int p0)] []) by
    obtain ⟨s₂, o, k1, k2, k3, k4⟩ := H
    exact ⟨s₂, o, castTop (own_ef2 m p0) k1, k2, k3, k4⟩
  obtain ⟨r, hr⟩ : ∃ r, r = own_F2 p0 := ⟨_, rfl⟩
  rw [← hr]
  rw [own_F2] at hr
  refine Run.iloadN (pc' := 1) X0 hx (hb hby own_d2_0) rfl rfl ?_
  refine Run.iconst (pc' := 2) (v := (5 : Int32)) X0 hx (hb hby own_d2_1) rfl rfl ?_
  by_cases hc2 : p0 = (5 : Int32)
  · rw [if_pos hc2] at hr
    refine Run.icmpNo (pc' := 5) X0 hx (hb hby own_d2_2) (teq hc2).2 rfl ?_
    refine Run.iconst (pc' := 6) (v := (2 : Int32)) X0 hx (hb hby own_d2_5) rfl rfl ?_
    exact Run.retInt X0 hx Bd.notSynchronized Bd.returns (hb hby own_d2_6) ⟨by rw [hr], N0, e0⟩ (by decide) (by decide)
  · rw [if_neg hc2] at hr
    refine Run.icmpYes (pc' := 7) X0 hx (hb hby own_d2_2) (feq hc2).2 (by decide) (by decide) ?_
    refine Run.iconst (pc' := 8) (v := (1 : Int32)) X0 hx (hb hby own_d2_7) rfl rfl ?_
    exact Run.retInt X0 hx Bd.notSynchronized Bd.returns (hb hby own_d2_8) ⟨by rw [hr], N0, e0⟩ (by decide) (by decide)
def own_f3_39 (p0 : Int32) : Int32 := (2147483647 : Int32)
def own_f3_10 (p0 : Int32) : Int32 := (128 : Int32)
def own_F3 (p0 : Int32) : Int32 := (if p0 = (1 : Int32) then (own_f3_10 p0) else (if p0 = (2 : Int32) then (own_f3_10 p0) else (if p0 = (5 : Int32) then (2 : Int32) else (if p0 = (6 : Int32) then (own_f3_39 p0) else (if p0 = (7 : Int32) then (own_f3_39 p0) else (if p0 = (8 : Int32) then (own_f3_39 p0) else (if p0 = (10 : Int32) then (255 : Int32) else (64 : Int32))))))))
theorem own_d3_0 : decode method_4_code 0 = .ok (.iload_n 0, 1) := by decide +kernel
theorem own_d3_1 : decode method_4_code 1 = .ok (.iconst 1, 1) := by decide +kernel
theorem own_d3_2 : decode method_4_code 2 = .ok (.if_icmp .eq 8, 3) := by decide +kernel
theorem own_d3_5 : decode method_4_code 5 = .ok (.iload_n 0, 1) := by decide +kernel
theorem own_d3_6 : decode method_4_code 6 = .ok (.iconst 2, 1) := by decide +kernel
theorem own_d3_7 : decode method_4_code 7 = .ok (.if_icmp .ne 7, 3) := by decide +kernel
theorem own_d3_10 : decode method_4_code 10 = .ok (.sipush 128, 3) := by decide +kernel
theorem own_d3_13 : decode method_4_code 13 = .ok (.ireturn, 1) := by decide +kernel
theorem own_d3_14 : decode method_4_code 14 = .ok (.iload_n 0, 1) := by decide +kernel
theorem own_d3_15 : decode method_4_code 15 = .ok (.iconst 5, 1) := by decide +kernel
theorem own_d3_16 : decode method_4_code 16 = .ok (.if_icmp .ne 5, 3) := by decide +kernel
theorem own_d3_19 : decode method_4_code 19 = .ok (.iconst 2, 1) := by decide +kernel
theorem own_d3_20 : decode method_4_code 20 = .ok (.ireturn, 1) := by decide +kernel
theorem own_d3_21 : decode method_4_code 21 = .ok (.iload_n 0, 1) := by decide +kernel
theorem own_d3_22 : decode method_4_code 22 = .ok (.bipush 6, 2) := by decide +kernel
theorem own_d3_24 : decode method_4_code 24 = .ok (.if_icmp .eq 15, 3) := by decide +kernel
theorem own_d3_27 : decode method_4_code 27 = .ok (.iload_n 0, 1) := by decide +kernel
theorem own_d3_28 : decode method_4_code 28 = .ok (.bipush 7, 2) := by decide +kernel
theorem own_d3_30 : decode method_4_code 30 = .ok (.if_icmp .eq 9, 3) := by decide +kernel
theorem own_d3_33 : decode method_4_code 33 = .ok (.iload_n 0, 1) := by decide +kernel
theorem own_d3_34 : decode method_4_code 34 = .ok (.bipush 8, 2) := by decide +kernel
theorem own_d3_36 : decode method_4_code 36 = .ok (.if_icmp .ne 6, 3) := by decide +kernel
theorem own_d3_39 : decode method_4_code 39 = .ok (.ldc 45, 2) := by decide +kernel
theorem own_d3_41 : decode method_4_code 41 = .ok (.ireturn, 1) := by decide +kernel
theorem own_d3_42 : decode method_4_code 42 = .ok (.iload_n 0, 1) := by decide +kernel
theorem own_d3_43 : decode method_4_code 43 = .ok (.bipush 10, 2) := by decide +kernel
theorem own_d3_45 : decode method_4_code 45 = .ok (.if_icmp .ne 7, 3) := by decide +kernel
theorem own_d3_48 : decode method_4_code 48 = .ok (.sipush 255, 3) := by decide +kernel
theorem own_d3_51 : decode method_4_code 51 = .ok (.ireturn, 1) := by decide +kernel
theorem own_d3_52 : decode method_4_code 52 = .ok (.bipush 64, 2) := by decide +kernel
theorem own_d3_54 : decode method_4_code 54 = .ok (.ireturn, 1) := by decide +kernel
theorem own_ef3 (m : MethodId) (x0 : Int32) : entryFrame m #[(.int x0)] 1 = mkF m 0 #[.val (.int x0)] [] := by first | (simp [entryFrame, mkF, argsToLocals, Value.category]; done) | rfl
set_option maxRecDepth 65536 in
set_option maxHeartbeats 40000000 in
theorem rm3 (l : Launch) (Z : State) (a0 : Array Value) (hw : ∀ d ∈ tables_1, d.before a0 Z = true) (ws : List Jvm.Cond) (p0 : Int32) (h0 : Heap) (n0 : Nat) (Z0 : n0 ≤ h0.size) :
    MetFree l (⟨"com/example/certwright/certwright/x509/AttributeTypeFitsPinLaw", "high", "(I)I"⟩ : MethodName) (head1 (Jvm.Cond.code (⟨"com/example/certwright/certwright/x509/AttributeTypeFitsPinLaw", "high", "(I)I"⟩ : MethodName) method_4_code 1 (some .int) :: ws) ({ frames := 0, cells := 0, slots := 0, locals := 0 } : Room)) (fun a U => a = #[(.int p0)] ∧ Z.Warmed39 U.vm ∧ U.heap = h0) (fun _ _ _ _ _ => True) (fun _ U o U' => ∃ v L, o = .returned v ∧ (QPure n0 h0 (.int (own_F3 p0))) v U'.heap L ∧ FrameEnd U o U' L ({ frames := 0, cells := 0, slots := 0, locals := 0 } : Room).cells ({ frames := 0, cells := 0, slots := 0, locals := 0 } : Room).slots) := by
  refine MetFree.of_bodySF (plainFor_of_name own_pn0) hisR ?_
  intro p e s m args below meth c s₁ Bd hml0 hP hK
  obtain ⟨rfl, hZ, hh⟩ := hP
  have hx := Bd.exec
  have hby := Bd.bytes
  have hml : c.maxLocals = 1 := hml0
  have hown : s.vm.findClass "com/example/certwright/certwright/x509/AttributeTypeFitsPinLaw" = some m.cls := findClass_of_methodNamed Bd.named
  have hnm := (name_of_methodNamed Bd.named Bd.method).1
  have X0 : Stand p l e ({ frames := 0, cells := 0, slots := 0, locals := 0 } : Room) s m #[(.int p0)] below meth c s₁ [] 0 0 := Stand.of_body Bd
  have e0 : s₁.heap = h0 := by rw [← hh, Bd.state]; rfl
  have N0 := Fr.nil n0
  suffices H : Run p.tables e below (FinR s ({ frames := 0, cells := 0, slots := 0, locals := 0 } : Room).cells ({ frames := 0, cells := 0, slots := 0, locals := 0 } : Room).slots (QPure n0 h0 (.int (own_F3 p0)))) s₁ (mkF m 0 #[.val (.int p0)] []) by
    obtain ⟨s₂, o, k1, k2, k3, k4⟩ := H
    exact ⟨s₂, o, castTop (own_ef3 m p0) k1, k2, k3, k4⟩
  obtain ⟨r, hr⟩ : ∃ r, r = own_F3 p0 := ⟨_, rfl⟩
  rw [← hr]
  have J39 : ∀  (r : Int32), r = (own_f3_39 p0) → ∀ (T : State) (locs : List Loc), Stand p l e ({ frames := 0, cells := 0, slots := 0, locals := 0 } : Room) s m #[(.int p0)] below meth c T locs 0 0 → T.heap = h0 → Fr n0 locs → Run p.tables e below (FinR s ({ frames := 0, cells := 0, slots := 0, locals := 0 } : Room).cells ({ frames := 0, cells := 0, slots := 0, locals := 0 } : Room).slots (QPure n0 h0 (.int r))) T (mkF m 39 #[.val (.int p0)] []) := by
    clear hr
    intro  r hr T locs X eT N
    rw [own_f3_39] at hr
    refine Run.ldcInt (pc' := 41) (v := (2147483647 : Int32)) X hx hown (mvT hZ (hw _ (List.mem_of_getElem? (i := 0) rfl))) (hb hby own_d3_39) rfl ?_
    exact Run.retInt X hx Bd.notSynchronized Bd.returns (hb hby own_d3_41) ⟨by rw [hr], N, eT⟩ (by decide) (by decide)
  have J10 : ∀  (r : Int32), r = (own_f3_10 p0) → ∀ (T : State) (locs : List Loc), Stand p l e ({ frames := 0, cells := 0, slots := 0, locals := 0 } : Room) s m #[(.int p0)] below meth c T locs 0 0 → T.heap = h0 → Fr n0 locs → Run p.tables e below (FinR s ({ frames := 0, cells := 0, slots := 0, locals := 0 } : Room).cells ({ frames := 0, cells := 0, slots := 0, locals := 0 } : Room).slots (QPure n0 h0 (.int r))) T (mkF m 10 #[.val (.int p0)] []) := by
    clear hr
    intro  r hr T locs X eT N
    rw [own_f3_10] at hr
    refine Run.sipush (pc' := 13) (v := (128 : Int32)) X hx (hb hby own_d3_10) rfl rfl ?_
    exact Run.retInt X hx Bd.notSynchronized Bd.returns (hb hby own_d3_13) ⟨by rw [hr], N, eT⟩ (by decide) (by decide)
  rw [own_F3] at hr
  refine Run.iloadN (pc' := 1) X0 hx (hb hby own_d3_0) rfl rfl ?_
  refine Run.iconst (pc' := 2) (v := (1 : Int32)) X0 hx (hb hby own_d3_1) rfl rfl ?_
  by_cases hc2 : p0 = (1 : Int32)
  · rw [if_pos hc2] at hr
    refine Run.icmpYes (pc' := 10) X0 hx (hb hby own_d3_2) (teq hc2).1 (by decide) (by decide) ?_
    exact J10  _ hr _ _ X0 e0 N0
  · rw [if_neg hc2] at hr
    refine Run.icmpNo (pc' := 5) X0 hx (hb hby own_d3_2) (feq hc2).1 rfl ?_
    refine Run.iloadN (pc' := 6) X0 hx (hb hby own_d3_5) rfl rfl ?_
    refine Run.iconst (pc' := 7) (v := (2 : Int32)) X0 hx (hb hby own_d3_6) rfl rfl ?_
    by_cases hc7 : p0 = (2 : Int32)
    · rw [if_pos hc7] at hr
      refine Run.icmpNo (pc' := 10) X0 hx (hb hby own_d3_7) (teq hc7).2 rfl ?_
      exact J10  _ hr _ _ X0 e0 N0
    · rw [if_neg hc7] at hr
      refine Run.icmpYes (pc' := 14) X0 hx (hb hby own_d3_7) (feq hc7).2 (by decide) (by decide) ?_
      refine Run.iloadN (pc' := 15) X0 hx (hb hby own_d3_14) rfl rfl ?_
      refine Run.iconst (pc' := 16) (v := (5 : Int32)) X0 hx (hb hby own_d3_15) rfl rfl ?_
      by_cases hc16 : p0 = (5 : Int32)
      · rw [if_pos hc16] at hr
        refine Run.icmpNo (pc' := 19) X0 hx (hb hby own_d3_16) (teq hc16).2 rfl ?_
        refine Run.iconst (pc' := 20) (v := (2 : Int32)) X0 hx (hb hby own_d3_19) rfl rfl ?_
        exact Run.retInt X0 hx Bd.notSynchronized Bd.returns (hb hby own_d3_20) ⟨by rw [hr], N0, e0⟩ (by decide) (by decide)
      · rw [if_neg hc16] at hr
        refine Run.icmpYes (pc' := 21) X0 hx (hb hby own_d3_16) (feq hc16).2 (by decide) (by decide) ?_
        refine Run.iloadN (pc' := 22) X0 hx (hb hby own_d3_21) rfl rfl ?_
        refine Run.bipush (pc' := 24) (v := (6 : Int32)) X0 hx (hb hby own_d3_22) rfl rfl ?_
        by_cases hc24 : p0 = (6 : Int32)
        · rw [if_pos hc24] at hr
          refine Run.icmpYes (pc' := 39) X0 hx (hb hby own_d3_24) (teq hc24).1 (by decide) (by decide) ?_
          exact J39  _ hr _ _ X0 e0 N0
        · rw [if_neg hc24] at hr
          refine Run.icmpNo (pc' := 27) X0 hx (hb hby own_d3_24) (feq hc24).1 rfl ?_
          refine Run.iloadN (pc' := 28) X0 hx (hb hby own_d3_27) rfl rfl ?_
          refine Run.bipush (pc' := 30) (v := (7 : Int32)) X0 hx (hb hby own_d3_28) rfl rfl ?_
          by_cases hc30 : p0 = (7 : Int32)
          · rw [if_pos hc30] at hr
            refine Run.icmpYes (pc' := 39) X0 hx (hb hby own_d3_30) (teq hc30).1 (by decide) (by decide) ?_
            exact J39  _ hr _ _ X0 e0 N0
          · rw [if_neg hc30] at hr
            refine Run.icmpNo (pc' := 33) X0 hx (hb hby own_d3_30) (feq hc30).1 rfl ?_
            refine Run.iloadN (pc' := 34) X0 hx (hb hby own_d3_33) rfl rfl ?_
            refine Run.bipush (pc' := 36) (v := (8 : Int32)) X0 hx (hb hby own_d3_34) rfl rfl ?_
            by_cases hc36 : p0 = (8 : Int32)
            · rw [if_pos hc36] at hr
              refine Run.icmpNo (pc' := 39) X0 hx (hb hby own_d3_36) (teq hc36).2 rfl ?_
              exact J39  _ hr _ _ X0 e0 N0
            · rw [if_neg hc36] at hr
              refine Run.icmpYes (pc' := 42) X0 hx (hb hby own_d3_36) (feq hc36).2 (by decide) (by decide) ?_
              refine Run.iloadN (pc' := 43) X0 hx (hb hby own_d3_42) rfl rfl ?_
              refine Run.bipush (pc' := 45) (v := (10 : Int32)) X0 hx (hb hby own_d3_43) rfl rfl ?_
              by_cases hc45 : p0 = (10 : Int32)
              · rw [if_pos hc45] at hr
                refine Run.icmpNo (pc' := 48) X0 hx (hb hby own_d3_45) (teq hc45).2 rfl ?_
                refine Run.sipush (pc' := 51) (v := (255 : Int32)) X0 hx (hb hby own_d3_48) rfl rfl ?_
                exact Run.retInt X0 hx Bd.notSynchronized Bd.returns (hb hby own_d3_51) ⟨by rw [hr], N0, e0⟩ (by decide) (by decide)
              · rw [if_neg hc45] at hr
                refine Run.icmpYes (pc' := 52) X0 hx (hb hby own_d3_45) (feq hc45).2 (by decide) (by decide) ?_
                refine Run.bipush (pc' := 54) (v := (64 : Int32)) X0 hx (hb hby own_d3_52) rfl rfl ?_
                exact Run.retInt X0 hx Bd.notSynchronized Bd.returns (hb hby own_d3_54) ⟨by rw [hr], N0, e0⟩ (by decide) (by decide)
def own_f4_21 (o0 : Addr) (p1 : Int32) (mn : Int32) (mx : Int32) (y21_0 : Int32) : Int32 := (y21_0 &&& 1)
def own_f4_20 (o0 : Addr) (p1 : Int32) (mn : Int32) (mx : Int32) : Int32 := (own_f4_21 o0 p1 mn mx (0 : Int32))
def own_F4 (o0 : Addr) (p1 : Int32) (mn : Int32) (mx : Int32) : Int32 := (if p1 < mn then (own_f4_20 o0 p1 mn mx) else (if mx < p1 then (own_f4_20 o0 p1 mn mx) else (own_f4_21 o0 p1 mn mx (1 : Int32))))
theorem own_d4_0 : decode prog_70_method_9_code 0 = .ok (.iload_n 1, 1) := by decide +kernel
theorem own_d4_1 : decode prog_70_method_9_code 1 = .ok (.aload_n 0, 1) := by decide +kernel
theorem own_d4_2 : decode prog_70_method_9_code 2 = .ok (.getfield 67, 3) := by decide +kernel
theorem own_d4_5 : decode prog_70_method_9_code 5 = .ok (.if_icmp .lt 15, 3) := by decide +kernel
theorem own_d4_8 : decode prog_70_method_9_code 8 = .ok (.iload_n 1, 1) := by decide +kernel
theorem own_d4_9 : decode prog_70_method_9_code 9 = .ok (.aload_n 0, 1) := by decide +kernel
theorem own_d4_10 : decode prog_70_method_9_code 10 = .ok (.getfield 70, 3) := by decide +kernel
theorem own_d4_13 : decode prog_70_method_9_code 13 = .ok (.if_icmp .gt 7, 3) := by decide +kernel
theorem own_d4_16 : decode prog_70_method_9_code 16 = .ok (.iconst 1, 1) := by decide +kernel
theorem own_d4_17 : decode prog_70_method_9_code 17 = .ok (.goto 4, 3) := by decide +kernel
theorem own_d4_20 : decode prog_70_method_9_code 20 = .ok (.iconst 0, 1) := by decide +kernel
theorem own_d4_21 : decode prog_70_method_9_code 21 = .ok (.ireturn, 1) := by decide +kernel
theorem own_ef4 (m : MethodId) (x0 : Addr) (x1 : Int32) : entryFrame m #[(.ref x0), (.int x1)] 2 = mkF m 0 #[.val (.ref x0), .val (.int x1)] [] := by first | (simp [entryFrame, mkF, argsToLocals, Value.category]; done) | rfl
set_option maxRecDepth 65536 in
set_option maxHeartbeats 40000000 in
theorem rm4 (l : Launch) (Z : State) (a0 : Array Value) (hw : ∀ d ∈ tables_1, d.before a0 Z = true) (ws : List Jvm.Cond) (o0 : Addr) (p1 : Int32) (mn : Int32) (mx : Int32) (h0 : Heap) (n0 : Nat) (Z0 : n0 ≤ h0.size) (F_n : Fld Z h0 o0 "com/example/certwright/certwright/x509/AttributeType" "minLength" "I" (.int mn)) (F_x : Fld Z h0 o0 "com/example/certwright/certwright/x509/AttributeType" "maxLength" "I" (.int mx)) :
    MetFree l (⟨"com/example/certwright/certwright/x509/AttributeType", "fits", "(I)Z"⟩ : MethodName) (head1 (Jvm.Cond.code (⟨"com/example/certwright/certwright/x509/AttributeType", "fits", "(I)Z"⟩ : MethodName) prog_70_method_9_code 2 (some .boolean) :: ws) ({ frames := 0, cells := 0, slots := 0, locals := 0 } : Room)) (fun a U => a = #[(.ref o0), (.int p1)] ∧ Z.Warmed39 U.vm ∧ U.heap = h0) (fun _ _ _ _ _ => True) (fun _ U o U' => ∃ v L, o = .returned v ∧ (QPure n0 h0 (.int (own_F4 o0 p1 mn mx))) v U'.heap L ∧ FrameEnd U o U' L ({ frames := 0, cells := 0, slots := 0, locals := 0 } : Room).cells ({ frames := 0, cells := 0, slots := 0, locals := 0 } : Room).slots) := by
  refine MetFree.of_bodySF (plainFor_of_name own_pn1) hisR ?_
  intro p e s m args below meth c s₁ Bd hml0 hP hK
  obtain ⟨rfl, hZ, hh⟩ := hP
  have hx := Bd.exec
  have hby := Bd.bytes
  have hml : c.maxLocals = 2 := hml0
  have hown : s.vm.findClass "com/example/certwright/certwright/x509/AttributeType" = some m.cls := findClass_of_methodNamed Bd.named
  have hnm := (name_of_methodNamed Bd.named Bd.method).1
  have X0 : Stand p l e ({ frames := 0, cells := 0, slots := 0, locals := 0 } : Room) s m #[(.ref o0), (.int p1)] below meth c s₁ [] 0 0 := Stand.of_body Bd
  have e0 : s₁.heap = h0 := by rw [← hh, Bd.state]; rfl
  have N0 := Fr.nil n0
  suffices H : Run p.tables e below (FinR s ({ frames := 0, cells := 0, slots := 0, locals := 0 } : Room).cells ({ frames := 0, cells := 0, slots := 0, locals := 0 } : Room).slots (QPure n0 h0 (.int (own_F4 o0 p1 mn mx)))) s₁ (mkF m 0 #[.val (.ref o0), .val (.int p1)] []) by
    obtain ⟨s₂, o, k1, k2, k3, k4⟩ := H
    exact ⟨s₂, o, castTop (own_ef4 m o0 p1) k1, k2, k3, k4⟩
  obtain ⟨r, hr⟩ : ∃ r, r = own_F4 o0 p1 mn mx := ⟨_, rfl⟩
  rw [← hr]
  have J21 : ∀ (y21_0 : Int32) (r : Int32), r = (own_f4_21 o0 p1 mn mx y21_0) → ∀ (T : State) (locs : List Loc), Stand p l e ({ frames := 0, cells := 0, slots := 0, locals := 0 } : Room) s m #[(.ref o0), (.int p1)] below meth c T locs 0 0 → T.heap = h0 → Fr n0 locs → Run p.tables e below (FinR s ({ frames := 0, cells := 0, slots := 0, locals := 0 } : Room).cells ({ frames := 0, cells := 0, slots := 0, locals := 0 } : Room).slots (QPure n0 h0 (.int r))) T (mkF m 21 #[.val (.ref o0), .val (.int p1)] [(.int y21_0)]) := by
    clear hr
    intro y21_0 r hr T locs X eT N
    rw [own_f4_21] at hr
    exact Run.retSmall X hx (t := .boolean) (z' := (y21_0 &&& 1)) Bd.notSynchronized Bd.returns (by simp) rfl (hb hby own_d4_21) ⟨by rw [hr], N, eT⟩ (by decide) (by decide)
  have J20 : ∀  (r : Int32), r = (own_f4_20 o0 p1 mn mx) → ∀ (T : State) (locs : List Loc), Stand p l e ({ frames := 0, cells := 0, slots := 0, locals := 0 } : Room) s m #[(.ref o0), (.int p1)] below meth c T locs 0 0 → T.heap = h0 → Fr n0 locs → Run p.tables e below (FinR s ({ frames := 0, cells := 0, slots := 0, locals := 0 } : Room).cells ({ frames := 0, cells := 0, slots := 0, locals := 0 } : Room).slots (QPure n0 h0 (.int r))) T (mkF m 20 #[.val (.ref o0), .val (.int p1)] []) := by
    clear hr
    intro  r hr T locs X eT N
    rw [own_f4_20] at hr
    refine Run.iconst (pc' := 21) (v := (0 : Int32)) X hx (hb hby own_d4_20) rfl rfl ?_
    exact J21 (0 : Int32) _ hr _ _ X eT N
  rw [own_F4] at hr
  refine Run.iloadN (pc' := 1) X0 hx (hb hby own_d4_0) rfl rfl ?_
  refine Run.aloadN (pc' := 2) X0 hx (hb hby own_d4_1) rfl rfl ?_
  obtain ⟨T1, X1, e1, st1⟩ := getF X0 hx hZ hown (host := "") (Or.inl (hw _ (List.mem_of_getElem? (i := 19) rfl))) Via.refl e0 F_n (g := (mkF m 2 #[.val (.ref o0), .val (.int p1)] [(.ref o0), (.int p1)])) rfl rfl (hb hby own_d4_2)
  refine Run.back (g' := (mkF m 5 #[.val (.ref o0), .val (.int p1)] [(.int mn), (.int p1)])) st1 ?_
  by_cases hc5 : p1 < mn
  · rw [if_pos hc5] at hr
    refine Run.icmpYes (pc' := 20) X1 hx (hb hby own_d4_5) (tlt hc5).1 (by decide) (by decide) ?_
    exact J20  _ hr _ _ X1 e1 N0
  · rw [if_neg hc5] at hr
    refine Run.icmpNo (pc' := 8) X1 hx (hb hby own_d4_5) (flt hc5).1 rfl ?_
    refine Run.iloadN (pc' := 9) X1 hx (hb hby own_d4_8) rfl rfl ?_
    refine Run.aloadN (pc' := 10) X1 hx (hb hby own_d4_9) rfl rfl ?_
    obtain ⟨T2, X2, e2, st2⟩ := getF X1 hx hZ hown (host := "") (Or.inl (hw _ (List.mem_of_getElem? (i := 21) rfl))) Via.refl e1 F_x (g := (mkF m 10 #[.val (.ref o0), .val (.int p1)] [(.ref o0), (.int p1)])) rfl rfl (hb hby own_d4_10)
    refine Run.back (g' := (mkF m 13 #[.val (.ref o0), .val (.int p1)] [(.int mx), (.int p1)])) st2 ?_
    by_cases hc13 : mx < p1
    · rw [if_pos hc13] at hr
      refine Run.icmpYes (pc' := 20) X2 hx (hb hby own_d4_13) (tlt hc13).2.2.1 (by decide) (by decide) ?_
      exact J20  _ hr _ _ X2 e2 N0
    · rw [if_neg hc13] at hr
      refine Run.icmpNo (pc' := 16) X2 hx (hb hby own_d4_13) (flt hc13).2.2.1 rfl ?_
      refine Run.iconst (pc' := 17) (v := (1 : Int32)) X2 hx (hb hby own_d4_16) rfl rfl ?_
      refine Run.goto (pc' := 21) X2 hx (hb hby own_d4_17) (by decide) (by decide) ?_
      exact J21 (1 : Int32) _ hr _ _ X2 e2 N0
theorem own_k (p0 : Int32) : ((p0 &&& (2147483647 : Int32)) % (11 : Int32)) = 0 ∨ ((p0 &&& (2147483647 : Int32)) % (11 : Int32)) = 1 ∨ ((p0 &&& (2147483647 : Int32)) % (11 : Int32)) = 2 ∨ ((p0 &&& (2147483647 : Int32)) % (11 : Int32)) = 3 ∨ ((p0 &&& (2147483647 : Int32)) % (11 : Int32)) = 4 ∨ ((p0 &&& (2147483647 : Int32)) % (11 : Int32)) = 5 ∨ ((p0 &&& (2147483647 : Int32)) % (11 : Int32)) = 6 ∨ ((p0 &&& (2147483647 : Int32)) % (11 : Int32)) = 7 ∨ ((p0 &&& (2147483647 : Int32)) % (11 : Int32)) = 8 ∨ ((p0 &&& (2147483647 : Int32)) % (11 : Int32)) = 9 ∨ ((p0 &&& (2147483647 : Int32)) % (11 : Int32)) = 10 := by
  have h1 := c_and p0 2147483647 (by decide)
  have h2 := (c_irem (p0 &&& 2147483647) 11 11 (by decide)).1 h1.1
  simp only [← Int32.toInt_inj]
  have e0 : (0 : Int32).toInt = 0 := rfl
  have e1 : (1 : Int32).toInt = 1 := rfl
  have e2 : (2 : Int32).toInt = 2 := rfl
  have e3 : (3 : Int32).toInt = 3 := rfl
  have e4 : (4 : Int32).toInt = 4 := rfl
  have e5 : (5 : Int32).toInt = 5 := rfl
  have e6 : (6 : Int32).toInt = 6 := rfl
  have e7 : (7 : Int32).toInt = 7 := rfl
  have e8 : (8 : Int32).toInt = 8 := rfl
  have e9 : (9 : Int32).toInt = 9 := rfl
  have e10 : (10 : Int32).toInt = 10 := rfl
  omega

theorem own_ef0 (m : MethodId) (x0 : Int32) (x1 : Int32) : entryFrame m #[(.int x0), (.int x1)] maxLocals = mkF m 0 #[.val (.int x0), .val (.int x1), .unset, .unset, .unset, .unset, .unset, .unset, .unset, .unset, .unset, .unset] [] := by first | (simp [entryFrame, mkF, argsToLocals, Value.category, maxLocals]; done) | rfl
set_option maxRecDepth 65536 in
set_option maxHeartbeats 40000000 in
theorem rm0 (l : Launch) (Z : State) (a0 : Array Value) (hw : ∀ d ∈ tables_1, d.before a0 Z = true) (ws : List Jvm.Cond) (p0 : Int32) (p1 : Int32) (a_COMMON_NAME : Addr) (a_LOCALITY : Addr) (a_STATE_OR_PROVINCE : Addr) (a_ORGANIZATION : Addr) (a_ORGANIZATIONAL_UNIT : Addr) (a_COUNTRY : Addr) (a_STREET : Addr) (a_DOMAIN_COMPONENT : Addr) (a_USER_ID : Addr) (a_SERIAL_NUMBER : Addr) (a_EMAIL_ADDRESS : Addr) (h0 : Heap) (n0 : Nat) (Z0 : n0 ≤ h0.size) (S_COMMON_NAME : Sta Z h0 "com/example/certwright/certwright/x509/AttributeType" "COMMON_NAME" "Lcom/example/certwright/certwright/x509/AttributeType;" (.ref a_COMMON_NAME)) (S_LOCALITY : Sta Z h0 "com/example/certwright/certwright/x509/AttributeType" "LOCALITY" "Lcom/example/certwright/certwright/x509/AttributeType;" (.ref a_LOCALITY)) (S_STATE_OR_PROVINCE : Sta Z h0 "com/example/certwright/certwright/x509/AttributeType" "STATE_OR_PROVINCE" "Lcom/example/certwright/certwright/x509/AttributeType;" (.ref a_STATE_OR_PROVINCE)) (S_ORGANIZATION : Sta Z h0 "com/example/certwright/certwright/x509/AttributeType" "ORGANIZATION" "Lcom/example/certwright/certwright/x509/AttributeType;" (.ref a_ORGANIZATION)) (S_ORGANIZATIONAL_UNIT : Sta Z h0 "com/example/certwright/certwright/x509/AttributeType" "ORGANIZATIONAL_UNIT" "Lcom/example/certwright/certwright/x509/AttributeType;" (.ref a_ORGANIZATIONAL_UNIT)) (S_COUNTRY : Sta Z h0 "com/example/certwright/certwright/x509/AttributeType" "COUNTRY" "Lcom/example/certwright/certwright/x509/AttributeType;" (.ref a_COUNTRY)) (S_STREET : Sta Z h0 "com/example/certwright/certwright/x509/AttributeType" "STREET" "Lcom/example/certwright/certwright/x509/AttributeType;" (.ref a_STREET)) (S_DOMAIN_COMPONENT : Sta Z h0 "com/example/certwright/certwright/x509/AttributeType" "DOMAIN_COMPONENT" "Lcom/example/certwright/certwright/x509/AttributeType;" (.ref a_DOMAIN_COMPONENT)) (S_USER_ID : Sta Z h0 "com/example/certwright/certwright/x509/AttributeType" "USER_ID" "Lcom/example/certwright/certwright/x509/AttributeType;" (.ref a_USER_ID)) (S_SERIAL_NUMBER : Sta Z h0 "com/example/certwright/certwright/x509/AttributeType" "SERIAL_NUMBER" "Lcom/example/certwright/certwright/x509/AttributeType;" (.ref a_SERIAL_NUMBER)) (S_EMAIL_ADDRESS : Sta Z h0 "com/example/certwright/certwright/x509/AttributeType" "EMAIL_ADDRESS" "Lcom/example/certwright/certwright/x509/AttributeType;" (.ref a_EMAIL_ADDRESS)) (E_COMMON_NAME : Exa Z h0 a_COMMON_NAME "com/example/certwright/certwright/x509/AttributeType") (E_LOCALITY : Exa Z h0 a_LOCALITY "com/example/certwright/certwright/x509/AttributeType") (E_STATE_OR_PROVINCE : Exa Z h0 a_STATE_OR_PROVINCE "com/example/certwright/certwright/x509/AttributeType") (E_ORGANIZATION : Exa Z h0 a_ORGANIZATION "com/example/certwright/certwright/x509/AttributeType") (E_ORGANIZATIONAL_UNIT : Exa Z h0 a_ORGANIZATIONAL_UNIT "com/example/certwright/certwright/x509/AttributeType") (E_COUNTRY : Exa Z h0 a_COUNTRY "com/example/certwright/certwright/x509/AttributeType") (E_STREET : Exa Z h0 a_STREET "com/example/certwright/certwright/x509/AttributeType") (E_DOMAIN_COMPONENT : Exa Z h0 a_DOMAIN_COMPONENT "com/example/certwright/certwright/x509/AttributeType") (E_USER_ID : Exa Z h0 a_USER_ID "com/example/certwright/certwright/x509/AttributeType") (E_SERIAL_NUMBER : Exa Z h0 a_SERIAL_NUMBER "com/example/certwright/certwright/x509/AttributeType") (E_EMAIL_ADDRESS : Exa Z h0 a_EMAIL_ADDRESS "com/example/certwright/certwright/x509/AttributeType") (F_COMMON_NAME_minLength : Fld Z h0 a_COMMON_NAME "com/example/certwright/certwright/x509/AttributeType" "minLength" "I" (.int (1 : Int32))) (F_COMMON_NAME_maxLength : Fld Z h0 a_COMMON_NAME "com/example/certwright/certwright/x509/AttributeType" "maxLength" "I" (.int (64 : Int32))) (F_LOCALITY_minLength : Fld Z h0 a_LOCALITY "com/example/certwright/certwright/x509/AttributeType" "minLength" "I" (.int (1 : Int32))) (F_LOCALITY_maxLength : Fld Z h0 a_LOCALITY "com/example/certwright/certwright/x509/AttributeType" "maxLength" "I" (.int (128 : Int32))) (F_STATE_OR_PROVINCE_minLength : Fld Z h0 a_STATE_OR_PROVINCE "com/example/certwright/certwright/x509/AttributeType" "minLength" "I" (.int (1 : Int32))) (F_STATE_OR_PROVINCE_maxLength : Fld Z h0 a_STATE_OR_PROVINCE "com/example/certwright/certwright/x509/AttributeType" "maxLength" "I" (.int (128 : Int32))) (F_ORGANIZATION_minLength : Fld Z h0 a_ORGANIZATION "com/example/certwright/certwright/x509/AttributeType" "minLength" "I" (.int (1 : Int32))) (F_ORGANIZATION_maxLength : Fld Z h0 a_ORGANIZATION "com/example/certwright/certwright/x509/AttributeType" "maxLength" "I" (.int (64 : Int32))) (F_ORGANIZATIONAL_UNIT_minLength : Fld Z h0 a_ORGANIZATIONAL_UNIT "com/example/certwright/certwright/x509/AttributeType" "minLength" "I" (.int (1 : Int32))) (F_ORGANIZATIONAL_UNIT_maxLength : Fld Z h0 a_ORGANIZATIONAL_UNIT "com/example/certwright/certwright/x509/AttributeType" "maxLength" "I" (.int (64 : Int32))) (F_COUNTRY_minLength : Fld Z h0 a_COUNTRY "com/example/certwright/certwright/x509/AttributeType" "minLength" "I" (.int (2 : Int32))) (F_COUNTRY_maxLength : Fld Z h0 a_COUNTRY "com/example/certwright/certwright/x509/AttributeType" "maxLength" "I" (.int (2 : Int32))) (F_STREET_minLength : Fld Z h0 a_STREET "com/example/certwright/certwright/x509/AttributeType" "minLength" "I" (.int (1 : Int32))) (F_STREET_maxLength : Fld Z h0 a_STREET "com/example/certwright/certwright/x509/AttributeType" "maxLength" "I" (.int (2147483647 : Int32))) (F_DOMAIN_COMPONENT_minLength : Fld Z h0 a_DOMAIN_COMPONENT "com/example/certwright/certwright/x509/AttributeType" "minLength" "I" (.int (1 : Int32))) (F_DOMAIN_COMPONENT_maxLength : Fld Z h0 a_DOMAIN_COMPONENT "com/example/certwright/certwright/x509/AttributeType" "maxLength" "I" (.int (2147483647 : Int32))) (F_USER_ID_minLength : Fld Z h0 a_USER_ID "com/example/certwright/certwright/x509/AttributeType" "minLength" "I" (.int (1 : Int32))) (F_USER_ID_maxLength : Fld Z h0 a_USER_ID "com/example/certwright/certwright/x509/AttributeType" "maxLength" "I" (.int (2147483647 : Int32))) (F_SERIAL_NUMBER_minLength : Fld Z h0 a_SERIAL_NUMBER "com/example/certwright/certwright/x509/AttributeType" "minLength" "I" (.int (1 : Int32))) (F_SERIAL_NUMBER_maxLength : Fld Z h0 a_SERIAL_NUMBER "com/example/certwright/certwright/x509/AttributeType" "maxLength" "I" (.int (64 : Int32))) (F_EMAIL_ADDRESS_minLength : Fld Z h0 a_EMAIL_ADDRESS "com/example/certwright/certwright/x509/AttributeType" "minLength" "I" (.int (1 : Int32))) (F_EMAIL_ADDRESS_maxLength : Fld Z h0 a_EMAIL_ADDRESS "com/example/certwright/certwright/x509/AttributeType" "maxLength" "I" (.int (255 : Int32))) :
    MetFree l x (head1 (Jvm.Cond.code x code maxLocals ret :: ws) room_1) (fun a U => a = #[(.int p0), (.int p1)] ∧ Z.Warmed39 U.vm ∧ U.heap = h0) (fun _ _ _ _ _ => True) (fun _ U o U' => ∃ v L, o = .returned v ∧ (fun v h L => v = some (.int 1) ∧ Fr n0 L) v U'.heap L ∧ FrameEnd U o U' L room_1.cells room_1.slots) := by
  refine MetFree.of_bodySF (plainFor_of_name own_pn0) hisR ?_
  intro p e s m args below meth c s₁ Bd hml0 hP hK
  obtain ⟨rfl, hZ, hh⟩ := hP
  have hx := Bd.exec
  have hby := Bd.bytes
  have hml : c.maxLocals = 12 := hml0
  have hown : s.vm.findClass "com/example/certwright/certwright/x509/AttributeTypeFitsPinLaw" = some m.cls := findClass_of_methodNamed Bd.named
  have hnm := (name_of_methodNamed Bd.named Bd.method).1
  have X0 : Stand p l e room_1 s m #[(.int p0), (.int p1)] below meth c s₁ [] 0 0 := Stand.of_body Bd
  have e0 : s₁.heap = h0 := by rw [← hh, Bd.state]; rfl
  have N0 := Fr.nil n0
  suffices H : Run p.tables e below (FinR s room_1.cells room_1.slots (fun v h L => v = some (.int 1) ∧ Fr n0 L)) s₁ (mkF m 0 #[.val (.int p0), .val (.int p1), .unset, .unset, .unset, .unset, .unset, .unset, .unset, .unset, .unset, .unset] []) by
    obtain ⟨s₂, o, k1, k2, k3, k4⟩ := H
    exact ⟨s₂, o, castTop (own_ef0 m p0 p1) k1, k2, k3, k4⟩
  refine Run.iloadN (pc' := 1) X0 hx (hb hby at_0) rfl rfl ?_
  refine Run.ldcInt (pc' := 3) (v := (2147483647 : Int32)) X0 hx hown (mvT hZ (hw _ (List.mem_of_getElem? (i := 0) rfl))) (hb hby at_1) rfl ?_
  refine Run.iand (pc' := 4) X0 hx (hb hby at_3) rfl ?_
  refine Run.bipush (pc' := 6) (v := (11 : Int32)) X0 hx (hb hby at_4) rfl rfl ?_
  refine Run.irem (pc' := 7) X0 hx (hb hby at_6) (by decide) rfl ?_
  refine Run.istoreN (pc' := 8) X0 hx (l' := #[.val (.int p0), .val (.int p1), .val (.int ((p0 &&& (2147483647 : Int32)) % (11 : Int32))), .unset, .unset, .unset, .unset, .unset, .unset, .unset, .unset, .unset]) (hb hby at_7) rfl rfl ?_
  rcases own_k p0 with hk | hk | hk | hk | hk | hk | hk | hk | hk | hk | hk
  · rw [hk]
    refine Run.iloadN (pc' := 9) X0 hx (hb hby at_8) rfl rfl ?_
    obtain ⟨T1, L1, v1, X1, Q1, st1⟩ := callStatic X0 hx (y := (⟨"com/example/certwright/certwright/x509/AttributeTypeFitsPinLaw", "type", "(I)Lcom/example/certwright/certwright/x509/AttributeType;"⟩ : MethodName)) (Ls := #[.val (.int p0), .val (.int p1), .val (.int (0 : Int32)), .unset, .unset, .unset, .unset, .unset, .unset, .unset, .unset, .unset]) (rest := []) (W := 0) (argsL := [(.int (0 : Int32))]) hZ hown (hw _ (List.mem_of_getElem? (i := 1) rfl)) (hw _ (List.mem_of_getElem? (i := 2) rfl)) (hw _ (List.mem_of_getElem? (i := 3) rfl)) (hw _ (List.mem_of_getElem? (i := 4) rfl)) (by decide) e0 (rm1 l Z a0 hw [] (0 : Int32) a_COMMON_NAME a_LOCALITY a_STATE_OR_PROVINCE a_ORGANIZATION a_ORGANIZATIONAL_UNIT a_COUNTRY a_STREET a_DOMAIN_COMPONENT a_USER_ID a_SERIAL_NUMBER a_EMAIL_ADDRESS h0 n0 Z0 S_COMMON_NAME S_LOCALITY S_STATE_OR_PROVINCE S_ORGANIZATION S_ORGANIZATIONAL_UNIT S_COUNTRY S_STREET S_DOMAIN_COMPONENT S_USER_ID S_SERIAL_NUMBER S_EMAIL_ADDRESS) (hb hby at_9) (lenOf own_pd0 rfl) (by decide) (by decide) (by rw [hml]; rfl) (Nat.le_of_eq rfl) (by decide) (by decide)
    obtain ⟨hv1, M1, e1⟩ := Q1
    rw [show (own_F1 (0 : Int32) a_COMMON_NAME a_LOCALITY a_STATE_OR_PROVINCE a_ORGANIZATION a_ORGANIZATIONAL_UNIT a_COUNTRY a_STREET a_DOMAIN_COMPONENT a_USER_ID a_SERIAL_NUMBER a_EMAIL_ADDRESS) = a_COMMON_NAME from rfl] at hv1
    subst hv1
    have N1 := Fr.app N0 M1
    refine Run.back (g' := (mkF m 12 #[.val (.int p0), .val (.int p1), .val (.int (0 : Int32)), .unset, .unset, .unset, .unset, .unset, .unset, .unset, .unset, .unset] [(.ref a_COMMON_NAME)])) st1 ?_
    refine Run.astoreN (pc' := 13) X1 hx (l' := #[.val (.int p0), .val (.int p1), .val (.int (0 : Int32)), .val (.ref a_COMMON_NAME), .unset, .unset, .unset, .unset, .unset, .unset, .unset, .unset]) (hb hby at_12) rfl rfl ?_
    refine Run.iloadN (pc' := 14) X1 hx (hb hby at_13) rfl rfl ?_
    obtain ⟨T2, L2, v2, X2, Q2, st2⟩ := callStatic X1 hx (y := (⟨"com/example/certwright/certwright/x509/AttributeTypeFitsPinLaw", "low", "(I)I"⟩ : MethodName)) (Ls := #[.val (.int p0), .val (.int p1), .val (.int (0 : Int32)), .val (.ref a_COMMON_NAME), .unset, .unset, .unset, .unset, .unset, .unset, .unset, .unset]) (rest := []) (W := 0) (argsL := [(.int (0 : Int32))]) hZ hown (hw _ (List.mem_of_getElem? (i := 8) rfl)) (hw _ (List.mem_of_getElem? (i := 9) rfl)) (hw _ (List.mem_of_getElem? (i := 3) rfl)) (hw _ (List.mem_of_getElem? (i := 10) rfl)) (by decide) e1 (rm2 l Z a0 hw [] (0 : Int32)  h0 n0 Z0 ) (hb hby at_14) (lenOf own_pd1 rfl) (by decide) (by decide) (by rw [hml]; rfl) (Nat.le_of_eq rfl) (by decide) (by decide)
    obtain ⟨hv2, M2, e2⟩ := Q2
    rw [show (own_F2 (0 : Int32)) = (1 : Int32) from rfl] at hv2
    subst hv2
    have N2 := Fr.app N1 M2
    refine Run.back (g' := (mkF m 17 #[.val (.int p0), .val (.int p1), .val (.int (0 : Int32)), .val (.ref a_COMMON_NAME), .unset, .unset, .unset, .unset, .unset, .unset, .unset, .unset] [(.int (1 : Int32))])) st2 ?_
    refine Run.istore (pc' := 19) X2 hx (l' := #[.val (.int p0), .val (.int p1), .val (.int (0 : Int32)), .val (.ref a_COMMON_NAME), .val (.int (1 : Int32)), .unset, .unset, .unset, .unset, .unset, .unset, .unset]) (hb hby at_17) rfl rfl ?_
    refine Run.iloadN (pc' := 20) X2 hx (hb hby at_19) rfl rfl ?_
    obtain ⟨T3, L3, v3, X3, Q3, st3⟩ := callStatic X2 hx (y := (⟨"com/example/certwright/certwright/x509/AttributeTypeFitsPinLaw", "high", "(I)I"⟩ : MethodName)) (Ls := #[.val (.int p0), .val (.int p1), .val (.int (0 : Int32)), .val (.ref a_COMMON_NAME), .val (.int (1 : Int32)), .unset, .unset, .unset, .unset, .unset, .unset, .unset]) (rest := []) (W := 0) (argsL := [(.int (0 : Int32))]) hZ hown (hw _ (List.mem_of_getElem? (i := 11) rfl)) (hw _ (List.mem_of_getElem? (i := 12) rfl)) (hw _ (List.mem_of_getElem? (i := 3) rfl)) (hw _ (List.mem_of_getElem? (i := 13) rfl)) (by decide) e2 (rm3 l Z a0 hw [] (0 : Int32)  h0 n0 Z0 ) (hb hby at_20) (lenOf own_pd1 rfl) (by decide) (by decide) (by rw [hml]; rfl) (Nat.le_of_eq rfl) (by decide) (by decide)
    obtain ⟨hv3, M3, e3⟩ := Q3
    rw [show (own_F3 (0 : Int32)) = (64 : Int32) from rfl] at hv3
    subst hv3
    have N3 := Fr.app N2 M3
    refine Run.back (g' := (mkF m 23 #[.val (.int p0), .val (.int p1), .val (.int (0 : Int32)), .val (.ref a_COMMON_NAME), .val (.int (1 : Int32)), .unset, .unset, .unset, .unset, .unset, .unset, .unset] [(.int (64 : Int32))])) st3 ?_
    refine Run.istore (pc' := 25) X3 hx (l' := #[.val (.int p0), .val (.int p1), .val (.int (0 : Int32)), .val (.ref a_COMMON_NAME), .val (.int (1 : Int32)), .val (.int (64 : Int32)), .unset, .unset, .unset, .unset, .unset, .unset]) (hb hby at_23) rfl rfl ?_
    refine Run.aloadN (pc' := 26) X3 hx (hb hby at_25) rfl rfl ?_
    refine Run.iloadN (pc' := 27) X3 hx (hb hby at_26) rfl rfl ?_
    obtain ⟨T4, L4, v4, X4, Q4, st4⟩ := callVirtual X3 hx (y := (⟨"com/example/certwright/certwright/x509/AttributeType", "fits", "(I)Z"⟩ : MethodName)) (z := (⟨"com/example/certwright/certwright/x509/AttributeType", "fits", "(I)Z"⟩ : MethodName)) (C := "com/example/certwright/certwright/x509/AttributeType") (a := a_COMMON_NAME) (Ls := #[.val (.int p0), .val (.int p1), .val (.int (0 : Int32)), .val (.ref a_COMMON_NAME), .val (.int (1 : Int32)), .val (.int (64 : Int32)), .unset, .unset, .unset, .unset, .unset, .unset]) (rest := []) (W := 0) (argsL := [(.int p1)]) hZ hown (hw _ (List.mem_of_getElem? (i := 14) rfl)) (hw _ (List.mem_of_getElem? (i := 15) rfl)) (notFace_of_selects (args := #[]) (mvT hZ (hw _ (List.mem_of_getElem? (i := 17) rfl)))) (hw _ (List.mem_of_getElem? (i := 17) rfl)) (hw _ (List.mem_of_getElem? (i := 16) rfl)) (hw _ (List.mem_of_getElem? (i := 6) rfl)) (hw _ (List.mem_of_getElem? (i := 18) rfl)) (by decide) e3 E_COMMON_NAME (rm4 l Z a0 hw [] a_COMMON_NAME p1 (1 : Int32) (64 : Int32) h0 n0 Z0 F_COMMON_NAME_minLength F_COMMON_NAME_maxLength) (hb hby at_27) (lenOf own_pd2 rfl) (by decide) (by decide) (by rw [hml]; rfl) (Nat.le_of_eq rfl) (by decide) (by decide)
    obtain ⟨rfl, M4, e4⟩ := Q4
    have N4 := Fr.app N3 M4
    refine Run.back (g' := (mkF m 30 #[.val (.int p0), .val (.int p1), .val (.int (0 : Int32)), .val (.ref a_COMMON_NAME), .val (.int (1 : Int32)), .val (.int (64 : Int32)), .unset, .unset, .unset, .unset, .unset, .unset] [(.int (own_F4 a_COMMON_NAME p1 (1 : Int32) (64 : Int32)))])) st4 ?_
    have J55 : ∀ (T : State) (locs : List Loc), Stand p l e room_1 s m #[(.int p0), (.int p1)] below meth c T locs 0 0 → T.heap = h0 → Fr n0 locs → Run p.tables e below (FinR s room_1.cells room_1.slots (fun v h L => v = some (.int 1) ∧ Fr n0 L)) T (mkF m 55 #[.val (.int p0), .val (.int p1), .val (.int (0 : Int32)), .val (.ref a_COMMON_NAME), .val (.int (1 : Int32)), .val (.int (64 : Int32)), .unset, .unset, .unset, .unset, .unset, .unset] [(.int (1 : Int32))]) := by
      intro T locs X eT N
      refine Run.istore (pc' := 57) X hx (l' := #[.val (.int p0), .val (.int p1), .val (.int (0 : Int32)), .val (.ref a_COMMON_NAME), .val (.int (1 : Int32)), .val (.int (64 : Int32)), .val (.int (1 : Int32)), .unset, .unset, .unset, .unset, .unset]) (hb hby at_55) rfl rfl ?_
      refine Run.aloadN (pc' := 58) X hx (hb hby at_57) rfl rfl ?_
      refine Run.iload (pc' := 60) X hx (hb hby at_58) rfl rfl ?_
      obtain ⟨T5, L5, v5, X5, Q5, st5⟩ := callVirtual X hx (y := (⟨"com/example/certwright/certwright/x509/AttributeType", "fits", "(I)Z"⟩ : MethodName)) (z := (⟨"com/example/certwright/certwright/x509/AttributeType", "fits", "(I)Z"⟩ : MethodName)) (C := "com/example/certwright/certwright/x509/AttributeType") (a := a_COMMON_NAME) (Ls := #[.val (.int p0), .val (.int p1), .val (.int (0 : Int32)), .val (.ref a_COMMON_NAME), .val (.int (1 : Int32)), .val (.int (64 : Int32)), .val (.int (1 : Int32)), .unset, .unset, .unset, .unset, .unset]) (rest := []) (W := 0) (argsL := [(.int (1 : Int32))]) hZ hown (hw _ (List.mem_of_getElem? (i := 14) rfl)) (hw _ (List.mem_of_getElem? (i := 15) rfl)) (notFace_of_selects (args := #[]) (mvT hZ (hw _ (List.mem_of_getElem? (i := 17) rfl)))) (hw _ (List.mem_of_getElem? (i := 17) rfl)) (hw _ (List.mem_of_getElem? (i := 16) rfl)) (hw _ (List.mem_of_getElem? (i := 6) rfl)) (hw _ (List.mem_of_getElem? (i := 18) rfl)) (by decide) eT E_COMMON_NAME (rm4 l Z a0 hw [] a_COMMON_NAME (1 : Int32) (1 : Int32) (64 : Int32) h0 n0 Z0 F_COMMON_NAME_minLength F_COMMON_NAME_maxLength) (hb hby at_60) (lenOf own_pd2 rfl) (by decide) (by decide) (by rw [hml]; rfl) (Nat.le_of_eq rfl) (by decide) (by decide)
      obtain ⟨hv5, M5, e5⟩ := Q5
      rw [show (own_F4 a_COMMON_NAME (1 : Int32) (1 : Int32) (64 : Int32)) = (1 : Int32) from rfl] at hv5
      subst hv5
      have N5 := Fr.app N M5
      refine Run.back (g' := (mkF m 63 #[.val (.int p0), .val (.int p1), .val (.int (0 : Int32)), .val (.ref a_COMMON_NAME), .val (.int (1 : Int32)), .val (.int (64 : Int32)), .val (.int (1 : Int32)), .unset, .unset, .unset, .unset, .unset] [(.int (1 : Int32))])) st5 ?_
      refine Run.istore (pc' := 65) X5 hx (l' := #[.val (.int p0), .val (.int p1), .val (.int (0 : Int32)), .val (.ref a_COMMON_NAME), .val (.int (1 : Int32)), .val (.int (64 : Int32)), .val (.int (1 : Int32)), .val (.int (1 : Int32)), .unset, .unset, .unset, .unset]) (hb hby at_63) rfl rfl ?_
      refine Run.aloadN (pc' := 66) X5 hx (hb hby at_65) rfl rfl ?_
      refine Run.iload (pc' := 68) X5 hx (hb hby at_66) rfl rfl ?_
      refine Run.iconst (pc' := 69) (v := (1 : Int32)) X5 hx (hb hby at_68) rfl rfl ?_
      refine Run.isub (pc' := 70) X5 hx (hb hby at_69) rfl ?_
      obtain ⟨T6, L6, v6, X6, Q6, st6⟩ := callVirtual X5 hx (y := (⟨"com/example/certwright/certwright/x509/AttributeType", "fits", "(I)Z"⟩ : MethodName)) (z := (⟨"com/example/certwright/certwright/x509/AttributeType", "fits", "(I)Z"⟩ : MethodName)) (C := "com/example/certwright/certwright/x509/AttributeType") (a := a_COMMON_NAME) (Ls := #[.val (.int p0), .val (.int p1), .val (.int (0 : Int32)), .val (.ref a_COMMON_NAME), .val (.int (1 : Int32)), .val (.int (64 : Int32)), .val (.int (1 : Int32)), .val (.int (1 : Int32)), .unset, .unset, .unset, .unset]) (rest := []) (W := 0) (argsL := [(.int ((1 : Int32) - (1 : Int32)))]) hZ hown (hw _ (List.mem_of_getElem? (i := 14) rfl)) (hw _ (List.mem_of_getElem? (i := 15) rfl)) (notFace_of_selects (args := #[]) (mvT hZ (hw _ (List.mem_of_getElem? (i := 17) rfl)))) (hw _ (List.mem_of_getElem? (i := 17) rfl)) (hw _ (List.mem_of_getElem? (i := 16) rfl)) (hw _ (List.mem_of_getElem? (i := 6) rfl)) (hw _ (List.mem_of_getElem? (i := 18) rfl)) (by decide) e5 E_COMMON_NAME (rm4 l Z a0 hw [] a_COMMON_NAME ((1 : Int32) - (1 : Int32)) (1 : Int32) (64 : Int32) h0 n0 Z0 F_COMMON_NAME_minLength F_COMMON_NAME_maxLength) (hb hby at_70) (lenOf own_pd2 rfl) (by decide) (by decide) (by rw [hml]; rfl) (Nat.le_of_eq rfl) (by decide) (by decide)
      obtain ⟨hv6, M6, e6⟩ := Q6
      rw [show (own_F4 a_COMMON_NAME ((1 : Int32) - (1 : Int32)) (1 : Int32) (64 : Int32)) = (0 : Int32) from rfl] at hv6
      subst hv6
      have N6 := Fr.app N5 M6
      refine Run.back (g' := (mkF m 73 #[.val (.int p0), .val (.int p1), .val (.int (0 : Int32)), .val (.ref a_COMMON_NAME), .val (.int (1 : Int32)), .val (.int (64 : Int32)), .val (.int (1 : Int32)), .val (.int (1 : Int32)), .unset, .unset, .unset, .unset] [(.int (0 : Int32))])) st6 ?_
      refine Run.istore (pc' := 75) X6 hx (l' := #[.val (.int p0), .val (.int p1), .val (.int (0 : Int32)), .val (.ref a_COMMON_NAME), .val (.int (1 : Int32)), .val (.int (64 : Int32)), .val (.int (1 : Int32)), .val (.int (1 : Int32)), .val (.int (0 : Int32)), .unset, .unset, .unset]) (hb hby at_73) rfl rfl ?_
      refine Run.aloadN (pc' := 76) X6 hx (hb hby at_75) rfl rfl ?_
      refine Run.iload (pc' := 78) X6 hx (hb hby at_76) rfl rfl ?_
      obtain ⟨T7, L7, v7, X7, Q7, st7⟩ := callVirtual X6 hx (y := (⟨"com/example/certwright/certwright/x509/AttributeType", "fits", "(I)Z"⟩ : MethodName)) (z := (⟨"com/example/certwright/certwright/x509/AttributeType", "fits", "(I)Z"⟩ : MethodName)) (C := "com/example/certwright/certwright/x509/AttributeType") (a := a_COMMON_NAME) (Ls := #[.val (.int p0), .val (.int p1), .val (.int (0 : Int32)), .val (.ref a_COMMON_NAME), .val (.int (1 : Int32)), .val (.int (64 : Int32)), .val (.int (1 : Int32)), .val (.int (1 : Int32)), .val (.int (0 : Int32)), .unset, .unset, .unset]) (rest := []) (W := 0) (argsL := [(.int (64 : Int32))]) hZ hown (hw _ (List.mem_of_getElem? (i := 14) rfl)) (hw _ (List.mem_of_getElem? (i := 15) rfl)) (notFace_of_selects (args := #[]) (mvT hZ (hw _ (List.mem_of_getElem? (i := 17) rfl)))) (hw _ (List.mem_of_getElem? (i := 17) rfl)) (hw _ (List.mem_of_getElem? (i := 16) rfl)) (hw _ (List.mem_of_getElem? (i := 6) rfl)) (hw _ (List.mem_of_getElem? (i := 18) rfl)) (by decide) e6 E_COMMON_NAME (rm4 l Z a0 hw [] a_COMMON_NAME (64 : Int32) (1 : Int32) (64 : Int32) h0 n0 Z0 F_COMMON_NAME_minLength F_COMMON_NAME_maxLength) (hb hby at_78) (lenOf own_pd2 rfl) (by decide) (by decide) (by rw [hml]; rfl) (Nat.le_of_eq rfl) (by decide) (by decide)
      obtain ⟨hv7, M7, e7⟩ := Q7
      rw [show (own_F4 a_COMMON_NAME (64 : Int32) (1 : Int32) (64 : Int32)) = (1 : Int32) from rfl] at hv7
      subst hv7
      have N7 := Fr.app N6 M7
      refine Run.back (g' := (mkF m 81 #[.val (.int p0), .val (.int p1), .val (.int (0 : Int32)), .val (.ref a_COMMON_NAME), .val (.int (1 : Int32)), .val (.int (64 : Int32)), .val (.int (1 : Int32)), .val (.int (1 : Int32)), .val (.int (0 : Int32)), .unset, .unset, .unset] [(.int (1 : Int32))])) st7 ?_
      refine Run.istore (pc' := 83) X7 hx (l' := #[.val (.int p0), .val (.int p1), .val (.int (0 : Int32)), .val (.ref a_COMMON_NAME), .val (.int (1 : Int32)), .val (.int (64 : Int32)), .val (.int (1 : Int32)), .val (.int (1 : Int32)), .val (.int (0 : Int32)), .val (.int (1 : Int32)), .unset, .unset]) (hb hby at_81) rfl rfl ?_
      refine Run.iload (pc' := 85) X7 hx (hb hby at_83) rfl rfl ?_
      refine Run.ldcInt (pc' := 87) (v := (2147483647 : Int32)) X7 hx hown (mvT hZ (hw _ (List.mem_of_getElem? (i := 0) rfl))) (hb hby at_85) rfl ?_
      refine Run.icmpNo (pc' := 90) X7 hx (hb hby at_87) (feq (by decide : ¬ ((64 : Int32) = (2147483647 : Int32)))).1 rfl ?_
      refine Run.aloadN (pc' := 91) X7 hx (hb hby at_90) rfl rfl ?_
      refine Run.iload (pc' := 93) X7 hx (hb hby at_91) rfl rfl ?_
      refine Run.iconst (pc' := 94) (v := (1 : Int32)) X7 hx (hb hby at_93) rfl rfl ?_
      refine Run.iadd (pc' := 95) X7 hx (hb hby at_94) rfl ?_
      obtain ⟨T8, L8, v8, X8, Q8, st8⟩ := callVirtual X7 hx (y := (⟨"com/example/certwright/certwright/x509/AttributeType", "fits", "(I)Z"⟩ : MethodName)) (z := (⟨"com/example/certwright/certwright/x509/AttributeType", "fits", "(I)Z"⟩ : MethodName)) (C := "com/example/certwright/certwright/x509/AttributeType") (a := a_COMMON_NAME) (Ls := #[.val (.int p0), .val (.int p1), .val (.int (0 : Int32)), .val (.ref a_COMMON_NAME), .val (.int (1 : Int32)), .val (.int (64 : Int32)), .val (.int (1 : Int32)), .val (.int (1 : Int32)), .val (.int (0 : Int32)), .val (.int (1 : Int32)), .unset, .unset]) (rest := []) (W := 0) (argsL := [(.int ((64 : Int32) + (1 : Int32)))]) hZ hown (hw _ (List.mem_of_getElem? (i := 14) rfl)) (hw _ (List.mem_of_getElem? (i := 15) rfl)) (notFace_of_selects (args := #[]) (mvT hZ (hw _ (List.mem_of_getElem? (i := 17) rfl)))) (hw _ (List.mem_of_getElem? (i := 17) rfl)) (hw _ (List.mem_of_getElem? (i := 16) rfl)) (hw _ (List.mem_of_getElem? (i := 6) rfl)) (hw _ (List.mem_of_getElem? (i := 18) rfl)) (by decide) e7 E_COMMON_NAME (rm4 l Z a0 hw [] a_COMMON_NAME ((64 : Int32) + (1 : Int32)) (1 : Int32) (64 : Int32) h0 n0 Z0 F_COMMON_NAME_minLength F_COMMON_NAME_maxLength) (hb hby at_95) (lenOf own_pd2 rfl) (by decide) (by decide) (by rw [hml]; rfl) (Nat.le_of_eq rfl) (by decide) (by decide)
      obtain ⟨hv8, M8, e8⟩ := Q8
      rw [show (own_F4 a_COMMON_NAME ((64 : Int32) + (1 : Int32)) (1 : Int32) (64 : Int32)) = (0 : Int32) from rfl] at hv8
      subst hv8
      have N8 := Fr.app N7 M8
      refine Run.back (g' := (mkF m 98 #[.val (.int p0), .val (.int p1), .val (.int (0 : Int32)), .val (.ref a_COMMON_NAME), .val (.int (1 : Int32)), .val (.int (64 : Int32)), .val (.int (1 : Int32)), .val (.int (1 : Int32)), .val (.int (0 : Int32)), .val (.int (1 : Int32)), .unset, .unset] [(.int (0 : Int32))])) st8 ?_
      refine Run.ifYes (pc' := 105) X8 hx (hb hby at_98) ((if0 _ _).trans (teq (by decide : (0 : Int32) = (0 : Int32))).1) (by decide) (by decide) ?_
      refine Run.iconst (pc' := 106) (v := (0 : Int32)) X8 hx (hb hby at_105) rfl rfl ?_
      refine Run.istore (pc' := 108) X8 hx (l' := #[.val (.int p0), .val (.int p1), .val (.int (0 : Int32)), .val (.ref a_COMMON_NAME), .val (.int (1 : Int32)), .val (.int (64 : Int32)), .val (.int (1 : Int32)), .val (.int (1 : Int32)), .val (.int (0 : Int32)), .val (.int (1 : Int32)), .val (.int (0 : Int32)), .unset]) (hb hby at_106) rfl rfl ?_
      refine Run.aloadN (pc' := 109) X8 hx (hb hby at_108) rfl rfl ?_
      refine Run.ldcInt (pc' := 111) (v := (-2147483648 : Int32)) X8 hx hown (mvT hZ (hw _ (List.mem_of_getElem? (i := 23) rfl))) (hb hby at_109) rfl ?_
      obtain ⟨T9, L9, v9, X9, Q9, st9⟩ := callVirtual X8 hx (y := (⟨"com/example/certwright/certwright/x509/AttributeType", "fits", "(I)Z"⟩ : MethodName)) (z := (⟨"com/example/certwright/certwright/x509/AttributeType", "fits", "(I)Z"⟩ : MethodName)) (C := "com/example/certwright/certwright/x509/AttributeType") (a := a_COMMON_NAME) (Ls := #[.val (.int p0), .val (.int p1), .val (.int (0 : Int32)), .val (.ref a_COMMON_NAME), .val (.int (1 : Int32)), .val (.int (64 : Int32)), .val (.int (1 : Int32)), .val (.int (1 : Int32)), .val (.int (0 : Int32)), .val (.int (1 : Int32)), .val (.int (0 : Int32)), .unset]) (rest := []) (W := 0) (argsL := [(.int (-2147483648 : Int32))]) hZ hown (hw _ (List.mem_of_getElem? (i := 14) rfl)) (hw _ (List.mem_of_getElem? (i := 15) rfl)) (notFace_of_selects (args := #[]) (mvT hZ (hw _ (List.mem_of_getElem? (i := 17) rfl)))) (hw _ (List.mem_of_getElem? (i := 17) rfl)) (hw _ (List.mem_of_getElem? (i := 16) rfl)) (hw _ (List.mem_of_getElem? (i := 6) rfl)) (hw _ (List.mem_of_getElem? (i := 18) rfl)) (by decide) e8 E_COMMON_NAME (rm4 l Z a0 hw [] a_COMMON_NAME (-2147483648 : Int32) (1 : Int32) (64 : Int32) h0 n0 Z0 F_COMMON_NAME_minLength F_COMMON_NAME_maxLength) (hb hby at_111) (lenOf own_pd2 rfl) (by decide) (by decide) (by rw [hml]; rfl) (Nat.le_of_eq rfl) (by decide) (by decide)
      obtain ⟨hv9, M9, e9⟩ := Q9
      rw [show (own_F4 a_COMMON_NAME (-2147483648 : Int32) (1 : Int32) (64 : Int32)) = (0 : Int32) from rfl] at hv9
      subst hv9
      have N9 := Fr.app N8 M9
      refine Run.back (g' := (mkF m 114 #[.val (.int p0), .val (.int p1), .val (.int (0 : Int32)), .val (.ref a_COMMON_NAME), .val (.int (1 : Int32)), .val (.int (64 : Int32)), .val (.int (1 : Int32)), .val (.int (1 : Int32)), .val (.int (0 : Int32)), .val (.int (1 : Int32)), .val (.int (0 : Int32)), .unset] [(.int (0 : Int32))])) st9 ?_
      refine Run.istore (pc' := 116) X9 hx (l' := #[.val (.int p0), .val (.int p1), .val (.int (0 : Int32)), .val (.ref a_COMMON_NAME), .val (.int (1 : Int32)), .val (.int (64 : Int32)), .val (.int (1 : Int32)), .val (.int (1 : Int32)), .val (.int (0 : Int32)), .val (.int (1 : Int32)), .val (.int (0 : Int32)), .val (.int (0 : Int32))]) (hb hby at_114) rfl rfl ?_
      refine Run.iload (pc' := 118) X9 hx (hb hby at_116) rfl rfl ?_
      refine Run.ifNo (pc' := 121) X9 hx (hb hby at_118) ((if0 _ _).trans (feq (by decide : ¬ ((1 : Int32) = (0 : Int32)))).1) rfl ?_
      refine Run.iload (pc' := 123) X9 hx (hb hby at_121) rfl rfl ?_
      refine Run.ifNo (pc' := 126) X9 hx (hb hby at_123) ((if0 _ _).trans (feq (by decide : ¬ ((1 : Int32) = (0 : Int32)))).1) rfl ?_
      refine Run.iload (pc' := 128) X9 hx (hb hby at_126) rfl rfl ?_
      refine Run.ifNo (pc' := 131) X9 hx (hb hby at_128) ((if0 _ _).trans (teq (by decide : (0 : Int32) = (0 : Int32))).2) rfl ?_
      refine Run.iload (pc' := 133) X9 hx (hb hby at_131) rfl rfl ?_
      refine Run.ifNo (pc' := 136) X9 hx (hb hby at_133) ((if0 _ _).trans (feq (by decide : ¬ ((1 : Int32) = (0 : Int32)))).1) rfl ?_
      refine Run.iload (pc' := 138) X9 hx (hb hby at_136) rfl rfl ?_
      refine Run.ifNo (pc' := 141) X9 hx (hb hby at_138) ((if0 _ _).trans (teq (by decide : (0 : Int32) = (0 : Int32))).2) rfl ?_
      refine Run.iload (pc' := 143) X9 hx (hb hby at_141) rfl rfl ?_
      refine Run.ifNo (pc' := 146) X9 hx (hb hby at_143) ((if0 _ _).trans (teq (by decide : (0 : Int32) = (0 : Int32))).2) rfl ?_
      refine Run.iconst (pc' := 147) (v := (1 : Int32)) X9 hx (hb hby at_146) rfl rfl ?_
      refine Run.goto (pc' := 151) X9 hx (hb hby at_147) (by decide) (by decide) ?_
      exact Run.retSmall X9 hx (t := .boolean) (z' := (1 : Int32)) Bd.notSynchronized Bd.returns (by simp) rfl (hb hby at_151) ⟨rfl, N9⟩ (by decide) (by decide)
    refine Run.iloadN (pc' := 31) X4 hx (hb hby at_30) rfl rfl ?_
    refine Run.iload (pc' := 33) X4 hx (hb hby at_31) rfl rfl ?_
    by_cases hc33 : p1 < (1 : Int32)
    · skip
      refine Run.icmpYes (pc' := 46) X4 hx (hb hby at_33) (tlt hc33).1 (by decide) (by decide) ?_
      refine Run.iconst (pc' := 47) (v := (0 : Int32)) X4 hx (hb hby at_46) rfl rfl ?_
      refine Run.icmpNo (pc' := 50) X4 hx (hb hby at_47) (teq (by rw [own_F4, if_pos hc33]; rfl)).2 rfl ?_
      refine Run.iconst (pc' := 51) (v := (1 : Int32)) X4 hx (hb hby at_50) rfl rfl ?_
      refine Run.goto (pc' := 55) X4 hx (hb hby at_51) (by decide) (by decide) ?_
      exact J55 _ _ X4 e4 N4
    · skip
      refine Run.icmpNo (pc' := 36) X4 hx (hb hby at_33) (flt hc33).1 rfl ?_
      refine Run.iloadN (pc' := 37) X4 hx (hb hby at_36) rfl rfl ?_
      refine Run.iload (pc' := 39) X4 hx (hb hby at_37) rfl rfl ?_
      by_cases hc39 : (64 : Int32) < p1
      · skip
        refine Run.icmpYes (pc' := 46) X4 hx (hb hby at_39) (tlt hc39).2.2.1 (by decide) (by decide) ?_
        refine Run.iconst (pc' := 47) (v := (0 : Int32)) X4 hx (hb hby at_46) rfl rfl ?_
        refine Run.icmpNo (pc' := 50) X4 hx (hb hby at_47) (teq (by rw [own_F4, if_neg hc33, if_pos hc39]; rfl)).2 rfl ?_
        refine Run.iconst (pc' := 51) (v := (1 : Int32)) X4 hx (hb hby at_50) rfl rfl ?_
        refine Run.goto (pc' := 55) X4 hx (hb hby at_51) (by decide) (by decide) ?_
        exact J55 _ _ X4 e4 N4
      · skip
        refine Run.icmpNo (pc' := 42) X4 hx (hb hby at_39) (flt hc39).2.2.1 rfl ?_
        refine Run.iconst (pc' := 43) (v := (1 : Int32)) X4 hx (hb hby at_42) rfl rfl ?_
        refine Run.goto (pc' := 47) X4 hx (hb hby at_43) (by decide) (by decide) ?_
        refine Run.icmpNo (pc' := 50) X4 hx (hb hby at_47) (teq (by rw [own_F4, if_neg hc33, if_neg hc39]; rfl)).2 rfl ?_
        refine Run.iconst (pc' := 51) (v := (1 : Int32)) X4 hx (hb hby at_50) rfl rfl ?_
        refine Run.goto (pc' := 55) X4 hx (hb hby at_51) (by decide) (by decide) ?_
        exact J55 _ _ X4 e4 N4
  · rw [hk]
    refine Run.iloadN (pc' := 9) X0 hx (hb hby at_8) rfl rfl ?_
    obtain ⟨T10, L10, v10, X10, Q10, st10⟩ := callStatic X0 hx (y := (⟨"com/example/certwright/certwright/x509/AttributeTypeFitsPinLaw", "type", "(I)Lcom/example/certwright/certwright/x509/AttributeType;"⟩ : MethodName)) (Ls := #[.val (.int p0), .val (.int p1), .val (.int (1 : Int32)), .unset, .unset, .unset, .unset, .unset, .unset, .unset, .unset, .unset]) (rest := []) (W := 0) (argsL := [(.int (1 : Int32))]) hZ hown (hw _ (List.mem_of_getElem? (i := 1) rfl)) (hw _ (List.mem_of_getElem? (i := 2) rfl)) (hw _ (List.mem_of_getElem? (i := 3) rfl)) (hw _ (List.mem_of_getElem? (i := 4) rfl)) (by decide) e0 (rm1 l Z a0 hw [] (1 : Int32) a_COMMON_NAME a_LOCALITY a_STATE_OR_PROVINCE a_ORGANIZATION a_ORGANIZATIONAL_UNIT a_COUNTRY a_STREET a_DOMAIN_COMPONENT a_USER_ID a_SERIAL_NUMBER a_EMAIL_ADDRESS h0 n0 Z0 S_COMMON_NAME S_LOCALITY S_STATE_OR_PROVINCE S_ORGANIZATION S_ORGANIZATIONAL_UNIT S_COUNTRY S_STREET S_DOMAIN_COMPONENT S_USER_ID S_SERIAL_NUMBER S_EMAIL_ADDRESS) (hb hby at_9) (lenOf own_pd0 rfl) (by decide) (by decide) (by rw [hml]; rfl) (Nat.le_of_eq rfl) (by decide) (by decide)
    obtain ⟨hv10, M10, e10⟩ := Q10
    rw [show (own_F1 (1 : Int32) a_COMMON_NAME a_LOCALITY a_STATE_OR_PROVINCE a_ORGANIZATION a_ORGANIZATIONAL_UNIT a_COUNTRY a_STREET a_DOMAIN_COMPONENT a_USER_ID a_SERIAL_NUMBER a_EMAIL_ADDRESS) = a_LOCALITY from rfl] at hv10
    subst hv10
    have N10 := Fr.app N0 M10
    refine Run.back (g' := (mkF m 12 #[.val (.int p0), .val (.int p1), .val (.int (1 : Int32)), .unset, .unset, .unset, .unset, .unset, .unset, .unset, .unset, .unset] [(.ref a_LOCALITY)])) st10 ?_
    refine Run.astoreN (pc' := 13) X10 hx (l' := #[.val (.int p0), .val (.int p1), .val (.int (1 : Int32)), .val (.ref a_LOCALITY), .unset, .unset, .unset, .unset, .unset, .unset, .unset, .unset]) (hb hby at_12) rfl rfl ?_
    refine Run.iloadN (pc' := 14) X10 hx (hb hby at_13) rfl rfl ?_
    obtain ⟨T11, L11, v11, X11, Q11, st11⟩ := callStatic X10 hx (y := (⟨"com/example/certwright/certwright/x509/AttributeTypeFitsPinLaw", "low", "(I)I"⟩ : MethodName)) (Ls := #[.val (.int p0), .val (.int p1), .val (.int (1 : Int32)), .val (.ref a_LOCALITY), .unset, .unset, .unset, .unset, .unset, .unset, .unset, .unset]) (rest := []) (W := 0) (argsL := [(.int (1 : Int32))]) hZ hown (hw _ (List.mem_of_getElem? (i := 8) rfl)) (hw _ (List.mem_of_getElem? (i := 9) rfl)) (hw _ (List.mem_of_getElem? (i := 3) rfl)) (hw _ (List.mem_of_getElem? (i := 10) rfl)) (by decide) e10 (rm2 l Z a0 hw [] (1 : Int32)  h0 n0 Z0 ) (hb hby at_14) (lenOf own_pd1 rfl) (by decide) (by decide) (by rw [hml]; rfl) (Nat.le_of_eq rfl) (by decide) (by decide)
    obtain ⟨hv11, M11, e11⟩ := Q11
    rw [show (own_F2 (1 : Int32)) = (1 : Int32) from rfl] at hv11
    subst hv11
    have N11 := Fr.app N10 M11
    refine Run.back (g' := (mkF m 17 #[.val (.int p0), .val (.int p1), .val (.int (1 : Int32)), .val (.ref a_LOCALITY), .unset, .unset, .unset, .unset, .unset, .unset, .unset, .unset] [(.int (1 : Int32))])) st11 ?_
    refine Run.istore (pc' := 19) X11 hx (l' := #[.val (.int p0), .val (.int p1), .val (.int (1 : Int32)), .val (.ref a_LOCALITY), .val (.int (1 : Int32)), .unset, .unset, .unset, .unset, .unset, .unset, .unset]) (hb hby at_17) rfl rfl ?_
    refine Run.iloadN (pc' := 20) X11 hx (hb hby at_19) rfl rfl ?_
    obtain ⟨T12, L12, v12, X12, Q12, st12⟩ := callStatic X11 hx (y := (⟨"com/example/certwright/certwright/x509/AttributeTypeFitsPinLaw", "high", "(I)I"⟩ : MethodName)) (Ls := #[.val (.int p0), .val (.int p1), .val (.int (1 : Int32)), .val (.ref a_LOCALITY), .val (.int (1 : Int32)), .unset, .unset, .unset, .unset, .unset, .unset, .unset]) (rest := []) (W := 0) (argsL := [(.int (1 : Int32))]) hZ hown (hw _ (List.mem_of_getElem? (i := 11) rfl)) (hw _ (List.mem_of_getElem? (i := 12) rfl)) (hw _ (List.mem_of_getElem? (i := 3) rfl)) (hw _ (List.mem_of_getElem? (i := 13) rfl)) (by decide) e11 (rm3 l Z a0 hw [] (1 : Int32)  h0 n0 Z0 ) (hb hby at_20) (lenOf own_pd1 rfl) (by decide) (by decide) (by rw [hml]; rfl) (Nat.le_of_eq rfl) (by decide) (by decide)
    obtain ⟨hv12, M12, e12⟩ := Q12
    rw [show (own_F3 (1 : Int32)) = (128 : Int32) from rfl] at hv12
    subst hv12
    have N12 := Fr.app N11 M12
    refine Run.back (g' := (mkF m 23 #[.val (.int p0), .val (.int p1), .val (.int (1 : Int32)), .val (.ref a_LOCALITY), .val (.int (1 : Int32)), .unset, .unset, .unset, .unset, .unset, .unset, .unset] [(.int (128 : Int32))])) st12 ?_
    refine Run.istore (pc' := 25) X12 hx (l' := #[.val (.int p0), .val (.int p1), .val (.int (1 : Int32)), .val (.ref a_LOCALITY), .val (.int (1 : Int32)), .val (.int (128 : Int32)), .unset, .unset, .unset, .unset, .unset, .unset]) (hb hby at_23) rfl rfl ?_
    refine Run.aloadN (pc' := 26) X12 hx (hb hby at_25) rfl rfl ?_
    refine Run.iloadN (pc' := 27) X12 hx (hb hby at_26) rfl rfl ?_
    obtain ⟨T13, L13, v13, X13, Q13, st13⟩ := callVirtual X12 hx (y := (⟨"com/example/certwright/certwright/x509/AttributeType", "fits", "(I)Z"⟩ : MethodName)) (z := (⟨"com/example/certwright/certwright/x509/AttributeType", "fits", "(I)Z"⟩ : MethodName)) (C := "com/example/certwright/certwright/x509/AttributeType") (a := a_LOCALITY) (Ls := #[.val (.int p0), .val (.int p1), .val (.int (1 : Int32)), .val (.ref a_LOCALITY), .val (.int (1 : Int32)), .val (.int (128 : Int32)), .unset, .unset, .unset, .unset, .unset, .unset]) (rest := []) (W := 0) (argsL := [(.int p1)]) hZ hown (hw _ (List.mem_of_getElem? (i := 14) rfl)) (hw _ (List.mem_of_getElem? (i := 15) rfl)) (notFace_of_selects (args := #[]) (mvT hZ (hw _ (List.mem_of_getElem? (i := 17) rfl)))) (hw _ (List.mem_of_getElem? (i := 17) rfl)) (hw _ (List.mem_of_getElem? (i := 16) rfl)) (hw _ (List.mem_of_getElem? (i := 6) rfl)) (hw _ (List.mem_of_getElem? (i := 18) rfl)) (by decide) e12 E_LOCALITY (rm4 l Z a0 hw [] a_LOCALITY p1 (1 : Int32) (128 : Int32) h0 n0 Z0 F_LOCALITY_minLength F_LOCALITY_maxLength) (hb hby at_27) (lenOf own_pd2 rfl) (by decide) (by decide) (by rw [hml]; rfl) (Nat.le_of_eq rfl) (by decide) (by decide)
    obtain ⟨rfl, M13, e13⟩ := Q13
    have N13 := Fr.app N12 M13
    refine Run.back (g' := (mkF m 30 #[.val (.int p0), .val (.int p1), .val (.int (1 : Int32)), .val (.ref a_LOCALITY), .val (.int (1 : Int32)), .val (.int (128 : Int32)), .unset, .unset, .unset, .unset, .unset, .unset] [(.int (own_F4 a_LOCALITY p1 (1 : Int32) (128 : Int32)))])) st13 ?_
    have J55 : ∀ (T : State) (locs : List Loc), Stand p l e room_1 s m #[(.int p0), (.int p1)] below meth c T locs 0 0 → T.heap = h0 → Fr n0 locs → Run p.tables e below (FinR s room_1.cells room_1.slots (fun v h L => v = some (.int 1) ∧ Fr n0 L)) T (mkF m 55 #[.val (.int p0), .val (.int p1), .val (.int (1 : Int32)), .val (.ref a_LOCALITY), .val (.int (1 : Int32)), .val (.int (128 : Int32)), .unset, .unset, .unset, .unset, .unset, .unset] [(.int (1 : Int32))]) := by
      intro T locs X eT N
      refine Run.istore (pc' := 57) X hx (l' := #[.val (.int p0), .val (.int p1), .val (.int (1 : Int32)), .val (.ref a_LOCALITY), .val (.int (1 : Int32)), .val (.int (128 : Int32)), .val (.int (1 : Int32)), .unset, .unset, .unset, .unset, .unset]) (hb hby at_55) rfl rfl ?_
      refine Run.aloadN (pc' := 58) X hx (hb hby at_57) rfl rfl ?_
      refine Run.iload (pc' := 60) X hx (hb hby at_58) rfl rfl ?_
      obtain ⟨T14, L14, v14, X14, Q14, st14⟩ := callVirtual X hx (y := (⟨"com/example/certwright/certwright/x509/AttributeType", "fits", "(I)Z"⟩ : MethodName)) (z := (⟨"com/example/certwright/certwright/x509/AttributeType", "fits", "(I)Z"⟩ : MethodName)) (C := "com/example/certwright/certwright/x509/AttributeType") (a := a_LOCALITY) (Ls := #[.val (.int p0), .val (.int p1), .val (.int (1 : Int32)), .val (.ref a_LOCALITY), .val (.int (1 : Int32)), .val (.int (128 : Int32)), .val (.int (1 : Int32)), .unset, .unset, .unset, .unset, .unset]) (rest := []) (W := 0) (argsL := [(.int (1 : Int32))]) hZ hown (hw _ (List.mem_of_getElem? (i := 14) rfl)) (hw _ (List.mem_of_getElem? (i := 15) rfl)) (notFace_of_selects (args := #[]) (mvT hZ (hw _ (List.mem_of_getElem? (i := 17) rfl)))) (hw _ (List.mem_of_getElem? (i := 17) rfl)) (hw _ (List.mem_of_getElem? (i := 16) rfl)) (hw _ (List.mem_of_getElem? (i := 6) rfl)) (hw _ (List.mem_of_getElem? (i := 18) rfl)) (by decide) eT E_LOCALITY (rm4 l Z a0 hw [] a_LOCALITY (1 : Int32) (1 : Int32) (128 : Int32) h0 n0 Z0 F_LOCALITY_minLength F_LOCALITY_maxLength) (hb hby at_60) (lenOf own_pd2 rfl) (by decide) (by decide) (by rw [hml]; rfl) (Nat.le_of_eq rfl) (by decide) (by decide)
      obtain ⟨hv14, M14, e14⟩ := Q14
      rw [show (own_F4 a_LOCALITY (1 : Int32) (1 : Int32) (128 : Int32)) = (1 : Int32) from rfl] at hv14
      subst hv14
      have N14 := Fr.app N M14
      refine Run.back (g' := (mkF m 63 #[.val (.int p0), .val (.int p1), .val (.int (1 : Int32)), .val (.ref a_LOCALITY), .val (.int (1 : Int32)), .val (.int (128 : Int32)), .val (.int (1 : Int32)), .unset, .unset, .unset, .unset, .unset] [(.int (1 : Int32))])) st14 ?_
      refine Run.istore (pc' := 65) X14 hx (l' := #[.val (.int p0), .val (.int p1), .val (.int (1 : Int32)), .val (.ref a_LOCALITY), .val (.int (1 : Int32)), .val (.int (128 : Int32)), .val (.int (1 : Int32)), .val (.int (1 : Int32)), .unset, .unset, .unset, .unset]) (hb hby at_63) rfl rfl ?_
      refine Run.aloadN (pc' := 66) X14 hx (hb hby at_65) rfl rfl ?_
      refine Run.iload (pc' := 68) X14 hx (hb hby at_66) rfl rfl ?_
      refine Run.iconst (pc' := 69) (v := (1 : Int32)) X14 hx (hb hby at_68) rfl rfl ?_
      refine Run.isub (pc' := 70) X14 hx (hb hby at_69) rfl ?_
      obtain ⟨T15, L15, v15, X15, Q15, st15⟩ := callVirtual X14 hx (y := (⟨"com/example/certwright/certwright/x509/AttributeType", "fits", "(I)Z"⟩ : MethodName)) (z := (⟨"com/example/certwright/certwright/x509/AttributeType", "fits", "(I)Z"⟩ : MethodName)) (C := "com/example/certwright/certwright/x509/AttributeType") (a := a_LOCALITY) (Ls := #[.val (.int p0), .val (.int p1), .val (.int (1 : Int32)), .val (.ref a_LOCALITY), .val (.int (1 : Int32)), .val (.int (128 : Int32)), .val (.int (1 : Int32)), .val (.int (1 : Int32)), .unset, .unset, .unset, .unset]) (rest := []) (W := 0) (argsL := [(.int ((1 : Int32) - (1 : Int32)))]) hZ hown (hw _ (List.mem_of_getElem? (i := 14) rfl)) (hw _ (List.mem_of_getElem? (i := 15) rfl)) (notFace_of_selects (args := #[]) (mvT hZ (hw _ (List.mem_of_getElem? (i := 17) rfl)))) (hw _ (List.mem_of_getElem? (i := 17) rfl)) (hw _ (List.mem_of_getElem? (i := 16) rfl)) (hw _ (List.mem_of_getElem? (i := 6) rfl)) (hw _ (List.mem_of_getElem? (i := 18) rfl)) (by decide) e14 E_LOCALITY (rm4 l Z a0 hw [] a_LOCALITY ((1 : Int32) - (1 : Int32)) (1 : Int32) (128 : Int32) h0 n0 Z0 F_LOCALITY_minLength F_LOCALITY_maxLength) (hb hby at_70) (lenOf own_pd2 rfl) (by decide) (by decide) (by rw [hml]; rfl) (Nat.le_of_eq rfl) (by decide) (by decide)
      obtain ⟨hv15, M15, e15⟩ := Q15
      rw [show (own_F4 a_LOCALITY ((1 : Int32) - (1 : Int32)) (1 : Int32) (128 : Int32)) = (0 : Int32) from rfl] at hv15
      subst hv15
      have N15 := Fr.app N14 M15
      refine Run.back (g' := (mkF m 73 #[.val (.int p0), .val (.int p1), .val (.int (1 : Int32)), .val (.ref a_LOCALITY), .val (.int (1 : Int32)), .val (.int (128 : Int32)), .val (.int (1 : Int32)), .val (.int (1 : Int32)), .unset, .unset, .unset, .unset] [(.int (0 : Int32))])) st15 ?_
      refine Run.istore (pc' := 75) X15 hx (l' := #[.val (.int p0), .val (.int p1), .val (.int (1 : Int32)), .val (.ref a_LOCALITY), .val (.int (1 : Int32)), .val (.int (128 : Int32)), .val (.int (1 : Int32)), .val (.int (1 : Int32)), .val (.int (0 : Int32)), .unset, .unset, .unset]) (hb hby at_73) rfl rfl ?_
      refine Run.aloadN (pc' := 76) X15 hx (hb hby at_75) rfl rfl ?_
      refine Run.iload (pc' := 78) X15 hx (hb hby at_76) rfl rfl ?_
      obtain ⟨T16, L16, v16, X16, Q16, st16⟩ := callVirtual X15 hx (y := (⟨"com/example/certwright/certwright/x509/AttributeType", "fits", "(I)Z"⟩ : MethodName)) (z := (⟨"com/example/certwright/certwright/x509/AttributeType", "fits", "(I)Z"⟩ : MethodName)) (C := "com/example/certwright/certwright/x509/AttributeType") (a := a_LOCALITY) (Ls := #[.val (.int p0), .val (.int p1), .val (.int (1 : Int32)), .val (.ref a_LOCALITY), .val (.int (1 : Int32)), .val (.int (128 : Int32)), .val (.int (1 : Int32)), .val (.int (1 : Int32)), .val (.int (0 : Int32)), .unset, .unset, .unset]) (rest := []) (W := 0) (argsL := [(.int (128 : Int32))]) hZ hown (hw _ (List.mem_of_getElem? (i := 14) rfl)) (hw _ (List.mem_of_getElem? (i := 15) rfl)) (notFace_of_selects (args := #[]) (mvT hZ (hw _ (List.mem_of_getElem? (i := 17) rfl)))) (hw _ (List.mem_of_getElem? (i := 17) rfl)) (hw _ (List.mem_of_getElem? (i := 16) rfl)) (hw _ (List.mem_of_getElem? (i := 6) rfl)) (hw _ (List.mem_of_getElem? (i := 18) rfl)) (by decide) e15 E_LOCALITY (rm4 l Z a0 hw [] a_LOCALITY (128 : Int32) (1 : Int32) (128 : Int32) h0 n0 Z0 F_LOCALITY_minLength F_LOCALITY_maxLength) (hb hby at_78) (lenOf own_pd2 rfl) (by decide) (by decide) (by rw [hml]; rfl) (Nat.le_of_eq rfl) (by decide) (by decide)
      obtain ⟨hv16, M16, e16⟩ := Q16
      rw [show (own_F4 a_LOCALITY (128 : Int32) (1 : Int32) (128 : Int32)) = (1 : Int32) from rfl] at hv16
      subst hv16
      have N16 := Fr.app N15 M16
      refine Run.back (g' := (mkF m 81 #[.val (.int p0), .val (.int p1), .val (.int (1 : Int32)), .val (.ref a_LOCALITY), .val (.int (1 : Int32)), .val (.int (128 : Int32)), .val (.int (1 : Int32)), .val (.int (1 : Int32)), .val (.int (0 : Int32)), .unset, .unset, .unset] [(.int (1 : Int32))])) st16 ?_
      refine Run.istore (pc' := 83) X16 hx (l' := #[.val (.int p0), .val (.int p1), .val (.int (1 : Int32)), .val (.ref a_LOCALITY), .val (.int (1 : Int32)), .val (.int (128 : Int32)), .val (.int (1 : Int32)), .val (.int (1 : Int32)), .val (.int (0 : Int32)), .val (.int (1 : Int32)), .unset, .unset]) (hb hby at_81) rfl rfl ?_
      refine Run.iload (pc' := 85) X16 hx (hb hby at_83) rfl rfl ?_
      refine Run.ldcInt (pc' := 87) (v := (2147483647 : Int32)) X16 hx hown (mvT hZ (hw _ (List.mem_of_getElem? (i := 0) rfl))) (hb hby at_85) rfl ?_
      refine Run.icmpNo (pc' := 90) X16 hx (hb hby at_87) (feq (by decide : ¬ ((128 : Int32) = (2147483647 : Int32)))).1 rfl ?_
      refine Run.aloadN (pc' := 91) X16 hx (hb hby at_90) rfl rfl ?_
      refine Run.iload (pc' := 93) X16 hx (hb hby at_91) rfl rfl ?_
      refine Run.iconst (pc' := 94) (v := (1 : Int32)) X16 hx (hb hby at_93) rfl rfl ?_
      refine Run.iadd (pc' := 95) X16 hx (hb hby at_94) rfl ?_
      obtain ⟨T17, L17, v17, X17, Q17, st17⟩ := callVirtual X16 hx (y := (⟨"com/example/certwright/certwright/x509/AttributeType", "fits", "(I)Z"⟩ : MethodName)) (z := (⟨"com/example/certwright/certwright/x509/AttributeType", "fits", "(I)Z"⟩ : MethodName)) (C := "com/example/certwright/certwright/x509/AttributeType") (a := a_LOCALITY) (Ls := #[.val (.int p0), .val (.int p1), .val (.int (1 : Int32)), .val (.ref a_LOCALITY), .val (.int (1 : Int32)), .val (.int (128 : Int32)), .val (.int (1 : Int32)), .val (.int (1 : Int32)), .val (.int (0 : Int32)), .val (.int (1 : Int32)), .unset, .unset]) (rest := []) (W := 0) (argsL := [(.int ((128 : Int32) + (1 : Int32)))]) hZ hown (hw _ (List.mem_of_getElem? (i := 14) rfl)) (hw _ (List.mem_of_getElem? (i := 15) rfl)) (notFace_of_selects (args := #[]) (mvT hZ (hw _ (List.mem_of_getElem? (i := 17) rfl)))) (hw _ (List.mem_of_getElem? (i := 17) rfl)) (hw _ (List.mem_of_getElem? (i := 16) rfl)) (hw _ (List.mem_of_getElem? (i := 6) rfl)) (hw _ (List.mem_of_getElem? (i := 18) rfl)) (by decide) e16 E_LOCALITY (rm4 l Z a0 hw [] a_LOCALITY ((128 : Int32) + (1 : Int32)) (1 : Int32) (128 : Int32) h0 n0 Z0 F_LOCALITY_minLength F_LOCALITY_maxLength) (hb hby at_95) (lenOf own_pd2 rfl) (by decide) (by decide) (by rw [hml]; rfl) (Nat.le_of_eq rfl) (by decide) (by decide)
      obtain ⟨hv17, M17, e17⟩ := Q17
      rw [show (own_F4 a_LOCALITY ((128 : Int32) + (1 : Int32)) (1 : Int32) (128 : Int32)) = (0 : Int32) from rfl] at hv17
      subst hv17
      have N17 := Fr.app N16 M17
      refine Run.back (g' := (mkF m 98 #[.val (.int p0), .val (.int p1), .val (.int (1 : Int32)), .val (.ref a_LOCALITY), .val (.int (1 : Int32)), .val (.int (128 : Int32)), .val (.int (1 : Int32)), .val (.int (1 : Int32)), .val (.int (0 : Int32)), .val (.int (1 : Int32)), .unset, .unset] [(.int (0 : Int32))])) st17 ?_
      refine Run.ifYes (pc' := 105) X17 hx (hb hby at_98) ((if0 _ _).trans (teq (by decide : (0 : Int32) = (0 : Int32))).1) (by decide) (by decide) ?_
      refine Run.iconst (pc' := 106) (v := (0 : Int32)) X17 hx (hb hby at_105) rfl rfl ?_
      refine Run.istore (pc' := 108) X17 hx (l' := #[.val (.int p0), .val (.int p1), .val (.int (1 : Int32)), .val (.ref a_LOCALITY), .val (.int (1 : Int32)), .val (.int (128 : Int32)), .val (.int (1 : Int32)), .val (.int (1 : Int32)), .val (.int (0 : Int32)), .val (.int (1 : Int32)), .val (.int (0 : Int32)), .unset]) (hb hby at_106) rfl rfl ?_
      refine Run.aloadN (pc' := 109) X17 hx (hb hby at_108) rfl rfl ?_
      refine Run.ldcInt (pc' := 111) (v := (-2147483648 : Int32)) X17 hx hown (mvT hZ (hw _ (List.mem_of_getElem? (i := 23) rfl))) (hb hby at_109) rfl ?_
      obtain ⟨T18, L18, v18, X18, Q18, st18⟩ := callVirtual X17 hx (y := (⟨"com/example/certwright/certwright/x509/AttributeType", "fits", "(I)Z"⟩ : MethodName)) (z := (⟨"com/example/certwright/certwright/x509/AttributeType", "fits", "(I)Z"⟩ : MethodName)) (C := "com/example/certwright/certwright/x509/AttributeType") (a := a_LOCALITY) (Ls := #[.val (.int p0), .val (.int p1), .val (.int (1 : Int32)), .val (.ref a_LOCALITY), .val (.int (1 : Int32)), .val (.int (128 : Int32)), .val (.int (1 : Int32)), .val (.int (1 : Int32)), .val (.int (0 : Int32)), .val (.int (1 : Int32)), .val (.int (0 : Int32)), .unset]) (rest := []) (W := 0) (argsL := [(.int (-2147483648 : Int32))]) hZ hown (hw _ (List.mem_of_getElem? (i := 14) rfl)) (hw _ (List.mem_of_getElem? (i := 15) rfl)) (notFace_of_selects (args := #[]) (mvT hZ (hw _ (List.mem_of_getElem? (i := 17) rfl)))) (hw _ (List.mem_of_getElem? (i := 17) rfl)) (hw _ (List.mem_of_getElem? (i := 16) rfl)) (hw _ (List.mem_of_getElem? (i := 6) rfl)) (hw _ (List.mem_of_getElem? (i := 18) rfl)) (by decide) e17 E_LOCALITY (rm4 l Z a0 hw [] a_LOCALITY (-2147483648 : Int32) (1 : Int32) (128 : Int32) h0 n0 Z0 F_LOCALITY_minLength F_LOCALITY_maxLength) (hb hby at_111) (lenOf own_pd2 rfl) (by decide) (by decide) (by rw [hml]; rfl) (Nat.le_of_eq rfl) (by decide) (by decide)
      obtain ⟨hv18, M18, e18⟩ := Q18
      rw [show (own_F4 a_LOCALITY (-2147483648 : Int32) (1 : Int32) (128 : Int32)) = (0 : Int32) from rfl] at hv18
      subst hv18
      have N18 := Fr.app N17 M18
      refine Run.back (g' := (mkF m 114 #[.val (.int p0), .val (.int p1), .val (.int (1 : Int32)), .val (.ref a_LOCALITY), .val (.int (1 : Int32)), .val (.int (128 : Int32)), .val (.int (1 : Int32)), .val (.int (1 : Int32)), .val (.int (0 : Int32)), .val (.int (1 : Int32)), .val (.int (0 : Int32)), .unset] [(.int (0 : Int32))])) st18 ?_
      refine Run.istore (pc' := 116) X18 hx (l' := #[.val (.int p0), .val (.int p1), .val (.int (1 : Int32)), .val (.ref a_LOCALITY), .val (.int (1 : Int32)), .val (.int (128 : Int32)), .val (.int (1 : Int32)), .val (.int (1 : Int32)), .val (.int (0 : Int32)), .val (.int (1 : Int32)), .val (.int (0 : Int32)), .val (.int (0 : Int32))]) (hb hby at_114) rfl rfl ?_
      refine Run.iload (pc' := 118) X18 hx (hb hby at_116) rfl rfl ?_
      refine Run.ifNo (pc' := 121) X18 hx (hb hby at_118) ((if0 _ _).trans (feq (by decide : ¬ ((1 : Int32) = (0 : Int32)))).1) rfl ?_
      refine Run.iload (pc' := 123) X18 hx (hb hby at_121) rfl rfl ?_
      refine Run.ifNo (pc' := 126) X18 hx (hb hby at_123) ((if0 _ _).trans (feq (by decide : ¬ ((1 : Int32) = (0 : Int32)))).1) rfl ?_
      refine Run.iload (pc' := 128) X18 hx (hb hby at_126) rfl rfl ?_
      refine Run.ifNo (pc' := 131) X18 hx (hb hby at_128) ((if0 _ _).trans (teq (by decide : (0 : Int32) = (0 : Int32))).2) rfl ?_
      refine Run.iload (pc' := 133) X18 hx (hb hby at_131) rfl rfl ?_
      refine Run.ifNo (pc' := 136) X18 hx (hb hby at_133) ((if0 _ _).trans (feq (by decide : ¬ ((1 : Int32) = (0 : Int32)))).1) rfl ?_
      refine Run.iload (pc' := 138) X18 hx (hb hby at_136) rfl rfl ?_
      refine Run.ifNo (pc' := 141) X18 hx (hb hby at_138) ((if0 _ _).trans (teq (by decide : (0 : Int32) = (0 : Int32))).2) rfl ?_
      refine Run.iload (pc' := 143) X18 hx (hb hby at_141) rfl rfl ?_
      refine Run.ifNo (pc' := 146) X18 hx (hb hby at_143) ((if0 _ _).trans (teq (by decide : (0 : Int32) = (0 : Int32))).2) rfl ?_
      refine Run.iconst (pc' := 147) (v := (1 : Int32)) X18 hx (hb hby at_146) rfl rfl ?_
      refine Run.goto (pc' := 151) X18 hx (hb hby at_147) (by decide) (by decide) ?_
      exact Run.retSmall X18 hx (t := .boolean) (z' := (1 : Int32)) Bd.notSynchronized Bd.returns (by simp) rfl (hb hby at_151) ⟨rfl, N18⟩ (by decide) (by decide)
    refine Run.iloadN (pc' := 31) X13 hx (hb hby at_30) rfl rfl ?_
    refine Run.iload (pc' := 33) X13 hx (hb hby at_31) rfl rfl ?_
    by_cases hc33 : p1 < (1 : Int32)
    · skip
      refine Run.icmpYes (pc' := 46) X13 hx (hb hby at_33) (tlt hc33).1 (by decide) (by decide) ?_
      refine Run.iconst (pc' := 47) (v := (0 : Int32)) X13 hx (hb hby at_46) rfl rfl ?_
      refine Run.icmpNo (pc' := 50) X13 hx (hb hby at_47) (teq (by rw [own_F4, if_pos hc33]; rfl)).2 rfl ?_
      refine Run.iconst (pc' := 51) (v := (1 : Int32)) X13 hx (hb hby at_50) rfl rfl ?_
      refine Run.goto (pc' := 55) X13 hx (hb hby at_51) (by decide) (by decide) ?_
      exact J55 _ _ X13 e13 N13
    · skip
      refine Run.icmpNo (pc' := 36) X13 hx (hb hby at_33) (flt hc33).1 rfl ?_
      refine Run.iloadN (pc' := 37) X13 hx (hb hby at_36) rfl rfl ?_
      refine Run.iload (pc' := 39) X13 hx (hb hby at_37) rfl rfl ?_
      by_cases hc39 : (128 : Int32) < p1
      · skip
        refine Run.icmpYes (pc' := 46) X13 hx (hb hby at_39) (tlt hc39).2.2.1 (by decide) (by decide) ?_
        refine Run.iconst (pc' := 47) (v := (0 : Int32)) X13 hx (hb hby at_46) rfl rfl ?_
        refine Run.icmpNo (pc' := 50) X13 hx (hb hby at_47) (teq (by rw [own_F4, if_neg hc33, if_pos hc39]; rfl)).2 rfl ?_
        refine Run.iconst (pc' := 51) (v := (1 : Int32)) X13 hx (hb hby at_50) rfl rfl ?_
        refine Run.goto (pc' := 55) X13 hx (hb hby at_51) (by decide) (by decide) ?_
        exact J55 _ _ X13 e13 N13
      · skip
        refine Run.icmpNo (pc' := 42) X13 hx (hb hby at_39) (flt hc39).2.2.1 rfl ?_
        refine Run.iconst (pc' := 43) (v := (1 : Int32)) X13 hx (hb hby at_42) rfl rfl ?_
        refine Run.goto (pc' := 47) X13 hx (hb hby at_43) (by decide) (by decide) ?_
        refine Run.icmpNo (pc' := 50) X13 hx (hb hby at_47) (teq (by rw [own_F4, if_neg hc33, if_neg hc39]; rfl)).2 rfl ?_
        refine Run.iconst (pc' := 51) (v := (1 : Int32)) X13 hx (hb hby at_50) rfl rfl ?_
        refine Run.goto (pc' := 55) X13 hx (hb hby at_51) (by decide) (by decide) ?_
        exact J55 _ _ X13 e13 N13
  · rw [hk]
    refine Run.iloadN (pc' := 9) X0 hx (hb hby at_8) rfl rfl ?_
    obtain ⟨T19, L19, v19, X19, Q19, st19⟩ := callStatic X0 hx (y := (⟨"com/example/certwright/certwright/x509/AttributeTypeFitsPinLaw", "type", "(I)Lcom/example/certwright/certwright/x509/AttributeType;"⟩ : MethodName)) (Ls := #[.val (.int p0), .val (.int p1), .val (.int (2 : Int32)), .unset, .unset, .unset, .unset, .unset, .unset, .unset, .unset, .unset]) (rest := []) (W := 0) (argsL := [(.int (2 : Int32))]) hZ hown (hw _ (List.mem_of_getElem? (i := 1) rfl)) (hw _ (List.mem_of_getElem? (i := 2) rfl)) (hw _ (List.mem_of_getElem? (i := 3) rfl)) (hw _ (List.mem_of_getElem? (i := 4) rfl)) (by decide) e0 (rm1 l Z a0 hw [] (2 : Int32) a_COMMON_NAME a_LOCALITY a_STATE_OR_PROVINCE a_ORGANIZATION a_ORGANIZATIONAL_UNIT a_COUNTRY a_STREET a_DOMAIN_COMPONENT a_USER_ID a_SERIAL_NUMBER a_EMAIL_ADDRESS h0 n0 Z0 S_COMMON_NAME S_LOCALITY S_STATE_OR_PROVINCE S_ORGANIZATION S_ORGANIZATIONAL_UNIT S_COUNTRY S_STREET S_DOMAIN_COMPONENT S_USER_ID S_SERIAL_NUMBER S_EMAIL_ADDRESS) (hb hby at_9) (lenOf own_pd0 rfl) (by decide) (by decide) (by rw [hml]; rfl) (Nat.le_of_eq rfl) (by decide) (by decide)
    obtain ⟨hv19, M19, e19⟩ := Q19
    rw [show (own_F1 (2 : Int32) a_COMMON_NAME a_LOCALITY a_STATE_OR_PROVINCE a_ORGANIZATION a_ORGANIZATIONAL_UNIT a_COUNTRY a_STREET a_DOMAIN_COMPONENT a_USER_ID a_SERIAL_NUMBER a_EMAIL_ADDRESS) = a_STATE_OR_PROVINCE from rfl] at hv19
    subst hv19
    have N19 := Fr.app N0 M19
    refine Run.back (g' := (mkF m 12 #[.val (.int p0), .val (.int p1), .val (.int (2 : Int32)), .unset, .unset, .unset, .unset, .unset, .unset, .unset, .unset, .unset] [(.ref a_STATE_OR_PROVINCE)])) st19 ?_
    refine Run.astoreN (pc' := 13) X19 hx (l' := #[.val (.int p0), .val (.int p1), .val (.int (2 : Int32)), .val (.ref a_STATE_OR_PROVINCE), .unset, .unset, .unset, .unset, .unset, .unset, .unset, .unset]) (hb hby at_12) rfl rfl ?_
    refine Run.iloadN (pc' := 14) X19 hx (hb hby at_13) rfl rfl ?_
    obtain ⟨T20, L20, v20, X20, Q20, st20⟩ := callStatic X19 hx (y := (⟨"com/example/certwright/certwright/x509/AttributeTypeFitsPinLaw", "low", "(I)I"⟩ : MethodName)) (Ls := #[.val (.int p0), .val (.int p1), .val (.int (2 : Int32)), .val (.ref a_STATE_OR_PROVINCE), .unset, .unset, .unset, .unset, .unset, .unset, .unset, .unset]) (rest := []) (W := 0) (argsL := [(.int (2 : Int32))]) hZ hown (hw _ (List.mem_of_getElem? (i := 8) rfl)) (hw _ (List.mem_of_getElem? (i := 9) rfl)) (hw _ (List.mem_of_getElem? (i := 3) rfl)) (hw _ (List.mem_of_getElem? (i := 10) rfl)) (by decide) e19 (rm2 l Z a0 hw [] (2 : Int32)  h0 n0 Z0 ) (hb hby at_14) (lenOf own_pd1 rfl) (by decide) (by decide) (by rw [hml]; rfl) (Nat.le_of_eq rfl) (by decide) (by decide)
    obtain ⟨hv20, M20, e20⟩ := Q20
    rw [show (own_F2 (2 : Int32)) = (1 : Int32) from rfl] at hv20
    subst hv20
    have N20 := Fr.app N19 M20
    refine Run.back (g' := (mkF m 17 #[.val (.int p0), .val (.int p1), .val (.int (2 : Int32)), .val (.ref a_STATE_OR_PROVINCE), .unset, .unset, .unset, .unset, .unset, .unset, .unset, .unset] [(.int (1 : Int32))])) st20 ?_
    refine Run.istore (pc' := 19) X20 hx (l' := #[.val (.int p0), .val (.int p1), .val (.int (2 : Int32)), .val (.ref a_STATE_OR_PROVINCE), .val (.int (1 : Int32)), .unset, .unset, .unset, .unset, .unset, .unset, .unset]) (hb hby at_17) rfl rfl ?_
    refine Run.iloadN (pc' := 20) X20 hx (hb hby at_19) rfl rfl ?_
    obtain ⟨T21, L21, v21, X21, Q21, st21⟩ := callStatic X20 hx (y := (⟨"com/example/certwright/certwright/x509/AttributeTypeFitsPinLaw", "high", "(I)I"⟩ : MethodName)) (Ls := #[.val (.int p0), .val (.int p1), .val (.int (2 : Int32)), .val (.ref a_STATE_OR_PROVINCE), .val (.int (1 : Int32)), .unset, .unset, .unset, .unset, .unset, .unset, .unset]) (rest := []) (W := 0) (argsL := [(.int (2 : Int32))]) hZ hown (hw _ (List.mem_of_getElem? (i := 11) rfl)) (hw _ (List.mem_of_getElem? (i := 12) rfl)) (hw _ (List.mem_of_getElem? (i := 3) rfl)) (hw _ (List.mem_of_getElem? (i := 13) rfl)) (by decide) e20 (rm3 l Z a0 hw [] (2 : Int32)  h0 n0 Z0 ) (hb hby at_20) (lenOf own_pd1 rfl) (by decide) (by decide) (by rw [hml]; rfl) (Nat.le_of_eq rfl) (by decide) (by decide)
    obtain ⟨hv21, M21, e21⟩ := Q21
    rw [show (own_F3 (2 : Int32)) = (128 : Int32) from rfl] at hv21
    subst hv21
    have N21 := Fr.app N20 M21
    refine Run.back (g' := (mkF m 23 #[.val (.int p0), .val (.int p1), .val (.int (2 : Int32)), .val (.ref a_STATE_OR_PROVINCE), .val (.int (1 : Int32)), .unset, .unset, .unset, .unset, .unset, .unset, .unset] [(.int (128 : Int32))])) st21 ?_
    refine Run.istore (pc' := 25) X21 hx (l' := #[.val (.int p0), .val (.int p1), .val (.int (2 : Int32)), .val (.ref a_STATE_OR_PROVINCE), .val (.int (1 : Int32)), .val (.int (128 : Int32)), .unset, .unset, .unset, .unset, .unset, .unset]) (hb hby at_23) rfl rfl ?_
    refine Run.aloadN (pc' := 26) X21 hx (hb hby at_25) rfl rfl ?_
    refine Run.iloadN (pc' := 27) X21 hx (hb hby at_26) rfl rfl ?_
    obtain ⟨T22, L22, v22, X22, Q22, st22⟩ := callVirtual X21 hx (y := (⟨"com/example/certwright/certwright/x509/AttributeType", "fits", "(I)Z"⟩ : MethodName)) (z := (⟨"com/example/certwright/certwright/x509/AttributeType", "fits", "(I)Z"⟩ : MethodName)) (C := "com/example/certwright/certwright/x509/AttributeType") (a := a_STATE_OR_PROVINCE) (Ls := #[.val (.int p0), .val (.int p1), .val (.int (2 : Int32)), .val (.ref a_STATE_OR_PROVINCE), .val (.int (1 : Int32)), .val (.int (128 : Int32)), .unset, .unset, .unset, .unset, .unset, .unset]) (rest := []) (W := 0) (argsL := [(.int p1)]) hZ hown (hw _ (List.mem_of_getElem? (i := 14) rfl)) (hw _ (List.mem_of_getElem? (i := 15) rfl)) (notFace_of_selects (args := #[]) (mvT hZ (hw _ (List.mem_of_getElem? (i := 17) rfl)))) (hw _ (List.mem_of_getElem? (i := 17) rfl)) (hw _ (List.mem_of_getElem? (i := 16) rfl)) (hw _ (List.mem_of_getElem? (i := 6) rfl)) (hw _ (List.mem_of_getElem? (i := 18) rfl)) (by decide) e21 E_STATE_OR_PROVINCE (rm4 l Z a0 hw [] a_STATE_OR_PROVINCE p1 (1 : Int32) (128 : Int32) h0 n0 Z0 F_STATE_OR_PROVINCE_minLength F_STATE_OR_PROVINCE_maxLength) (hb hby at_27) (lenOf own_pd2 rfl) (by decide) (by decide) (by rw [hml]; rfl) (Nat.le_of_eq rfl) (by decide) (by decide)
    obtain ⟨rfl, M22, e22⟩ := Q22
    have N22 := Fr.app N21 M22
    refine Run.back (g' := (mkF m 30 #[.val (.int p0), .val (.int p1), .val (.int (2 : Int32)), .val (.ref a_STATE_OR_PROVINCE), .val (.int (1 : Int32)), .val (.int (128 : Int32)), .unset, .unset, .unset, .unset, .unset, .unset] [(.int (own_F4 a_STATE_OR_PROVINCE p1 (1 : Int32) (128 : Int32)))])) st22 ?_
    have J55 : ∀ (T : State) (locs : List Loc), Stand p l e room_1 s m #[(.int p0), (.int p1)] below meth c T locs 0 0 → T.heap = h0 → Fr n0 locs → Run p.tables e below (FinR s room_1.cells room_1.slots (fun v h L => v = some (.int 1) ∧ Fr n0 L)) T (mkF m 55 #[.val (.int p0), .val (.int p1), .val (.int (2 : Int32)), .val (.ref a_STATE_OR_PROVINCE), .val (.int (1 : Int32)), .val (.int (128 : Int32)), .unset, .unset, .unset, .unset, .unset, .unset] [(.int (1 : Int32))]) := by
      intro T locs X eT N
      refine Run.istore (pc' := 57) X hx (l' := #[.val (.int p0), .val (.int p1), .val (.int (2 : Int32)), .val (.ref a_STATE_OR_PROVINCE), .val (.int (1 : Int32)), .val (.int (128 : Int32)), .val (.int (1 : Int32)), .unset, .unset, .unset, .unset, .unset]) (hb hby at_55) rfl rfl ?_
      refine Run.aloadN (pc' := 58) X hx (hb hby at_57) rfl rfl ?_
      refine Run.iload (pc' := 60) X hx (hb hby at_58) rfl rfl ?_
      obtain ⟨T23, L23, v23, X23, Q23, st23⟩ := callVirtual X hx (y := (⟨"com/example/certwright/certwright/x509/AttributeType", "fits", "(I)Z"⟩ : MethodName)) (z := (⟨"com/example/certwright/certwright/x509/AttributeType", "fits", "(I)Z"⟩ : MethodName)) (C := "com/example/certwright/certwright/x509/AttributeType") (a := a_STATE_OR_PROVINCE) (Ls := #[.val (.int p0), .val (.int p1), .val (.int (2 : Int32)), .val (.ref a_STATE_OR_PROVINCE), .val (.int (1 : Int32)), .val (.int (128 : Int32)), .val (.int (1 : Int32)), .unset, .unset, .unset, .unset, .unset]) (rest := []) (W := 0) (argsL := [(.int (1 : Int32))]) hZ hown (hw _ (List.mem_of_getElem? (i := 14) rfl)) (hw _ (List.mem_of_getElem? (i := 15) rfl)) (notFace_of_selects (args := #[]) (mvT hZ (hw _ (List.mem_of_getElem? (i := 17) rfl)))) (hw _ (List.mem_of_getElem? (i := 17) rfl)) (hw _ (List.mem_of_getElem? (i := 16) rfl)) (hw _ (List.mem_of_getElem? (i := 6) rfl)) (hw _ (List.mem_of_getElem? (i := 18) rfl)) (by decide) eT E_STATE_OR_PROVINCE (rm4 l Z a0 hw [] a_STATE_OR_PROVINCE (1 : Int32) (1 : Int32) (128 : Int32) h0 n0 Z0 F_STATE_OR_PROVINCE_minLength F_STATE_OR_PROVINCE_maxLength) (hb hby at_60) (lenOf own_pd2 rfl) (by decide) (by decide) (by rw [hml]; rfl) (Nat.le_of_eq rfl) (by decide) (by decide)
      obtain ⟨hv23, M23, e23⟩ := Q23
      rw [show (own_F4 a_STATE_OR_PROVINCE (1 : Int32) (1 : Int32) (128 : Int32)) = (1 : Int32) from rfl] at hv23
      subst hv23
      have N23 := Fr.app N M23
      refine Run.back (g' := (mkF m 63 #[.val (.int p0), .val (.int p1), .val (.int (2 : Int32)), .val (.ref a_STATE_OR_PROVINCE), .val (.int (1 : Int32)), .val (.int (128 : Int32)), .val (.int (1 : Int32)), .unset, .unset, .unset, .unset, .unset] [(.int (1 : Int32))])) st23 ?_
      refine Run.istore (pc' := 65) X23 hx (l' := #[.val (.int p0), .val (.int p1), .val (.int (2 : Int32)), .val (.ref a_STATE_OR_PROVINCE), .val (.int (1 : Int32)), .val (.int (128 : Int32)), .val (.int (1 : Int32)), .val (.int (1 : Int32)), .unset, .unset, .unset, .unset]) (hb hby at_63) rfl rfl ?_
      refine Run.aloadN (pc' := 66) X23 hx (hb hby at_65) rfl rfl ?_
      refine Run.iload (pc' := 68) X23 hx (hb hby at_66) rfl rfl ?_
      refine Run.iconst (pc' := 69) (v := (1 : Int32)) X23 hx (hb hby at_68) rfl rfl ?_
      refine Run.isub (pc' := 70) X23 hx (hb hby at_69) rfl ?_
      obtain ⟨T24, L24, v24, X24, Q24, st24⟩ := callVirtual X23 hx (y := (⟨"com/example/certwright/certwright/x509/AttributeType", "fits", "(I)Z"⟩ : MethodName)) (z := (⟨"com/example/certwright/certwright/x509/AttributeType", "fits", "(I)Z"⟩ : MethodName)) (C := "com/example/certwright/certwright/x509/AttributeType") (a := a_STATE_OR_PROVINCE) (Ls := #[.val (.int p0), .val (.int p1), .val (.int (2 : Int32)), .val (.ref a_STATE_OR_PROVINCE), .val (.int (1 : Int32)), .val (.int (128 : Int32)), .val (.int (1 : Int32)), .val (.int (1 : Int32)), .unset, .unset, .unset, .unset]) (rest := []) (W := 0) (argsL := [(.int ((1 : Int32) - (1 : Int32)))]) hZ hown (hw _ (List.mem_of_getElem? (i := 14) rfl)) (hw _ (List.mem_of_getElem? (i := 15) rfl)) (notFace_of_selects (args := #[]) (mvT hZ (hw _ (List.mem_of_getElem? (i := 17) rfl)))) (hw _ (List.mem_of_getElem? (i := 17) rfl)) (hw _ (List.mem_of_getElem? (i := 16) rfl)) (hw _ (List.mem_of_getElem? (i := 6) rfl)) (hw _ (List.mem_of_getElem? (i := 18) rfl)) (by decide) e23 E_STATE_OR_PROVINCE (rm4 l Z a0 hw [] a_STATE_OR_PROVINCE ((1 : Int32) - (1 : Int32)) (1 : Int32) (128 : Int32) h0 n0 Z0 F_STATE_OR_PROVINCE_minLength F_STATE_OR_PROVINCE_maxLength) (hb hby at_70) (lenOf own_pd2 rfl) (by decide) (by decide) (by rw [hml]; rfl) (Nat.le_of_eq rfl) (by decide) (by decide)
      obtain ⟨hv24, M24, e24⟩ := Q24
      rw [show (own_F4 a_STATE_OR_PROVINCE ((1 : Int32) - (1 : Int32)) (1 : Int32) (128 : Int32)) = (0 : Int32) from rfl] at hv24
      subst hv24
      have N24 := Fr.app N23 M24
      refine Run.back (g' := (mkF m 73 #[.val (.int p0), .val (.int p1), .val (.int (2 : Int32)), .val (.ref a_STATE_OR_PROVINCE), .val (.int (1 : Int32)), .val (.int (128 : Int32)), .val (.int (1 : Int32)), .val (.int (1 : Int32)), .unset, .unset, .unset, .unset] [(.int (0 : Int32))])) st24 ?_
      refine Run.istore (pc' := 75) X24 hx (l' := #[.val (.int p0), .val (.int p1), .val (.int (2 : Int32)), .val (.ref a_STATE_OR_PROVINCE), .val (.int (1 : Int32)), .val (.int (128 : Int32)), .val (.int (1 : Int32)), .val (.int (1 : Int32)), .val (.int (0 : Int32)), .unset, .unset, .unset]) (hb hby at_73) rfl rfl ?_
      refine Run.aloadN (pc' := 76) X24 hx (hb hby at_75) rfl rfl ?_
      refine Run.iload (pc' := 78) X24 hx (hb hby at_76) rfl rfl ?_
      obtain ⟨T25, L25, v25, X25, Q25, st25⟩ := callVirtual X24 hx (y := (⟨"com/example/certwright/certwright/x509/AttributeType", "fits", "(I)Z"⟩ : MethodName)) (z := (⟨"com/example/certwright/certwright/x509/AttributeType", "fits", "(I)Z"⟩ : MethodName)) (C := "com/example/certwright/certwright/x509/AttributeType") (a := a_STATE_OR_PROVINCE) (Ls := #[.val (.int p0), .val (.int p1), .val (.int (2 : Int32)), .val (.ref a_STATE_OR_PROVINCE), .val (.int (1 : Int32)), .val (.int (128 : Int32)), .val (.int (1 : Int32)), .val (.int (1 : Int32)), .val (.int (0 : Int32)), .unset, .unset, .unset]) (rest := []) (W := 0) (argsL := [(.int (128 : Int32))]) hZ hown (hw _ (List.mem_of_getElem? (i := 14) rfl)) (hw _ (List.mem_of_getElem? (i := 15) rfl)) (notFace_of_selects (args := #[]) (mvT hZ (hw _ (List.mem_of_getElem? (i := 17) rfl)))) (hw _ (List.mem_of_getElem? (i := 17) rfl)) (hw _ (List.mem_of_getElem? (i := 16) rfl)) (hw _ (List.mem_of_getElem? (i := 6) rfl)) (hw _ (List.mem_of_getElem? (i := 18) rfl)) (by decide) e24 E_STATE_OR_PROVINCE (rm4 l Z a0 hw [] a_STATE_OR_PROVINCE (128 : Int32) (1 : Int32) (128 : Int32) h0 n0 Z0 F_STATE_OR_PROVINCE_minLength F_STATE_OR_PROVINCE_maxLength) (hb hby at_78) (lenOf own_pd2 rfl) (by decide) (by decide) (by rw [hml]; rfl) (Nat.le_of_eq rfl) (by decide) (by decide)
      obtain ⟨hv25, M25, e25⟩ := Q25
      rw [show (own_F4 a_STATE_OR_PROVINCE (128 : Int32) (1 : Int32) (128 : Int32)) = (1 : Int32) from rfl] at hv25
      subst hv25
      have N25 := Fr.app N24 M25
      refine Run.back (g' := (mkF m 81 #[.val (.int p0), .val (.int p1), .val (.int (2 : Int32)), .val (.ref a_STATE_OR_PROVINCE), .val (.int (1 : Int32)), .val (.int (128 : Int32)), .val (.int (1 : Int32)), .val (.int (1 : Int32)), .val (.int (0 : Int32)), .unset, .unset, .unset] [(.int (1 : Int32))])) st25 ?_
      refine Run.istore (pc' := 83) X25 hx (l' := #[.val (.int p0), .val (.int p1), .val (.int (2 : Int32)), .val (.ref a_STATE_OR_PROVINCE), .val (.int (1 : Int32)), .val (.int (128 : Int32)), .val (.int (1 : Int32)), .val (.int (1 : Int32)), .val (.int (0 : Int32)), .val (.int (1 : Int32)), .unset, .unset]) (hb hby at_81) rfl rfl ?_
      refine Run.iload (pc' := 85) X25 hx (hb hby at_83) rfl rfl ?_
      refine Run.ldcInt (pc' := 87) (v := (2147483647 : Int32)) X25 hx hown (mvT hZ (hw _ (List.mem_of_getElem? (i := 0) rfl))) (hb hby at_85) rfl ?_
      refine Run.icmpNo (pc' := 90) X25 hx (hb hby at_87) (feq (by decide : ¬ ((128 : Int32) = (2147483647 : Int32)))).1 rfl ?_
      refine Run.aloadN (pc' := 91) X25 hx (hb hby at_90) rfl rfl ?_
      refine Run.iload (pc' := 93) X25 hx (hb hby at_91) rfl rfl ?_
      refine Run.iconst (pc' := 94) (v := (1 : Int32)) X25 hx (hb hby at_93) rfl rfl ?_
      refine Run.iadd (pc' := 95) X25 hx (hb hby at_94) rfl ?_
      obtain ⟨T26, L26, v26, X26, Q26, st26⟩ := callVirtual X25 hx (y := (⟨"com/example/certwright/certwright/x509/AttributeType", "fits", "(I)Z"⟩ : MethodName)) (z := (⟨"com/example/certwright/certwright/x509/AttributeType", "fits", "(I)Z"⟩ : MethodName)) (C := "com/example/certwright/certwright/x509/AttributeType") (a := a_STATE_OR_PROVINCE) (Ls := #[.val (.int p0), .val (.int p1), .val (.int (2 : Int32)), .val (.ref a_STATE_OR_PROVINCE), .val (.int (1 : Int32)), .val (.int (128 : Int32)), .val (.int (1 : Int32)), .val (.int (1 : Int32)), .val (.int (0 : Int32)), .val (.int (1 : Int32)), .unset, .unset]) (rest := []) (W := 0) (argsL := [(.int ((128 : Int32) + (1 : Int32)))]) hZ hown (hw _ (List.mem_of_getElem? (i := 14) rfl)) (hw _ (List.mem_of_getElem? (i := 15) rfl)) (notFace_of_selects (args := #[]) (mvT hZ (hw _ (List.mem_of_getElem? (i := 17) rfl)))) (hw _ (List.mem_of_getElem? (i := 17) rfl)) (hw _ (List.mem_of_getElem? (i := 16) rfl)) (hw _ (List.mem_of_getElem? (i := 6) rfl)) (hw _ (List.mem_of_getElem? (i := 18) rfl)) (by decide) e25 E_STATE_OR_PROVINCE (rm4 l Z a0 hw [] a_STATE_OR_PROVINCE ((128 : Int32) + (1 : Int32)) (1 : Int32) (128 : Int32) h0 n0 Z0 F_STATE_OR_PROVINCE_minLength F_STATE_OR_PROVINCE_maxLength) (hb hby at_95) (lenOf own_pd2 rfl) (by decide) (by decide) (by rw [hml]; rfl) (Nat.le_of_eq rfl) (by decide) (by decide)
      obtain ⟨hv26, M26, e26⟩ := Q26
      rw [show (own_F4 a_STATE_OR_PROVINCE ((128 : Int32) + (1 : Int32)) (1 : Int32) (128 : Int32)) = (0 : Int32) from rfl] at hv26
      subst hv26
      have N26 := Fr.app N25 M26
      refine Run.back (g' := (mkF m 98 #[.val (.int p0), .val (.int p1), .val (.int (2 : Int32)), .val (.ref a_STATE_OR_PROVINCE), .val (.int (1 : Int32)), .val (.int (128 : Int32)), .val (.int (1 : Int32)), .val (.int (1 : Int32)), .val (.int (0 : Int32)), .val (.int (1 : Int32)), .unset, .unset] [(.int (0 : Int32))])) st26 ?_
      refine Run.ifYes (pc' := 105) X26 hx (hb hby at_98) ((if0 _ _).trans (teq (by decide : (0 : Int32) = (0 : Int32))).1) (by decide) (by decide) ?_
      refine Run.iconst (pc' := 106) (v := (0 : Int32)) X26 hx (hb hby at_105) rfl rfl ?_
      refine Run.istore (pc' := 108) X26 hx (l' := #[.val (.int p0), .val (.int p1), .val (.int (2 : Int32)), .val (.ref a_STATE_OR_PROVINCE), .val (.int (1 : Int32)), .val (.int (128 : Int32)), .val (.int (1 : Int32)), .val (.int (1 : Int32)), .val (.int (0 : Int32)), .val (.int (1 : Int32)), .val (.int (0 : Int32)), .unset]) (hb hby at_106) rfl rfl ?_
      refine Run.aloadN (pc' := 109) X26 hx (hb hby at_108) rfl rfl ?_
      refine Run.ldcInt (pc' := 111) (v := (-2147483648 : Int32)) X26 hx hown (mvT hZ (hw _ (List.mem_of_getElem? (i := 23) rfl))) (hb hby at_109) rfl ?_
      obtain ⟨T27, L27, v27, X27, Q27, st27⟩ := callVirtual X26 hx (y := (⟨"com/example/certwright/certwright/x509/AttributeType", "fits", "(I)Z"⟩ : MethodName)) (z := (⟨"com/example/certwright/certwright/x509/AttributeType", "fits", "(I)Z"⟩ : MethodName)) (C := "com/example/certwright/certwright/x509/AttributeType") (a := a_STATE_OR_PROVINCE) (Ls := #[.val (.int p0), .val (.int p1), .val (.int (2 : Int32)), .val (.ref a_STATE_OR_PROVINCE), .val (.int (1 : Int32)), .val (.int (128 : Int32)), .val (.int (1 : Int32)), .val (.int (1 : Int32)), .val (.int (0 : Int32)), .val (.int (1 : Int32)), .val (.int (0 : Int32)), .unset]) (rest := []) (W := 0) (argsL := [(.int (-2147483648 : Int32))]) hZ hown (hw _ (List.mem_of_getElem? (i := 14) rfl)) (hw _ (List.mem_of_getElem? (i := 15) rfl)) (notFace_of_selects (args := #[]) (mvT hZ (hw _ (List.mem_of_getElem? (i := 17) rfl)))) (hw _ (List.mem_of_getElem? (i := 17) rfl)) (hw _ (List.mem_of_getElem? (i := 16) rfl)) (hw _ (List.mem_of_getElem? (i := 6) rfl)) (hw _ (List.mem_of_getElem? (i := 18) rfl)) (by decide) e26 E_STATE_OR_PROVINCE (rm4 l Z a0 hw [] a_STATE_OR_PROVINCE (-2147483648 : Int32) (1 : Int32) (128 : Int32) h0 n0 Z0 F_STATE_OR_PROVINCE_minLength F_STATE_OR_PROVINCE_maxLength) (hb hby at_111) (lenOf own_pd2 rfl) (by decide) (by decide) (by rw [hml]; rfl) (Nat.le_of_eq rfl) (by decide) (by decide)
      obtain ⟨hv27, M27, e27⟩ := Q27
      rw [show (own_F4 a_STATE_OR_PROVINCE (-2147483648 : Int32) (1 : Int32) (128 : Int32)) = (0 : Int32) from rfl] at hv27
      subst hv27
      have N27 := Fr.app N26 M27
      refine Run.back (g' := (mkF m 114 #[.val (.int p0), .val (.int p1), .val (.int (2 : Int32)), .val (.ref a_STATE_OR_PROVINCE), .val (.int (1 : Int32)), .val (.int (128 : Int32)), .val (.int (1 : Int32)), .val (.int (1 : Int32)), .val (.int (0 : Int32)), .val (.int (1 : Int32)), .val (.int (0 : Int32)), .unset] [(.int (0 : Int32))])) st27 ?_
      refine Run.istore (pc' := 116) X27 hx (l' := #[.val (.int p0), .val (.int p1), .val (.int (2 : Int32)), .val (.ref a_STATE_OR_PROVINCE), .val (.int (1 : Int32)), .val (.int (128 : Int32)), .val (.int (1 : Int32)), .val (.int (1 : Int32)), .val (.int (0 : Int32)), .val (.int (1 : Int32)), .val (.int (0 : Int32)), .val (.int (0 : Int32))]) (hb hby at_114) rfl rfl ?_
      refine Run.iload (pc' := 118) X27 hx (hb hby at_116) rfl rfl ?_
      refine Run.ifNo (pc' := 121) X27 hx (hb hby at_118) ((if0 _ _).trans (feq (by decide : ¬ ((1 : Int32) = (0 : Int32)))).1) rfl ?_
      refine Run.iload (pc' := 123) X27 hx (hb hby at_121) rfl rfl ?_
      refine Run.ifNo (pc' := 126) X27 hx (hb hby at_123) ((if0 _ _).trans (feq (by decide : ¬ ((1 : Int32) = (0 : Int32)))).1) rfl ?_
      refine Run.iload (pc' := 128) X27 hx (hb hby at_126) rfl rfl ?_
      refine Run.ifNo (pc' := 131) X27 hx (hb hby at_128) ((if0 _ _).trans (teq (by decide : (0 : Int32) = (0 : Int32))).2) rfl ?_
      refine Run.iload (pc' := 133) X27 hx (hb hby at_131) rfl rfl ?_
      refine Run.ifNo (pc' := 136) X27 hx (hb hby at_133) ((if0 _ _).trans (feq (by decide : ¬ ((1 : Int32) = (0 : Int32)))).1) rfl ?_
      refine Run.iload (pc' := 138) X27 hx (hb hby at_136) rfl rfl ?_
      refine Run.ifNo (pc' := 141) X27 hx (hb hby at_138) ((if0 _ _).trans (teq (by decide : (0 : Int32) = (0 : Int32))).2) rfl ?_
      refine Run.iload (pc' := 143) X27 hx (hb hby at_141) rfl rfl ?_
      refine Run.ifNo (pc' := 146) X27 hx (hb hby at_143) ((if0 _ _).trans (teq (by decide : (0 : Int32) = (0 : Int32))).2) rfl ?_
      refine Run.iconst (pc' := 147) (v := (1 : Int32)) X27 hx (hb hby at_146) rfl rfl ?_
      refine Run.goto (pc' := 151) X27 hx (hb hby at_147) (by decide) (by decide) ?_
      exact Run.retSmall X27 hx (t := .boolean) (z' := (1 : Int32)) Bd.notSynchronized Bd.returns (by simp) rfl (hb hby at_151) ⟨rfl, N27⟩ (by decide) (by decide)
    refine Run.iloadN (pc' := 31) X22 hx (hb hby at_30) rfl rfl ?_
    refine Run.iload (pc' := 33) X22 hx (hb hby at_31) rfl rfl ?_
    by_cases hc33 : p1 < (1 : Int32)
    · skip
      refine Run.icmpYes (pc' := 46) X22 hx (hb hby at_33) (tlt hc33).1 (by decide) (by decide) ?_
      refine Run.iconst (pc' := 47) (v := (0 : Int32)) X22 hx (hb hby at_46) rfl rfl ?_
      refine Run.icmpNo (pc' := 50) X22 hx (hb hby at_47) (teq (by rw [own_F4, if_pos hc33]; rfl)).2 rfl ?_
      refine Run.iconst (pc' := 51) (v := (1 : Int32)) X22 hx (hb hby at_50) rfl rfl ?_
      refine Run.goto (pc' := 55) X22 hx (hb hby at_51) (by decide) (by decide) ?_
      exact J55 _ _ X22 e22 N22
    · skip
      refine Run.icmpNo (pc' := 36) X22 hx (hb hby at_33) (flt hc33).1 rfl ?_
      refine Run.iloadN (pc' := 37) X22 hx (hb hby at_36) rfl rfl ?_
      refine Run.iload (pc' := 39) X22 hx (hb hby at_37) rfl rfl ?_
      by_cases hc39 : (128 : Int32) < p1
      · skip
        refine Run.icmpYes (pc' := 46) X22 hx (hb hby at_39) (tlt hc39).2.2.1 (by decide) (by decide) ?_
        refine Run.iconst (pc' := 47) (v := (0 : Int32)) X22 hx (hb hby at_46) rfl rfl ?_
        refine Run.icmpNo (pc' := 50) X22 hx (hb hby at_47) (teq (by rw [own_F4, if_neg hc33, if_pos hc39]; rfl)).2 rfl ?_
        refine Run.iconst (pc' := 51) (v := (1 : Int32)) X22 hx (hb hby at_50) rfl rfl ?_
        refine Run.goto (pc' := 55) X22 hx (hb hby at_51) (by decide) (by decide) ?_
        exact J55 _ _ X22 e22 N22
      · skip
        refine Run.icmpNo (pc' := 42) X22 hx (hb hby at_39) (flt hc39).2.2.1 rfl ?_
        refine Run.iconst (pc' := 43) (v := (1 : Int32)) X22 hx (hb hby at_42) rfl rfl ?_
        refine Run.goto (pc' := 47) X22 hx (hb hby at_43) (by decide) (by decide) ?_
        refine Run.icmpNo (pc' := 50) X22 hx (hb hby at_47) (teq (by rw [own_F4, if_neg hc33, if_neg hc39]; rfl)).2 rfl ?_
        refine Run.iconst (pc' := 51) (v := (1 : Int32)) X22 hx (hb hby at_50) rfl rfl ?_
        refine Run.goto (pc' := 55) X22 hx (hb hby at_51) (by decide) (by decide) ?_
        exact J55 _ _ X22 e22 N22
  · rw [hk]
    refine Run.iloadN (pc' := 9) X0 hx (hb hby at_8) rfl rfl ?_
    obtain ⟨T28, L28, v28, X28, Q28, st28⟩ := callStatic X0 hx (y := (⟨"com/example/certwright/certwright/x509/AttributeTypeFitsPinLaw", "type", "(I)Lcom/example/certwright/certwright/x509/AttributeType;"⟩ : MethodName)) (Ls := #[.val (.int p0), .val (.int p1), .val (.int (3 : Int32)), .unset, .unset, .unset, .unset, .unset, .unset, .unset, .unset, .unset]) (rest := []) (W := 0) (argsL := [(.int (3 : Int32))]) hZ hown (hw _ (List.mem_of_getElem? (i := 1) rfl)) (hw _ (List.mem_of_getElem? (i := 2) rfl)) (hw _ (List.mem_of_getElem? (i := 3) rfl)) (hw _ (List.mem_of_getElem? (i := 4) rfl)) (by decide) e0 (rm1 l Z a0 hw [] (3 : Int32) a_COMMON_NAME a_LOCALITY a_STATE_OR_PROVINCE a_ORGANIZATION a_ORGANIZATIONAL_UNIT a_COUNTRY a_STREET a_DOMAIN_COMPONENT a_USER_ID a_SERIAL_NUMBER a_EMAIL_ADDRESS h0 n0 Z0 S_COMMON_NAME S_LOCALITY S_STATE_OR_PROVINCE S_ORGANIZATION S_ORGANIZATIONAL_UNIT S_COUNTRY S_STREET S_DOMAIN_COMPONENT S_USER_ID S_SERIAL_NUMBER S_EMAIL_ADDRESS) (hb hby at_9) (lenOf own_pd0 rfl) (by decide) (by decide) (by rw [hml]; rfl) (Nat.le_of_eq rfl) (by decide) (by decide)
    obtain ⟨hv28, M28, e28⟩ := Q28
    rw [show (own_F1 (3 : Int32) a_COMMON_NAME a_LOCALITY a_STATE_OR_PROVINCE a_ORGANIZATION a_ORGANIZATIONAL_UNIT a_COUNTRY a_STREET a_DOMAIN_COMPONENT a_USER_ID a_SERIAL_NUMBER a_EMAIL_ADDRESS) = a_ORGANIZATION from rfl] at hv28
    subst hv28
    have N28 := Fr.app N0 M28
    refine Run.back (g' := (mkF m 12 #[.val (.int p0), .val (.int p1), .val (.int (3 : Int32)), .unset, .unset, .unset, .unset, .unset, .unset, .unset, .unset, .unset] [(.ref a_ORGANIZATION)])) st28 ?_
    refine Run.astoreN (pc' := 13) X28 hx (l' := #[.val (.int p0), .val (.int p1), .val (.int (3 : Int32)), .val (.ref a_ORGANIZATION), .unset, .unset, .unset, .unset, .unset, .unset, .unset, .unset]) (hb hby at_12) rfl rfl ?_
    refine Run.iloadN (pc' := 14) X28 hx (hb hby at_13) rfl rfl ?_
    obtain ⟨T29, L29, v29, X29, Q29, st29⟩ := callStatic X28 hx (y := (⟨"com/example/certwright/certwright/x509/AttributeTypeFitsPinLaw", "low", "(I)I"⟩ : MethodName)) (Ls := #[.val (.int p0), .val (.int p1), .val (.int (3 : Int32)), .val (.ref a_ORGANIZATION), .unset, .unset, .unset, .unset, .unset, .unset, .unset, .unset]) (rest := []) (W := 0) (argsL := [(.int (3 : Int32))]) hZ hown (hw _ (List.mem_of_getElem? (i := 8) rfl)) (hw _ (List.mem_of_getElem? (i := 9) rfl)) (hw _ (List.mem_of_getElem? (i := 3) rfl)) (hw _ (List.mem_of_getElem? (i := 10) rfl)) (by decide) e28 (rm2 l Z a0 hw [] (3 : Int32)  h0 n0 Z0 ) (hb hby at_14) (lenOf own_pd1 rfl) (by decide) (by decide) (by rw [hml]; rfl) (Nat.le_of_eq rfl) (by decide) (by decide)
    obtain ⟨hv29, M29, e29⟩ := Q29
    rw [show (own_F2 (3 : Int32)) = (1 : Int32) from rfl] at hv29
    subst hv29
    have N29 := Fr.app N28 M29
    refine Run.back (g' := (mkF m 17 #[.val (.int p0), .val (.int p1), .val (.int (3 : Int32)), .val (.ref a_ORGANIZATION), .unset, .unset, .unset, .unset, .unset, .unset, .unset, .unset] [(.int (1 : Int32))])) st29 ?_
    refine Run.istore (pc' := 19) X29 hx (l' := #[.val (.int p0), .val (.int p1), .val (.int (3 : Int32)), .val (.ref a_ORGANIZATION), .val (.int (1 : Int32)), .unset, .unset, .unset, .unset, .unset, .unset, .unset]) (hb hby at_17) rfl rfl ?_
    refine Run.iloadN (pc' := 20) X29 hx (hb hby at_19) rfl rfl ?_
    obtain ⟨T30, L30, v30, X30, Q30, st30⟩ := callStatic X29 hx (y := (⟨"com/example/certwright/certwright/x509/AttributeTypeFitsPinLaw", "high", "(I)I"⟩ : MethodName)) (Ls := #[.val (.int p0), .val (.int p1), .val (.int (3 : Int32)), .val (.ref a_ORGANIZATION), .val (.int (1 : Int32)), .unset, .unset, .unset, .unset, .unset, .unset, .unset]) (rest := []) (W := 0) (argsL := [(.int (3 : Int32))]) hZ hown (hw _ (List.mem_of_getElem? (i := 11) rfl)) (hw _ (List.mem_of_getElem? (i := 12) rfl)) (hw _ (List.mem_of_getElem? (i := 3) rfl)) (hw _ (List.mem_of_getElem? (i := 13) rfl)) (by decide) e29 (rm3 l Z a0 hw [] (3 : Int32)  h0 n0 Z0 ) (hb hby at_20) (lenOf own_pd1 rfl) (by decide) (by decide) (by rw [hml]; rfl) (Nat.le_of_eq rfl) (by decide) (by decide)
    obtain ⟨hv30, M30, e30⟩ := Q30
    rw [show (own_F3 (3 : Int32)) = (64 : Int32) from rfl] at hv30
    subst hv30
    have N30 := Fr.app N29 M30
    refine Run.back (g' := (mkF m 23 #[.val (.int p0), .val (.int p1), .val (.int (3 : Int32)), .val (.ref a_ORGANIZATION), .val (.int (1 : Int32)), .unset, .unset, .unset, .unset, .unset, .unset, .unset] [(.int (64 : Int32))])) st30 ?_
    refine Run.istore (pc' := 25) X30 hx (l' := #[.val (.int p0), .val (.int p1), .val (.int (3 : Int32)), .val (.ref a_ORGANIZATION), .val (.int (1 : Int32)), .val (.int (64 : Int32)), .unset, .unset, .unset, .unset, .unset, .unset]) (hb hby at_23) rfl rfl ?_
    refine Run.aloadN (pc' := 26) X30 hx (hb hby at_25) rfl rfl ?_
    refine Run.iloadN (pc' := 27) X30 hx (hb hby at_26) rfl rfl ?_
    obtain ⟨T31, L31, v31, X31, Q31, st31⟩ := callVirtual X30 hx (y := (⟨"com/example/certwright/certwright/x509/AttributeType", "fits", "(I)Z"⟩ : MethodName)) (z := (⟨"com/example/certwright/certwright/x509/AttributeType", "fits", "(I)Z"⟩ : MethodName)) (C := "com/example/certwright/certwright/x509/AttributeType") (a := a_ORGANIZATION) (Ls := #[.val (.int p0), .val (.int p1), .val (.int (3 : Int32)), .val (.ref a_ORGANIZATION), .val (.int (1 : Int32)), .val (.int (64 : Int32)), .unset, .unset, .unset, .unset, .unset, .unset]) (rest := []) (W := 0) (argsL := [(.int p1)]) hZ hown (hw _ (List.mem_of_getElem? (i := 14) rfl)) (hw _ (List.mem_of_getElem? (i := 15) rfl)) (notFace_of_selects (args := #[]) (mvT hZ (hw _ (List.mem_of_getElem? (i := 17) rfl)))) (hw _ (List.mem_of_getElem? (i := 17) rfl)) (hw _ (List.mem_of_getElem? (i := 16) rfl)) (hw _ (List.mem_of_getElem? (i := 6) rfl)) (hw _ (List.mem_of_getElem? (i := 18) rfl)) (by decide) e30 E_ORGANIZATION (rm4 l Z a0 hw [] a_ORGANIZATION p1 (1 : Int32) (64 : Int32) h0 n0 Z0 F_ORGANIZATION_minLength F_ORGANIZATION_maxLength) (hb hby at_27) (lenOf own_pd2 rfl) (by decide) (by decide) (by rw [hml]; rfl) (Nat.le_of_eq rfl) (by decide) (by decide)
    obtain ⟨rfl, M31, e31⟩ := Q31
    have N31 := Fr.app N30 M31
    refine Run.back (g' := (mkF m 30 #[.val (.int p0), .val (.int p1), .val (.int (3 : Int32)), .val (.ref a_ORGANIZATION), .val (.int (1 : Int32)), .val (.int (64 : Int32)), .unset, .unset, .unset, .unset, .unset, .unset] [(.int (own_F4 a_ORGANIZATION p1 (1 : Int32) (64 : Int32)))])) st31 ?_
    have J55 : ∀ (T : State) (locs : List Loc), Stand p l e room_1 s m #[(.int p0), (.int p1)] below meth c T locs 0 0 → T.heap = h0 → Fr n0 locs → Run p.tables e below (FinR s room_1.cells room_1.slots (fun v h L => v = some (.int 1) ∧ Fr n0 L)) T (mkF m 55 #[.val (.int p0), .val (.int p1), .val (.int (3 : Int32)), .val (.ref a_ORGANIZATION), .val (.int (1 : Int32)), .val (.int (64 : Int32)), .unset, .unset, .unset, .unset, .unset, .unset] [(.int (1 : Int32))]) := by
      intro T locs X eT N
      refine Run.istore (pc' := 57) X hx (l' := #[.val (.int p0), .val (.int p1), .val (.int (3 : Int32)), .val (.ref a_ORGANIZATION), .val (.int (1 : Int32)), .val (.int (64 : Int32)), .val (.int (1 : Int32)), .unset, .unset, .unset, .unset, .unset]) (hb hby at_55) rfl rfl ?_
      refine Run.aloadN (pc' := 58) X hx (hb hby at_57) rfl rfl ?_
      refine Run.iload (pc' := 60) X hx (hb hby at_58) rfl rfl ?_
      obtain ⟨T32, L32, v32, X32, Q32, st32⟩ := callVirtual X hx (y := (⟨"com/example/certwright/certwright/x509/AttributeType", "fits", "(I)Z"⟩ : MethodName)) (z := (⟨"com/example/certwright/certwright/x509/AttributeType", "fits", "(I)Z"⟩ : MethodName)) (C := "com/example/certwright/certwright/x509/AttributeType") (a := a_ORGANIZATION) (Ls := #[.val (.int p0), .val (.int p1), .val (.int (3 : Int32)), .val (.ref a_ORGANIZATION), .val (.int (1 : Int32)), .val (.int (64 : Int32)), .val (.int (1 : Int32)), .unset, .unset, .unset, .unset, .unset]) (rest := []) (W := 0) (argsL := [(.int (1 : Int32))]) hZ hown (hw _ (List.mem_of_getElem? (i := 14) rfl)) (hw _ (List.mem_of_getElem? (i := 15) rfl)) (notFace_of_selects (args := #[]) (mvT hZ (hw _ (List.mem_of_getElem? (i := 17) rfl)))) (hw _ (List.mem_of_getElem? (i := 17) rfl)) (hw _ (List.mem_of_getElem? (i := 16) rfl)) (hw _ (List.mem_of_getElem? (i := 6) rfl)) (hw _ (List.mem_of_getElem? (i := 18) rfl)) (by decide) eT E_ORGANIZATION (rm4 l Z a0 hw [] a_ORGANIZATION (1 : Int32) (1 : Int32) (64 : Int32) h0 n0 Z0 F_ORGANIZATION_minLength F_ORGANIZATION_maxLength) (hb hby at_60) (lenOf own_pd2 rfl) (by decide) (by decide) (by rw [hml]; rfl) (Nat.le_of_eq rfl) (by decide) (by decide)
      obtain ⟨hv32, M32, e32⟩ := Q32
      rw [show (own_F4 a_ORGANIZATION (1 : Int32) (1 : Int32) (64 : Int32)) = (1 : Int32) from rfl] at hv32
      subst hv32
      have N32 := Fr.app N M32
      refine Run.back (g' := (mkF m 63 #[.val (.int p0), .val (.int p1), .val (.int (3 : Int32)), .val (.ref a_ORGANIZATION), .val (.int (1 : Int32)), .val (.int (64 : Int32)), .val (.int (1 : Int32)), .unset, .unset, .unset, .unset, .unset] [(.int (1 : Int32))])) st32 ?_
      refine Run.istore (pc' := 65) X32 hx (l' := #[.val (.int p0), .val (.int p1), .val (.int (3 : Int32)), .val (.ref a_ORGANIZATION), .val (.int (1 : Int32)), .val (.int (64 : Int32)), .val (.int (1 : Int32)), .val (.int (1 : Int32)), .unset, .unset, .unset, .unset]) (hb hby at_63) rfl rfl ?_
      refine Run.aloadN (pc' := 66) X32 hx (hb hby at_65) rfl rfl ?_
      refine Run.iload (pc' := 68) X32 hx (hb hby at_66) rfl rfl ?_
      refine Run.iconst (pc' := 69) (v := (1 : Int32)) X32 hx (hb hby at_68) rfl rfl ?_
      refine Run.isub (pc' := 70) X32 hx (hb hby at_69) rfl ?_
      obtain ⟨T33, L33, v33, X33, Q33, st33⟩ := callVirtual X32 hx (y := (⟨"com/example/certwright/certwright/x509/AttributeType", "fits", "(I)Z"⟩ : MethodName)) (z := (⟨"com/example/certwright/certwright/x509/AttributeType", "fits", "(I)Z"⟩ : MethodName)) (C := "com/example/certwright/certwright/x509/AttributeType") (a := a_ORGANIZATION) (Ls := #[.val (.int p0), .val (.int p1), .val (.int (3 : Int32)), .val (.ref a_ORGANIZATION), .val (.int (1 : Int32)), .val (.int (64 : Int32)), .val (.int (1 : Int32)), .val (.int (1 : Int32)), .unset, .unset, .unset, .unset]) (rest := []) (W := 0) (argsL := [(.int ((1 : Int32) - (1 : Int32)))]) hZ hown (hw _ (List.mem_of_getElem? (i := 14) rfl)) (hw _ (List.mem_of_getElem? (i := 15) rfl)) (notFace_of_selects (args := #[]) (mvT hZ (hw _ (List.mem_of_getElem? (i := 17) rfl)))) (hw _ (List.mem_of_getElem? (i := 17) rfl)) (hw _ (List.mem_of_getElem? (i := 16) rfl)) (hw _ (List.mem_of_getElem? (i := 6) rfl)) (hw _ (List.mem_of_getElem? (i := 18) rfl)) (by decide) e32 E_ORGANIZATION (rm4 l Z a0 hw [] a_ORGANIZATION ((1 : Int32) - (1 : Int32)) (1 : Int32) (64 : Int32) h0 n0 Z0 F_ORGANIZATION_minLength F_ORGANIZATION_maxLength) (hb hby at_70) (lenOf own_pd2 rfl) (by decide) (by decide) (by rw [hml]; rfl) (Nat.le_of_eq rfl) (by decide) (by decide)
      obtain ⟨hv33, M33, e33⟩ := Q33
      rw [show (own_F4 a_ORGANIZATION ((1 : Int32) - (1 : Int32)) (1 : Int32) (64 : Int32)) = (0 : Int32) from rfl] at hv33
      subst hv33
      have N33 := Fr.app N32 M33
      refine Run.back (g' := (mkF m 73 #[.val (.int p0), .val (.int p1), .val (.int (3 : Int32)), .val (.ref a_ORGANIZATION), .val (.int (1 : Int32)), .val (.int (64 : Int32)), .val (.int (1 : Int32)), .val (.int (1 : Int32)), .unset, .unset, .unset, .unset] [(.int (0 : Int32))])) st33 ?_
      refine Run.istore (pc' := 75) X33 hx (l' := #[.val (.int p0), .val (.int p1), .val (.int (3 : Int32)), .val (.ref a_ORGANIZATION), .val (.int (1 : Int32)), .val (.int (64 : Int32)), .val (.int (1 : Int32)), .val (.int (1 : Int32)), .val (.int (0 : Int32)), .unset, .unset, .unset]) (hb hby at_73) rfl rfl ?_
      refine Run.aloadN (pc' := 76) X33 hx (hb hby at_75) rfl rfl ?_
      refine Run.iload (pc' := 78) X33 hx (hb hby at_76) rfl rfl ?_
      obtain ⟨T34, L34, v34, X34, Q34, st34⟩ := callVirtual X33 hx (y := (⟨"com/example/certwright/certwright/x509/AttributeType", "fits", "(I)Z"⟩ : MethodName)) (z := (⟨"com/example/certwright/certwright/x509/AttributeType", "fits", "(I)Z"⟩ : MethodName)) (C := "com/example/certwright/certwright/x509/AttributeType") (a := a_ORGANIZATION) (Ls := #[.val (.int p0), .val (.int p1), .val (.int (3 : Int32)), .val (.ref a_ORGANIZATION), .val (.int (1 : Int32)), .val (.int (64 : Int32)), .val (.int (1 : Int32)), .val (.int (1 : Int32)), .val (.int (0 : Int32)), .unset, .unset, .unset]) (rest := []) (W := 0) (argsL := [(.int (64 : Int32))]) hZ hown (hw _ (List.mem_of_getElem? (i := 14) rfl)) (hw _ (List.mem_of_getElem? (i := 15) rfl)) (notFace_of_selects (args := #[]) (mvT hZ (hw _ (List.mem_of_getElem? (i := 17) rfl)))) (hw _ (List.mem_of_getElem? (i := 17) rfl)) (hw _ (List.mem_of_getElem? (i := 16) rfl)) (hw _ (List.mem_of_getElem? (i := 6) rfl)) (hw _ (List.mem_of_getElem? (i := 18) rfl)) (by decide) e33 E_ORGANIZATION (rm4 l Z a0 hw [] a_ORGANIZATION (64 : Int32) (1 : Int32) (64 : Int32) h0 n0 Z0 F_ORGANIZATION_minLength F_ORGANIZATION_maxLength) (hb hby at_78) (lenOf own_pd2 rfl) (by decide) (by decide) (by rw [hml]; rfl) (Nat.le_of_eq rfl) (by decide) (by decide)
      obtain ⟨hv34, M34, e34⟩ := Q34
      rw [show (own_F4 a_ORGANIZATION (64 : Int32) (1 : Int32) (64 : Int32)) = (1 : Int32) from rfl] at hv34
      subst hv34
      have N34 := Fr.app N33 M34
      refine Run.back (g' := (mkF m 81 #[.val (.int p0), .val (.int p1), .val (.int (3 : Int32)), .val (.ref a_ORGANIZATION), .val (.int (1 : Int32)), .val (.int (64 : Int32)), .val (.int (1 : Int32)), .val (.int (1 : Int32)), .val (.int (0 : Int32)), .unset, .unset, .unset] [(.int (1 : Int32))])) st34 ?_
      refine Run.istore (pc' := 83) X34 hx (l' := #[.val (.int p0), .val (.int p1), .val (.int (3 : Int32)), .val (.ref a_ORGANIZATION), .val (.int (1 : Int32)), .val (.int (64 : Int32)), .val (.int (1 : Int32)), .val (.int (1 : Int32)), .val (.int (0 : Int32)), .val (.int (1 : Int32)), .unset, .unset]) (hb hby at_81) rfl rfl ?_
      refine Run.iload (pc' := 85) X34 hx (hb hby at_83) rfl rfl ?_
      refine Run.ldcInt (pc' := 87) (v := (2147483647 : Int32)) X34 hx hown (mvT hZ (hw _ (List.mem_of_getElem? (i := 0) rfl))) (hb hby at_85) rfl ?_
      refine Run.icmpNo (pc' := 90) X34 hx (hb hby at_87) (feq (by decide : ¬ ((64 : Int32) = (2147483647 : Int32)))).1 rfl ?_
      refine Run.aloadN (pc' := 91) X34 hx (hb hby at_90) rfl rfl ?_
      refine Run.iload (pc' := 93) X34 hx (hb hby at_91) rfl rfl ?_
      refine Run.iconst (pc' := 94) (v := (1 : Int32)) X34 hx (hb hby at_93) rfl rfl ?_
      refine Run.iadd (pc' := 95) X34 hx (hb hby at_94) rfl ?_
      obtain ⟨T35, L35, v35, X35, Q35, st35⟩ := callVirtual X34 hx (y := (⟨"com/example/certwright/certwright/x509/AttributeType", "fits", "(I)Z"⟩ : MethodName)) (z := (⟨"com/example/certwright/certwright/x509/AttributeType", "fits", "(I)Z"⟩ : MethodName)) (C := "com/example/certwright/certwright/x509/AttributeType") (a := a_ORGANIZATION) (Ls := #[.val (.int p0), .val (.int p1), .val (.int (3 : Int32)), .val (.ref a_ORGANIZATION), .val (.int (1 : Int32)), .val (.int (64 : Int32)), .val (.int (1 : Int32)), .val (.int (1 : Int32)), .val (.int (0 : Int32)), .val (.int (1 : Int32)), .unset, .unset]) (rest := []) (W := 0) (argsL := [(.int ((64 : Int32) + (1 : Int32)))]) hZ hown (hw _ (List.mem_of_getElem? (i := 14) rfl)) (hw _ (List.mem_of_getElem? (i := 15) rfl)) (notFace_of_selects (args := #[]) (mvT hZ (hw _ (List.mem_of_getElem? (i := 17) rfl)))) (hw _ (List.mem_of_getElem? (i := 17) rfl)) (hw _ (List.mem_of_getElem? (i := 16) rfl)) (hw _ (List.mem_of_getElem? (i := 6) rfl)) (hw _ (List.mem_of_getElem? (i := 18) rfl)) (by decide) e34 E_ORGANIZATION (rm4 l Z a0 hw [] a_ORGANIZATION ((64 : Int32) + (1 : Int32)) (1 : Int32) (64 : Int32) h0 n0 Z0 F_ORGANIZATION_minLength F_ORGANIZATION_maxLength) (hb hby at_95) (lenOf own_pd2 rfl) (by decide) (by decide) (by rw [hml]; rfl) (Nat.le_of_eq rfl) (by decide) (by decide)
      obtain ⟨hv35, M35, e35⟩ := Q35
      rw [show (own_F4 a_ORGANIZATION ((64 : Int32) + (1 : Int32)) (1 : Int32) (64 : Int32)) = (0 : Int32) from rfl] at hv35
      subst hv35
      have N35 := Fr.app N34 M35
      refine Run.back (g' := (mkF m 98 #[.val (.int p0), .val (.int p1), .val (.int (3 : Int32)), .val (.ref a_ORGANIZATION), .val (.int (1 : Int32)), .val (.int (64 : Int32)), .val (.int (1 : Int32)), .val (.int (1 : Int32)), .val (.int (0 : Int32)), .val (.int (1 : Int32)), .unset, .unset] [(.int (0 : Int32))])) st35 ?_
      refine Run.ifYes (pc' := 105) X35 hx (hb hby at_98) ((if0 _ _).trans (teq (by decide : (0 : Int32) = (0 : Int32))).1) (by decide) (by decide) ?_
      refine Run.iconst (pc' := 106) (v := (0 : Int32)) X35 hx (hb hby at_105) rfl rfl ?_
      refine Run.istore (pc' := 108) X35 hx (l' := #[.val (.int p0), .val (.int p1), .val (.int (3 : Int32)), .val (.ref a_ORGANIZATION), .val (.int (1 : Int32)), .val (.int (64 : Int32)), .val (.int (1 : Int32)), .val (.int (1 : Int32)), .val (.int (0 : Int32)), .val (.int (1 : Int32)), .val (.int (0 : Int32)), .unset]) (hb hby at_106) rfl rfl ?_
      refine Run.aloadN (pc' := 109) X35 hx (hb hby at_108) rfl rfl ?_
      refine Run.ldcInt (pc' := 111) (v := (-2147483648 : Int32)) X35 hx hown (mvT hZ (hw _ (List.mem_of_getElem? (i := 23) rfl))) (hb hby at_109) rfl ?_
      obtain ⟨T36, L36, v36, X36, Q36, st36⟩ := callVirtual X35 hx (y := (⟨"com/example/certwright/certwright/x509/AttributeType", "fits", "(I)Z"⟩ : MethodName)) (z := (⟨"com/example/certwright/certwright/x509/AttributeType", "fits", "(I)Z"⟩ : MethodName)) (C := "com/example/certwright/certwright/x509/AttributeType") (a := a_ORGANIZATION) (Ls := #[.val (.int p0), .val (.int p1), .val (.int (3 : Int32)), .val (.ref a_ORGANIZATION), .val (.int (1 : Int32)), .val (.int (64 : Int32)), .val (.int (1 : Int32)), .val (.int (1 : Int32)), .val (.int (0 : Int32)), .val (.int (1 : Int32)), .val (.int (0 : Int32)), .unset]) (rest := []) (W := 0) (argsL := [(.int (-2147483648 : Int32))]) hZ hown (hw _ (List.mem_of_getElem? (i := 14) rfl)) (hw _ (List.mem_of_getElem? (i := 15) rfl)) (notFace_of_selects (args := #[]) (mvT hZ (hw _ (List.mem_of_getElem? (i := 17) rfl)))) (hw _ (List.mem_of_getElem? (i := 17) rfl)) (hw _ (List.mem_of_getElem? (i := 16) rfl)) (hw _ (List.mem_of_getElem? (i := 6) rfl)) (hw _ (List.mem_of_getElem? (i := 18) rfl)) (by decide) e35 E_ORGANIZATION (rm4 l Z a0 hw [] a_ORGANIZATION (-2147483648 : Int32) (1 : Int32) (64 : Int32) h0 n0 Z0 F_ORGANIZATION_minLength F_ORGANIZATION_maxLength) (hb hby at_111) (lenOf own_pd2 rfl) (by decide) (by decide) (by rw [hml]; rfl) (Nat.le_of_eq rfl) (by decide) (by decide)
      obtain ⟨hv36, M36, e36⟩ := Q36
      rw [show (own_F4 a_ORGANIZATION (-2147483648 : Int32) (1 : Int32) (64 : Int32)) = (0 : Int32) from rfl] at hv36
      subst hv36
      have N36 := Fr.app N35 M36
      refine Run.back (g' := (mkF m 114 #[.val (.int p0), .val (.int p1), .val (.int (3 : Int32)), .val (.ref a_ORGANIZATION), .val (.int (1 : Int32)), .val (.int (64 : Int32)), .val (.int (1 : Int32)), .val (.int (1 : Int32)), .val (.int (0 : Int32)), .val (.int (1 : Int32)), .val (.int (0 : Int32)), .unset] [(.int (0 : Int32))])) st36 ?_
      refine Run.istore (pc' := 116) X36 hx (l' := #[.val (.int p0), .val (.int p1), .val (.int (3 : Int32)), .val (.ref a_ORGANIZATION), .val (.int (1 : Int32)), .val (.int (64 : Int32)), .val (.int (1 : Int32)), .val (.int (1 : Int32)), .val (.int (0 : Int32)), .val (.int (1 : Int32)), .val (.int (0 : Int32)), .val (.int (0 : Int32))]) (hb hby at_114) rfl rfl ?_
      refine Run.iload (pc' := 118) X36 hx (hb hby at_116) rfl rfl ?_
      refine Run.ifNo (pc' := 121) X36 hx (hb hby at_118) ((if0 _ _).trans (feq (by decide : ¬ ((1 : Int32) = (0 : Int32)))).1) rfl ?_
      refine Run.iload (pc' := 123) X36 hx (hb hby at_121) rfl rfl ?_
      refine Run.ifNo (pc' := 126) X36 hx (hb hby at_123) ((if0 _ _).trans (feq (by decide : ¬ ((1 : Int32) = (0 : Int32)))).1) rfl ?_
      refine Run.iload (pc' := 128) X36 hx (hb hby at_126) rfl rfl ?_
      refine Run.ifNo (pc' := 131) X36 hx (hb hby at_128) ((if0 _ _).trans (teq (by decide : (0 : Int32) = (0 : Int32))).2) rfl ?_
      refine Run.iload (pc' := 133) X36 hx (hb hby at_131) rfl rfl ?_
      refine Run.ifNo (pc' := 136) X36 hx (hb hby at_133) ((if0 _ _).trans (feq (by decide : ¬ ((1 : Int32) = (0 : Int32)))).1) rfl ?_
      refine Run.iload (pc' := 138) X36 hx (hb hby at_136) rfl rfl ?_
      refine Run.ifNo (pc' := 141) X36 hx (hb hby at_138) ((if0 _ _).trans (teq (by decide : (0 : Int32) = (0 : Int32))).2) rfl ?_
      refine Run.iload (pc' := 143) X36 hx (hb hby at_141) rfl rfl ?_
      refine Run.ifNo (pc' := 146) X36 hx (hb hby at_143) ((if0 _ _).trans (teq (by decide : (0 : Int32) = (0 : Int32))).2) rfl ?_
      refine Run.iconst (pc' := 147) (v := (1 : Int32)) X36 hx (hb hby at_146) rfl rfl ?_
      refine Run.goto (pc' := 151) X36 hx (hb hby at_147) (by decide) (by decide) ?_
      exact Run.retSmall X36 hx (t := .boolean) (z' := (1 : Int32)) Bd.notSynchronized Bd.returns (by simp) rfl (hb hby at_151) ⟨rfl, N36⟩ (by decide) (by decide)
    refine Run.iloadN (pc' := 31) X31 hx (hb hby at_30) rfl rfl ?_
    refine Run.iload (pc' := 33) X31 hx (hb hby at_31) rfl rfl ?_
    by_cases hc33 : p1 < (1 : Int32)
    · skip
      refine Run.icmpYes (pc' := 46) X31 hx (hb hby at_33) (tlt hc33).1 (by decide) (by decide) ?_
      refine Run.iconst (pc' := 47) (v := (0 : Int32)) X31 hx (hb hby at_46) rfl rfl ?_
      refine Run.icmpNo (pc' := 50) X31 hx (hb hby at_47) (teq (by rw [own_F4, if_pos hc33]; rfl)).2 rfl ?_
      refine Run.iconst (pc' := 51) (v := (1 : Int32)) X31 hx (hb hby at_50) rfl rfl ?_
      refine Run.goto (pc' := 55) X31 hx (hb hby at_51) (by decide) (by decide) ?_
      exact J55 _ _ X31 e31 N31
    · skip
      refine Run.icmpNo (pc' := 36) X31 hx (hb hby at_33) (flt hc33).1 rfl ?_
      refine Run.iloadN (pc' := 37) X31 hx (hb hby at_36) rfl rfl ?_
      refine Run.iload (pc' := 39) X31 hx (hb hby at_37) rfl rfl ?_
      by_cases hc39 : (64 : Int32) < p1
      · skip
        refine Run.icmpYes (pc' := 46) X31 hx (hb hby at_39) (tlt hc39).2.2.1 (by decide) (by decide) ?_
        refine Run.iconst (pc' := 47) (v := (0 : Int32)) X31 hx (hb hby at_46) rfl rfl ?_
        refine Run.icmpNo (pc' := 50) X31 hx (hb hby at_47) (teq (by rw [own_F4, if_neg hc33, if_pos hc39]; rfl)).2 rfl ?_
        refine Run.iconst (pc' := 51) (v := (1 : Int32)) X31 hx (hb hby at_50) rfl rfl ?_
        refine Run.goto (pc' := 55) X31 hx (hb hby at_51) (by decide) (by decide) ?_
        exact J55 _ _ X31 e31 N31
      · skip
        refine Run.icmpNo (pc' := 42) X31 hx (hb hby at_39) (flt hc39).2.2.1 rfl ?_
        refine Run.iconst (pc' := 43) (v := (1 : Int32)) X31 hx (hb hby at_42) rfl rfl ?_
        refine Run.goto (pc' := 47) X31 hx (hb hby at_43) (by decide) (by decide) ?_
        refine Run.icmpNo (pc' := 50) X31 hx (hb hby at_47) (teq (by rw [own_F4, if_neg hc33, if_neg hc39]; rfl)).2 rfl ?_
        refine Run.iconst (pc' := 51) (v := (1 : Int32)) X31 hx (hb hby at_50) rfl rfl ?_
        refine Run.goto (pc' := 55) X31 hx (hb hby at_51) (by decide) (by decide) ?_
        exact J55 _ _ X31 e31 N31
  · rw [hk]
    refine Run.iloadN (pc' := 9) X0 hx (hb hby at_8) rfl rfl ?_
    obtain ⟨T37, L37, v37, X37, Q37, st37⟩ := callStatic X0 hx (y := (⟨"com/example/certwright/certwright/x509/AttributeTypeFitsPinLaw", "type", "(I)Lcom/example/certwright/certwright/x509/AttributeType;"⟩ : MethodName)) (Ls := #[.val (.int p0), .val (.int p1), .val (.int (4 : Int32)), .unset, .unset, .unset, .unset, .unset, .unset, .unset, .unset, .unset]) (rest := []) (W := 0) (argsL := [(.int (4 : Int32))]) hZ hown (hw _ (List.mem_of_getElem? (i := 1) rfl)) (hw _ (List.mem_of_getElem? (i := 2) rfl)) (hw _ (List.mem_of_getElem? (i := 3) rfl)) (hw _ (List.mem_of_getElem? (i := 4) rfl)) (by decide) e0 (rm1 l Z a0 hw [] (4 : Int32) a_COMMON_NAME a_LOCALITY a_STATE_OR_PROVINCE a_ORGANIZATION a_ORGANIZATIONAL_UNIT a_COUNTRY a_STREET a_DOMAIN_COMPONENT a_USER_ID a_SERIAL_NUMBER a_EMAIL_ADDRESS h0 n0 Z0 S_COMMON_NAME S_LOCALITY S_STATE_OR_PROVINCE S_ORGANIZATION S_ORGANIZATIONAL_UNIT S_COUNTRY S_STREET S_DOMAIN_COMPONENT S_USER_ID S_SERIAL_NUMBER S_EMAIL_ADDRESS) (hb hby at_9) (lenOf own_pd0 rfl) (by decide) (by decide) (by rw [hml]; rfl) (Nat.le_of_eq rfl) (by decide) (by decide)
    obtain ⟨hv37, M37, e37⟩ := Q37
    rw [show (own_F1 (4 : Int32) a_COMMON_NAME a_LOCALITY a_STATE_OR_PROVINCE a_ORGANIZATION a_ORGANIZATIONAL_UNIT a_COUNTRY a_STREET a_DOMAIN_COMPONENT a_USER_ID a_SERIAL_NUMBER a_EMAIL_ADDRESS) = a_ORGANIZATIONAL_UNIT from rfl] at hv37
    subst hv37
    have N37 := Fr.app N0 M37
    refine Run.back (g' := (mkF m 12 #[.val (.int p0), .val (.int p1), .val (.int (4 : Int32)), .unset, .unset, .unset, .unset, .unset, .unset, .unset, .unset, .unset] [(.ref a_ORGANIZATIONAL_UNIT)])) st37 ?_
    refine Run.astoreN (pc' := 13) X37 hx (l' := #[.val (.int p0), .val (.int p1), .val (.int (4 : Int32)), .val (.ref a_ORGANIZATIONAL_UNIT), .unset, .unset, .unset, .unset, .unset, .unset, .unset, .unset]) (hb hby at_12) rfl rfl ?_
    refine Run.iloadN (pc' := 14) X37 hx (hb hby at_13) rfl rfl ?_
    obtain ⟨T38, L38, v38, X38, Q38, st38⟩ := callStatic X37 hx (y := (⟨"com/example/certwright/certwright/x509/AttributeTypeFitsPinLaw", "low", "(I)I"⟩ : MethodName)) (Ls := #[.val (.int p0), .val (.int p1), .val (.int (4 : Int32)), .val (.ref a_ORGANIZATIONAL_UNIT), .unset, .unset, .unset, .unset, .unset, .unset, .unset, .unset]) (rest := []) (W := 0) (argsL := [(.int (4 : Int32))]) hZ hown (hw _ (List.mem_of_getElem? (i := 8) rfl)) (hw _ (List.mem_of_getElem? (i := 9) rfl)) (hw _ (List.mem_of_getElem? (i := 3) rfl)) (hw _ (List.mem_of_getElem? (i := 10) rfl)) (by decide) e37 (rm2 l Z a0 hw [] (4 : Int32)  h0 n0 Z0 ) (hb hby at_14) (lenOf own_pd1 rfl) (by decide) (by decide) (by rw [hml]; rfl) (Nat.le_of_eq rfl) (by decide) (by decide)
    obtain ⟨hv38, M38, e38⟩ := Q38
    rw [show (own_F2 (4 : Int32)) = (1 : Int32) from rfl] at hv38
    subst hv38
    have N38 := Fr.app N37 M38
    refine Run.back (g' := (mkF m 17 #[.val (.int p0), .val (.int p1), .val (.int (4 : Int32)), .val (.ref a_ORGANIZATIONAL_UNIT), .unset, .unset, .unset, .unset, .unset, .unset, .unset, .unset] [(.int (1 : Int32))])) st38 ?_
    refine Run.istore (pc' := 19) X38 hx (l' := #[.val (.int p0), .val (.int p1), .val (.int (4 : Int32)), .val (.ref a_ORGANIZATIONAL_UNIT), .val (.int (1 : Int32)), .unset, .unset, .unset, .unset, .unset, .unset, .unset]) (hb hby at_17) rfl rfl ?_
    refine Run.iloadN (pc' := 20) X38 hx (hb hby at_19) rfl rfl ?_
    obtain ⟨T39, L39, v39, X39, Q39, st39⟩ := callStatic X38 hx (y := (⟨"com/example/certwright/certwright/x509/AttributeTypeFitsPinLaw", "high", "(I)I"⟩ : MethodName)) (Ls := #[.val (.int p0), .val (.int p1), .val (.int (4 : Int32)), .val (.ref a_ORGANIZATIONAL_UNIT), .val (.int (1 : Int32)), .unset, .unset, .unset, .unset, .unset, .unset, .unset]) (rest := []) (W := 0) (argsL := [(.int (4 : Int32))]) hZ hown (hw _ (List.mem_of_getElem? (i := 11) rfl)) (hw _ (List.mem_of_getElem? (i := 12) rfl)) (hw _ (List.mem_of_getElem? (i := 3) rfl)) (hw _ (List.mem_of_getElem? (i := 13) rfl)) (by decide) e38 (rm3 l Z a0 hw [] (4 : Int32)  h0 n0 Z0 ) (hb hby at_20) (lenOf own_pd1 rfl) (by decide) (by decide) (by rw [hml]; rfl) (Nat.le_of_eq rfl) (by decide) (by decide)
    obtain ⟨hv39, M39, e39⟩ := Q39
    rw [show (own_F3 (4 : Int32)) = (64 : Int32) from rfl] at hv39
    subst hv39
    have N39 := Fr.app N38 M39
    refine Run.back (g' := (mkF m 23 #[.val (.int p0), .val (.int p1), .val (.int (4 : Int32)), .val (.ref a_ORGANIZATIONAL_UNIT), .val (.int (1 : Int32)), .unset, .unset, .unset, .unset, .unset, .unset, .unset] [(.int (64 : Int32))])) st39 ?_
    refine Run.istore (pc' := 25) X39 hx (l' := #[.val (.int p0), .val (.int p1), .val (.int (4 : Int32)), .val (.ref a_ORGANIZATIONAL_UNIT), .val (.int (1 : Int32)), .val (.int (64 : Int32)), .unset, .unset, .unset, .unset, .unset, .unset]) (hb hby at_23) rfl rfl ?_
    refine Run.aloadN (pc' := 26) X39 hx (hb hby at_25) rfl rfl ?_
    refine Run.iloadN (pc' := 27) X39 hx (hb hby at_26) rfl rfl ?_
    obtain ⟨T40, L40, v40, X40, Q40, st40⟩ := callVirtual X39 hx (y := (⟨"com/example/certwright/certwright/x509/AttributeType", "fits", "(I)Z"⟩ : MethodName)) (z := (⟨"com/example/certwright/certwright/x509/AttributeType", "fits", "(I)Z"⟩ : MethodName)) (C := "com/example/certwright/certwright/x509/AttributeType") (a := a_ORGANIZATIONAL_UNIT) (Ls := #[.val (.int p0), .val (.int p1), .val (.int (4 : Int32)), .val (.ref a_ORGANIZATIONAL_UNIT), .val (.int (1 : Int32)), .val (.int (64 : Int32)), .unset, .unset, .unset, .unset, .unset, .unset]) (rest := []) (W := 0) (argsL := [(.int p1)]) hZ hown (hw _ (List.mem_of_getElem? (i := 14) rfl)) (hw _ (List.mem_of_getElem? (i := 15) rfl)) (notFace_of_selects (args := #[]) (mvT hZ (hw _ (List.mem_of_getElem? (i := 17) rfl)))) (hw _ (List.mem_of_getElem? (i := 17) rfl)) (hw _ (List.mem_of_getElem? (i := 16) rfl)) (hw _ (List.mem_of_getElem? (i := 6) rfl)) (hw _ (List.mem_of_getElem? (i := 18) rfl)) (by decide) e39 E_ORGANIZATIONAL_UNIT (rm4 l Z a0 hw [] a_ORGANIZATIONAL_UNIT p1 (1 : Int32) (64 : Int32) h0 n0 Z0 F_ORGANIZATIONAL_UNIT_minLength F_ORGANIZATIONAL_UNIT_maxLength) (hb hby at_27) (lenOf own_pd2 rfl) (by decide) (by decide) (by rw [hml]; rfl) (Nat.le_of_eq rfl) (by decide) (by decide)
    obtain ⟨rfl, M40, e40⟩ := Q40
    have N40 := Fr.app N39 M40
    refine Run.back (g' := (mkF m 30 #[.val (.int p0), .val (.int p1), .val (.int (4 : Int32)), .val (.ref a_ORGANIZATIONAL_UNIT), .val (.int (1 : Int32)), .val (.int (64 : Int32)), .unset, .unset, .unset, .unset, .unset, .unset] [(.int (own_F4 a_ORGANIZATIONAL_UNIT p1 (1 : Int32) (64 : Int32)))])) st40 ?_
    have J55 : ∀ (T : State) (locs : List Loc), Stand p l e room_1 s m #[(.int p0), (.int p1)] below meth c T locs 0 0 → T.heap = h0 → Fr n0 locs → Run p.tables e below (FinR s room_1.cells room_1.slots (fun v h L => v = some (.int 1) ∧ Fr n0 L)) T (mkF m 55 #[.val (.int p0), .val (.int p1), .val (.int (4 : Int32)), .val (.ref a_ORGANIZATIONAL_UNIT), .val (.int (1 : Int32)), .val (.int (64 : Int32)), .unset, .unset, .unset, .unset, .unset, .unset] [(.int (1 : Int32))]) := by
      intro T locs X eT N
      refine Run.istore (pc' := 57) X hx (l' := #[.val (.int p0), .val (.int p1), .val (.int (4 : Int32)), .val (.ref a_ORGANIZATIONAL_UNIT), .val (.int (1 : Int32)), .val (.int (64 : Int32)), .val (.int (1 : Int32)), .unset, .unset, .unset, .unset, .unset]) (hb hby at_55) rfl rfl ?_
      refine Run.aloadN (pc' := 58) X hx (hb hby at_57) rfl rfl ?_
      refine Run.iload (pc' := 60) X hx (hb hby at_58) rfl rfl ?_
      obtain ⟨T41, L41, v41, X41, Q41, st41⟩ := callVirtual X hx (y := (⟨"com/example/certwright/certwright/x509/AttributeType", "fits", "(I)Z"⟩ : MethodName)) (z := (⟨"com/example/certwright/certwright/x509/AttributeType", "fits", "(I)Z"⟩ : MethodName)) (C := "com/example/certwright/certwright/x509/AttributeType") (a := a_ORGANIZATIONAL_UNIT) (Ls := #[.val (.int p0), .val (.int p1), .val (.int (4 : Int32)), .val (.ref a_ORGANIZATIONAL_UNIT), .val (.int (1 : Int32)), .val (.int (64 : Int32)), .val (.int (1 : Int32)), .unset, .unset, .unset, .unset, .unset]) (rest := []) (W := 0) (argsL := [(.int (1 : Int32))]) hZ hown (hw _ (List.mem_of_getElem? (i := 14) rfl)) (hw _ (List.mem_of_getElem? (i := 15) rfl)) (notFace_of_selects (args := #[]) (mvT hZ (hw _ (List.mem_of_getElem? (i := 17) rfl)))) (hw _ (List.mem_of_getElem? (i := 17) rfl)) (hw _ (List.mem_of_getElem? (i := 16) rfl)) (hw _ (List.mem_of_getElem? (i := 6) rfl)) (hw _ (List.mem_of_getElem? (i := 18) rfl)) (by decide) eT E_ORGANIZATIONAL_UNIT (rm4 l Z a0 hw [] a_ORGANIZATIONAL_UNIT (1 : Int32) (1 : Int32) (64 : Int32) h0 n0 Z0 F_ORGANIZATIONAL_UNIT_minLength F_ORGANIZATIONAL_UNIT_maxLength) (hb hby at_60) (lenOf own_pd2 rfl) (by decide) (by decide) (by rw [hml]; rfl) (Nat.le_of_eq rfl) (by decide) (by decide)
      obtain ⟨hv41, M41, e41⟩ := Q41
      rw [show (own_F4 a_ORGANIZATIONAL_UNIT (1 : Int32) (1 : Int32) (64 : Int32)) = (1 : Int32) from rfl] at hv41
      subst hv41
      have N41 := Fr.app N M41
      refine Run.back (g' := (mkF m 63 #[.val (.int p0), .val (.int p1), .val (.int (4 : Int32)), .val (.ref a_ORGANIZATIONAL_UNIT), .val (.int (1 : Int32)), .val (.int (64 : Int32)), .val (.int (1 : Int32)), .unset, .unset, .unset, .unset, .unset] [(.int (1 : Int32))])) st41 ?_
      refine Run.istore (pc' := 65) X41 hx (l' := #[.val (.int p0), .val (.int p1), .val (.int (4 : Int32)), .val (.ref a_ORGANIZATIONAL_UNIT), .val (.int (1 : Int32)), .val (.int (64 : Int32)), .val (.int (1 : Int32)), .val (.int (1 : Int32)), .unset, .unset, .unset, .unset]) (hb hby at_63) rfl rfl ?_
      refine Run.aloadN (pc' := 66) X41 hx (hb hby at_65) rfl rfl ?_
      refine Run.iload (pc' := 68) X41 hx (hb hby at_66) rfl rfl ?_
      refine Run.iconst (pc' := 69) (v := (1 : Int32)) X41 hx (hb hby at_68) rfl rfl ?_
      refine Run.isub (pc' := 70) X41 hx (hb hby at_69) rfl ?_
      obtain ⟨T42, L42, v42, X42, Q42, st42⟩ := callVirtual X41 hx (y := (⟨"com/example/certwright/certwright/x509/AttributeType", "fits", "(I)Z"⟩ : MethodName)) (z := (⟨"com/example/certwright/certwright/x509/AttributeType", "fits", "(I)Z"⟩ : MethodName)) (C := "com/example/certwright/certwright/x509/AttributeType") (a := a_ORGANIZATIONAL_UNIT) (Ls := #[.val (.int p0), .val (.int p1), .val (.int (4 : Int32)), .val (.ref a_ORGANIZATIONAL_UNIT), .val (.int (1 : Int32)), .val (.int (64 : Int32)), .val (.int (1 : Int32)), .val (.int (1 : Int32)), .unset, .unset, .unset, .unset]) (rest := []) (W := 0) (argsL := [(.int ((1 : Int32) - (1 : Int32)))]) hZ hown (hw _ (List.mem_of_getElem? (i := 14) rfl)) (hw _ (List.mem_of_getElem? (i := 15) rfl)) (notFace_of_selects (args := #[]) (mvT hZ (hw _ (List.mem_of_getElem? (i := 17) rfl)))) (hw _ (List.mem_of_getElem? (i := 17) rfl)) (hw _ (List.mem_of_getElem? (i := 16) rfl)) (hw _ (List.mem_of_getElem? (i := 6) rfl)) (hw _ (List.mem_of_getElem? (i := 18) rfl)) (by decide) e41 E_ORGANIZATIONAL_UNIT (rm4 l Z a0 hw [] a_ORGANIZATIONAL_UNIT ((1 : Int32) - (1 : Int32)) (1 : Int32) (64 : Int32) h0 n0 Z0 F_ORGANIZATIONAL_UNIT_minLength F_ORGANIZATIONAL_UNIT_maxLength) (hb hby at_70) (lenOf own_pd2 rfl) (by decide) (by decide) (by rw [hml]; rfl) (Nat.le_of_eq rfl) (by decide) (by decide)
      obtain ⟨hv42, M42, e42⟩ := Q42
      rw [show (own_F4 a_ORGANIZATIONAL_UNIT ((1 : Int32) - (1 : Int32)) (1 : Int32) (64 : Int32)) = (0 : Int32) from rfl] at hv42
      subst hv42
      have N42 := Fr.app N41 M42
      refine Run.back (g' := (mkF m 73 #[.val (.int p0), .val (.int p1), .val (.int (4 : Int32)), .val (.ref a_ORGANIZATIONAL_UNIT), .val (.int (1 : Int32)), .val (.int (64 : Int32)), .val (.int (1 : Int32)), .val (.int (1 : Int32)), .unset, .unset, .unset, .unset] [(.int (0 : Int32))])) st42 ?_
      refine Run.istore (pc' := 75) X42 hx (l' := #[.val (.int p0), .val (.int p1), .val (.int (4 : Int32)), .val (.ref a_ORGANIZATIONAL_UNIT), .val (.int (1 : Int32)), .val (.int (64 : Int32)), .val (.int (1 : Int32)), .val (.int (1 : Int32)), .val (.int (0 : Int32)), .unset, .unset, .unset]) (hb hby at_73) rfl rfl ?_
      refine Run.aloadN (pc' := 76) X42 hx (hb hby at_75) rfl rfl ?_
      refine Run.iload (pc' := 78) X42 hx (hb hby at_76) rfl rfl ?_
      obtain ⟨T43, L43, v43, X43, Q43, st43⟩ := callVirtual X42 hx (y := (⟨"com/example/certwright/certwright/x509/AttributeType", "fits", "(I)Z"⟩ : MethodName)) (z := (⟨"com/example/certwright/certwright/x509/AttributeType", "fits", "(I)Z"⟩ : MethodName)) (C := "com/example/certwright/certwright/x509/AttributeType") (a := a_ORGANIZATIONAL_UNIT) (Ls := #[.val (.int p0), .val (.int p1), .val (.int (4 : Int32)), .val (.ref a_ORGANIZATIONAL_UNIT), .val (.int (1 : Int32)), .val (.int (64 : Int32)), .val (.int (1 : Int32)), .val (.int (1 : Int32)), .val (.int (0 : Int32)), .unset, .unset, .unset]) (rest := []) (W := 0) (argsL := [(.int (64 : Int32))]) hZ hown (hw _ (List.mem_of_getElem? (i := 14) rfl)) (hw _ (List.mem_of_getElem? (i := 15) rfl)) (notFace_of_selects (args := #[]) (mvT hZ (hw _ (List.mem_of_getElem? (i := 17) rfl)))) (hw _ (List.mem_of_getElem? (i := 17) rfl)) (hw _ (List.mem_of_getElem? (i := 16) rfl)) (hw _ (List.mem_of_getElem? (i := 6) rfl)) (hw _ (List.mem_of_getElem? (i := 18) rfl)) (by decide) e42 E_ORGANIZATIONAL_UNIT (rm4 l Z a0 hw [] a_ORGANIZATIONAL_UNIT (64 : Int32) (1 : Int32) (64 : Int32) h0 n0 Z0 F_ORGANIZATIONAL_UNIT_minLength F_ORGANIZATIONAL_UNIT_maxLength) (hb hby at_78) (lenOf own_pd2 rfl) (by decide) (by decide) (by rw [hml]; rfl) (Nat.le_of_eq rfl) (by decide) (by decide)
      obtain ⟨hv43, M43, e43⟩ := Q43
      rw [show (own_F4 a_ORGANIZATIONAL_UNIT (64 : Int32) (1 : Int32) (64 : Int32)) = (1 : Int32) from rfl] at hv43
      subst hv43
      have N43 := Fr.app N42 M43
      refine Run.back (g' := (mkF m 81 #[.val (.int p0), .val (.int p1), .val (.int (4 : Int32)), .val (.ref a_ORGANIZATIONAL_UNIT), .val (.int (1 : Int32)), .val (.int (64 : Int32)), .val (.int (1 : Int32)), .val (.int (1 : Int32)), .val (.int (0 : Int32)), .unset, .unset, .unset] [(.int (1 : Int32))])) st43 ?_
      refine Run.istore (pc' := 83) X43 hx (l' := #[.val (.int p0), .val (.int p1), .val (.int (4 : Int32)), .val (.ref a_ORGANIZATIONAL_UNIT), .val (.int (1 : Int32)), .val (.int (64 : Int32)), .val (.int (1 : Int32)), .val (.int (1 : Int32)), .val (.int (0 : Int32)), .val (.int (1 : Int32)), .unset, .unset]) (hb hby at_81) rfl rfl ?_
      refine Run.iload (pc' := 85) X43 hx (hb hby at_83) rfl rfl ?_
      refine Run.ldcInt (pc' := 87) (v := (2147483647 : Int32)) X43 hx hown (mvT hZ (hw _ (List.mem_of_getElem? (i := 0) rfl))) (hb hby at_85) rfl ?_
      refine Run.icmpNo (pc' := 90) X43 hx (hb hby at_87) (feq (by decide : ¬ ((64 : Int32) = (2147483647 : Int32)))).1 rfl ?_
      refine Run.aloadN (pc' := 91) X43 hx (hb hby at_90) rfl rfl ?_
      refine Run.iload (pc' := 93) X43 hx (hb hby at_91) rfl rfl ?_
      refine Run.iconst (pc' := 94) (v := (1 : Int32)) X43 hx (hb hby at_93) rfl rfl ?_
      refine Run.iadd (pc' := 95) X43 hx (hb hby at_94) rfl ?_
      obtain ⟨T44, L44, v44, X44, Q44, st44⟩ := callVirtual X43 hx (y := (⟨"com/example/certwright/certwright/x509/AttributeType", "fits", "(I)Z"⟩ : MethodName)) (z := (⟨"com/example/certwright/certwright/x509/AttributeType", "fits", "(I)Z"⟩ : MethodName)) (C := "com/example/certwright/certwright/x509/AttributeType") (a := a_ORGANIZATIONAL_UNIT) (Ls := #[.val (.int p0), .val (.int p1), .val (.int (4 : Int32)), .val (.ref a_ORGANIZATIONAL_UNIT), .val (.int (1 : Int32)), .val (.int (64 : Int32)), .val (.int (1 : Int32)), .val (.int (1 : Int32)), .val (.int (0 : Int32)), .val (.int (1 : Int32)), .unset, .unset]) (rest := []) (W := 0) (argsL := [(.int ((64 : Int32) + (1 : Int32)))]) hZ hown (hw _ (List.mem_of_getElem? (i := 14) rfl)) (hw _ (List.mem_of_getElem? (i := 15) rfl)) (notFace_of_selects (args := #[]) (mvT hZ (hw _ (List.mem_of_getElem? (i := 17) rfl)))) (hw _ (List.mem_of_getElem? (i := 17) rfl)) (hw _ (List.mem_of_getElem? (i := 16) rfl)) (hw _ (List.mem_of_getElem? (i := 6) rfl)) (hw _ (List.mem_of_getElem? (i := 18) rfl)) (by decide) e43 E_ORGANIZATIONAL_UNIT (rm4 l Z a0 hw [] a_ORGANIZATIONAL_UNIT ((64 : Int32) + (1 : Int32)) (1 : Int32) (64 : Int32) h0 n0 Z0 F_ORGANIZATIONAL_UNIT_minLength F_ORGANIZATIONAL_UNIT_maxLength) (hb hby at_95) (lenOf own_pd2 rfl) (by decide) (by decide) (by rw [hml]; rfl) (Nat.le_of_eq rfl) (by decide) (by decide)
      obtain ⟨hv44, M44, e44⟩ := Q44
      rw [show (own_F4 a_ORGANIZATIONAL_UNIT ((64 : Int32) + (1 : Int32)) (1 : Int32) (64 : Int32)) = (0 : Int32) from rfl] at hv44
      subst hv44
      have N44 := Fr.app N43 M44
      refine Run.back (g' := (mkF m 98 #[.val (.int p0), .val (.int p1), .val (.int (4 : Int32)), .val (.ref a_ORGANIZATIONAL_UNIT), .val (.int (1 : Int32)), .val (.int (64 : Int32)), .val (.int (1 : Int32)), .val (.int (1 : Int32)), .val (.int (0 : Int32)), .val (.int (1 : Int32)), .unset, .unset] [(.int (0 : Int32))])) st44 ?_
      refine Run.ifYes (pc' := 105) X44 hx (hb hby at_98) ((if0 _ _).trans (teq (by decide : (0 : Int32) = (0 : Int32))).1) (by decide) (by decide) ?_
      refine Run.iconst (pc' := 106) (v := (0 : Int32)) X44 hx (hb hby at_105) rfl rfl ?_
      refine Run.istore (pc' := 108) X44 hx (l' := #[.val (.int p0), .val (.int p1), .val (.int (4 : Int32)), .val (.ref a_ORGANIZATIONAL_UNIT), .val (.int (1 : Int32)), .val (.int (64 : Int32)), .val (.int (1 : Int32)), .val (.int (1 : Int32)), .val (.int (0 : Int32)), .val (.int (1 : Int32)), .val (.int (0 : Int32)), .unset]) (hb hby at_106) rfl rfl ?_
      refine Run.aloadN (pc' := 109) X44 hx (hb hby at_108) rfl rfl ?_
      refine Run.ldcInt (pc' := 111) (v := (-2147483648 : Int32)) X44 hx hown (mvT hZ (hw _ (List.mem_of_getElem? (i := 23) rfl))) (hb hby at_109) rfl ?_
      obtain ⟨T45, L45, v45, X45, Q45, st45⟩ := callVirtual X44 hx (y := (⟨"com/example/certwright/certwright/x509/AttributeType", "fits", "(I)Z"⟩ : MethodName)) (z := (⟨"com/example/certwright/certwright/x509/AttributeType", "fits", "(I)Z"⟩ : MethodName)) (C := "com/example/certwright/certwright/x509/AttributeType") (a := a_ORGANIZATIONAL_UNIT) (Ls := #[.val (.int p0), .val (.int p1), .val (.int (4 : Int32)), .val (.ref a_ORGANIZATIONAL_UNIT), .val (.int (1 : Int32)), .val (.int (64 : Int32)), .val (.int (1 : Int32)), .val (.int (1 : Int32)), .val (.int (0 : Int32)), .val (.int (1 : Int32)), .val (.int (0 : Int32)), .unset]) (rest := []) (W := 0) (argsL := [(.int (-2147483648 : Int32))]) hZ hown (hw _ (List.mem_of_getElem? (i := 14) rfl)) (hw _ (List.mem_of_getElem? (i := 15) rfl)) (notFace_of_selects (args := #[]) (mvT hZ (hw _ (List.mem_of_getElem? (i := 17) rfl)))) (hw _ (List.mem_of_getElem? (i := 17) rfl)) (hw _ (List.mem_of_getElem? (i := 16) rfl)) (hw _ (List.mem_of_getElem? (i := 6) rfl)) (hw _ (List.mem_of_getElem? (i := 18) rfl)) (by decide) e44 E_ORGANIZATIONAL_UNIT (rm4 l Z a0 hw [] a_ORGANIZATIONAL_UNIT (-2147483648 : Int32) (1 : Int32) (64 : Int32) h0 n0 Z0 F_ORGANIZATIONAL_UNIT_minLength F_ORGANIZATIONAL_UNIT_maxLength) (hb hby at_111) (lenOf own_pd2 rfl) (by decide) (by decide) (by rw [hml]; rfl) (Nat.le_of_eq rfl) (by decide) (by decide)
      obtain ⟨hv45, M45, e45⟩ := Q45
      rw [show (own_F4 a_ORGANIZATIONAL_UNIT (-2147483648 : Int32) (1 : Int32) (64 : Int32)) = (0 : Int32) from rfl] at hv45
      subst hv45
      have N45 := Fr.app N44 M45
      refine Run.back (g' := (mkF m 114 #[.val (.int p0), .val (.int p1), .val (.int (4 : Int32)), .val (.ref a_ORGANIZATIONAL_UNIT), .val (.int (1 : Int32)), .val (.int (64 : Int32)), .val (.int (1 : Int32)), .val (.int (1 : Int32)), .val (.int (0 : Int32)), .val (.int (1 : Int32)), .val (.int (0 : Int32)), .unset] [(.int (0 : Int32))])) st45 ?_
      refine Run.istore (pc' := 116) X45 hx (l' := #[.val (.int p0), .val (.int p1), .val (.int (4 : Int32)), .val (.ref a_ORGANIZATIONAL_UNIT), .val (.int (1 : Int32)), .val (.int (64 : Int32)), .val (.int (1 : Int32)), .val (.int (1 : Int32)), .val (.int (0 : Int32)), .val (.int (1 : Int32)), .val (.int (0 : Int32)), .val (.int (0 : Int32))]) (hb hby at_114) rfl rfl ?_
      refine Run.iload (pc' := 118) X45 hx (hb hby at_116) rfl rfl ?_
      refine Run.ifNo (pc' := 121) X45 hx (hb hby at_118) ((if0 _ _).trans (feq (by decide : ¬ ((1 : Int32) = (0 : Int32)))).1) rfl ?_
      refine Run.iload (pc' := 123) X45 hx (hb hby at_121) rfl rfl ?_
      refine Run.ifNo (pc' := 126) X45 hx (hb hby at_123) ((if0 _ _).trans (feq (by decide : ¬ ((1 : Int32) = (0 : Int32)))).1) rfl ?_
      refine Run.iload (pc' := 128) X45 hx (hb hby at_126) rfl rfl ?_
      refine Run.ifNo (pc' := 131) X45 hx (hb hby at_128) ((if0 _ _).trans (teq (by decide : (0 : Int32) = (0 : Int32))).2) rfl ?_
      refine Run.iload (pc' := 133) X45 hx (hb hby at_131) rfl rfl ?_
      refine Run.ifNo (pc' := 136) X45 hx (hb hby at_133) ((if0 _ _).trans (feq (by decide : ¬ ((1 : Int32) = (0 : Int32)))).1) rfl ?_
      refine Run.iload (pc' := 138) X45 hx (hb hby at_136) rfl rfl ?_
      refine Run.ifNo (pc' := 141) X45 hx (hb hby at_138) ((if0 _ _).trans (teq (by decide : (0 : Int32) = (0 : Int32))).2) rfl ?_
      refine Run.iload (pc' := 143) X45 hx (hb hby at_141) rfl rfl ?_
      refine Run.ifNo (pc' := 146) X45 hx (hb hby at_143) ((if0 _ _).trans (teq (by decide : (0 : Int32) = (0 : Int32))).2) rfl ?_
      refine Run.iconst (pc' := 147) (v := (1 : Int32)) X45 hx (hb hby at_146) rfl rfl ?_
      refine Run.goto (pc' := 151) X45 hx (hb hby at_147) (by decide) (by decide) ?_
      exact Run.retSmall X45 hx (t := .boolean) (z' := (1 : Int32)) Bd.notSynchronized Bd.returns (by simp) rfl (hb hby at_151) ⟨rfl, N45⟩ (by decide) (by decide)
    refine Run.iloadN (pc' := 31) X40 hx (hb hby at_30) rfl rfl ?_
    refine Run.iload (pc' := 33) X40 hx (hb hby at_31) rfl rfl ?_
    by_cases hc33 : p1 < (1 : Int32)
    · skip
      refine Run.icmpYes (pc' := 46) X40 hx (hb hby at_33) (tlt hc33).1 (by decide) (by decide) ?_
      refine Run.iconst (pc' := 47) (v := (0 : Int32)) X40 hx (hb hby at_46) rfl rfl ?_
      refine Run.icmpNo (pc' := 50) X40 hx (hb hby at_47) (teq (by rw [own_F4, if_pos hc33]; rfl)).2 rfl ?_
      refine Run.iconst (pc' := 51) (v := (1 : Int32)) X40 hx (hb hby at_50) rfl rfl ?_
      refine Run.goto (pc' := 55) X40 hx (hb hby at_51) (by decide) (by decide) ?_
      exact J55 _ _ X40 e40 N40
    · skip
      refine Run.icmpNo (pc' := 36) X40 hx (hb hby at_33) (flt hc33).1 rfl ?_
      refine Run.iloadN (pc' := 37) X40 hx (hb hby at_36) rfl rfl ?_
      refine Run.iload (pc' := 39) X40 hx (hb hby at_37) rfl rfl ?_
      by_cases hc39 : (64 : Int32) < p1
      · skip
        refine Run.icmpYes (pc' := 46) X40 hx (hb hby at_39) (tlt hc39).2.2.1 (by decide) (by decide) ?_
        refine Run.iconst (pc' := 47) (v := (0 : Int32)) X40 hx (hb hby at_46) rfl rfl ?_
        refine Run.icmpNo (pc' := 50) X40 hx (hb hby at_47) (teq (by rw [own_F4, if_neg hc33, if_pos hc39]; rfl)).2 rfl ?_
        refine Run.iconst (pc' := 51) (v := (1 : Int32)) X40 hx (hb hby at_50) rfl rfl ?_
        refine Run.goto (pc' := 55) X40 hx (hb hby at_51) (by decide) (by decide) ?_
        exact J55 _ _ X40 e40 N40
      · skip
        refine Run.icmpNo (pc' := 42) X40 hx (hb hby at_39) (flt hc39).2.2.1 rfl ?_
        refine Run.iconst (pc' := 43) (v := (1 : Int32)) X40 hx (hb hby at_42) rfl rfl ?_
        refine Run.goto (pc' := 47) X40 hx (hb hby at_43) (by decide) (by decide) ?_
        refine Run.icmpNo (pc' := 50) X40 hx (hb hby at_47) (teq (by rw [own_F4, if_neg hc33, if_neg hc39]; rfl)).2 rfl ?_
        refine Run.iconst (pc' := 51) (v := (1 : Int32)) X40 hx (hb hby at_50) rfl rfl ?_
        refine Run.goto (pc' := 55) X40 hx (hb hby at_51) (by decide) (by decide) ?_
        exact J55 _ _ X40 e40 N40
  · rw [hk]
    refine Run.iloadN (pc' := 9) X0 hx (hb hby at_8) rfl rfl ?_
    obtain ⟨T46, L46, v46, X46, Q46, st46⟩ := callStatic X0 hx (y := (⟨"com/example/certwright/certwright/x509/AttributeTypeFitsPinLaw", "type", "(I)Lcom/example/certwright/certwright/x509/AttributeType;"⟩ : MethodName)) (Ls := #[.val (.int p0), .val (.int p1), .val (.int (5 : Int32)), .unset, .unset, .unset, .unset, .unset, .unset, .unset, .unset, .unset]) (rest := []) (W := 0) (argsL := [(.int (5 : Int32))]) hZ hown (hw _ (List.mem_of_getElem? (i := 1) rfl)) (hw _ (List.mem_of_getElem? (i := 2) rfl)) (hw _ (List.mem_of_getElem? (i := 3) rfl)) (hw _ (List.mem_of_getElem? (i := 4) rfl)) (by decide) e0 (rm1 l Z a0 hw [] (5 : Int32) a_COMMON_NAME a_LOCALITY a_STATE_OR_PROVINCE a_ORGANIZATION a_ORGANIZATIONAL_UNIT a_COUNTRY a_STREET a_DOMAIN_COMPONENT a_USER_ID a_SERIAL_NUMBER a_EMAIL_ADDRESS h0 n0 Z0 S_COMMON_NAME S_LOCALITY S_STATE_OR_PROVINCE S_ORGANIZATION S_ORGANIZATIONAL_UNIT S_COUNTRY S_STREET S_DOMAIN_COMPONENT S_USER_ID S_SERIAL_NUMBER S_EMAIL_ADDRESS) (hb hby at_9) (lenOf own_pd0 rfl) (by decide) (by decide) (by rw [hml]; rfl) (Nat.le_of_eq rfl) (by decide) (by decide)
    obtain ⟨hv46, M46, e46⟩ := Q46
    rw [show (own_F1 (5 : Int32) a_COMMON_NAME a_LOCALITY a_STATE_OR_PROVINCE a_ORGANIZATION a_ORGANIZATIONAL_UNIT a_COUNTRY a_STREET a_DOMAIN_COMPONENT a_USER_ID a_SERIAL_NUMBER a_EMAIL_ADDRESS) = a_COUNTRY from rfl] at hv46
    subst hv46
    have N46 := Fr.app N0 M46
    refine Run.back (g' := (mkF m 12 #[.val (.int p0), .val (.int p1), .val (.int (5 : Int32)), .unset, .unset, .unset, .unset, .unset, .unset, .unset, .unset, .unset] [(.ref a_COUNTRY)])) st46 ?_
    refine Run.astoreN (pc' := 13) X46 hx (l' := #[.val (.int p0), .val (.int p1), .val (.int (5 : Int32)), .val (.ref a_COUNTRY), .unset, .unset, .unset, .unset, .unset, .unset, .unset, .unset]) (hb hby at_12) rfl rfl ?_
    refine Run.iloadN (pc' := 14) X46 hx (hb hby at_13) rfl rfl ?_
    obtain ⟨T47, L47, v47, X47, Q47, st47⟩ := callStatic X46 hx (y := (⟨"com/example/certwright/certwright/x509/AttributeTypeFitsPinLaw", "low", "(I)I"⟩ : MethodName)) (Ls := #[.val (.int p0), .val (.int p1), .val (.int (5 : Int32)), .val (.ref a_COUNTRY), .unset, .unset, .unset, .unset, .unset, .unset, .unset, .unset]) (rest := []) (W := 0) (argsL := [(.int (5 : Int32))]) hZ hown (hw _ (List.mem_of_getElem? (i := 8) rfl)) (hw _ (List.mem_of_getElem? (i := 9) rfl)) (hw _ (List.mem_of_getElem? (i := 3) rfl)) (hw _ (List.mem_of_getElem? (i := 10) rfl)) (by decide) e46 (rm2 l Z a0 hw [] (5 : Int32)  h0 n0 Z0 ) (hb hby at_14) (lenOf own_pd1 rfl) (by decide) (by decide) (by rw [hml]; rfl) (Nat.le_of_eq rfl) (by decide) (by decide)
    obtain ⟨hv47, M47, e47⟩ := Q47
    rw [show (own_F2 (5 : Int32)) = (2 : Int32) from rfl] at hv47
    subst hv47
    have N47 := Fr.app N46 M47
    refine Run.back (g' := (mkF m 17 #[.val (.int p0), .val (.int p1), .val (.int (5 : Int32)), .val (.ref a_COUNTRY), .unset, .unset, .unset, .unset, .unset, .unset, .unset, .unset] [(.int (2 : Int32))])) st47 ?_
    refine Run.istore (pc' := 19) X47 hx (l' := #[.val (.int p0), .val (.int p1), .val (.int (5 : Int32)), .val (.ref a_COUNTRY), .val (.int (2 : Int32)), .unset, .unset, .unset, .unset, .unset, .unset, .unset]) (hb hby at_17) rfl rfl ?_
    refine Run.iloadN (pc' := 20) X47 hx (hb hby at_19) rfl rfl ?_
    obtain ⟨T48, L48, v48, X48, Q48, st48⟩ := callStatic X47 hx (y := (⟨"com/example/certwright/certwright/x509/AttributeTypeFitsPinLaw", "high", "(I)I"⟩ : MethodName)) (Ls := #[.val (.int p0), .val (.int p1), .val (.int (5 : Int32)), .val (.ref a_COUNTRY), .val (.int (2 : Int32)), .unset, .unset, .unset, .unset, .unset, .unset, .unset]) (rest := []) (W := 0) (argsL := [(.int (5 : Int32))]) hZ hown (hw _ (List.mem_of_getElem? (i := 11) rfl)) (hw _ (List.mem_of_getElem? (i := 12) rfl)) (hw _ (List.mem_of_getElem? (i := 3) rfl)) (hw _ (List.mem_of_getElem? (i := 13) rfl)) (by decide) e47 (rm3 l Z a0 hw [] (5 : Int32)  h0 n0 Z0 ) (hb hby at_20) (lenOf own_pd1 rfl) (by decide) (by decide) (by rw [hml]; rfl) (Nat.le_of_eq rfl) (by decide) (by decide)
    obtain ⟨hv48, M48, e48⟩ := Q48
    rw [show (own_F3 (5 : Int32)) = (2 : Int32) from rfl] at hv48
    subst hv48
    have N48 := Fr.app N47 M48
    refine Run.back (g' := (mkF m 23 #[.val (.int p0), .val (.int p1), .val (.int (5 : Int32)), .val (.ref a_COUNTRY), .val (.int (2 : Int32)), .unset, .unset, .unset, .unset, .unset, .unset, .unset] [(.int (2 : Int32))])) st48 ?_
    refine Run.istore (pc' := 25) X48 hx (l' := #[.val (.int p0), .val (.int p1), .val (.int (5 : Int32)), .val (.ref a_COUNTRY), .val (.int (2 : Int32)), .val (.int (2 : Int32)), .unset, .unset, .unset, .unset, .unset, .unset]) (hb hby at_23) rfl rfl ?_
    refine Run.aloadN (pc' := 26) X48 hx (hb hby at_25) rfl rfl ?_
    refine Run.iloadN (pc' := 27) X48 hx (hb hby at_26) rfl rfl ?_
    obtain ⟨T49, L49, v49, X49, Q49, st49⟩ := callVirtual X48 hx (y := (⟨"com/example/certwright/certwright/x509/AttributeType", "fits", "(I)Z"⟩ : MethodName)) (z := (⟨"com/example/certwright/certwright/x509/AttributeType", "fits", "(I)Z"⟩ : MethodName)) (C := "com/example/certwright/certwright/x509/AttributeType") (a := a_COUNTRY) (Ls := #[.val (.int p0), .val (.int p1), .val (.int (5 : Int32)), .val (.ref a_COUNTRY), .val (.int (2 : Int32)), .val (.int (2 : Int32)), .unset, .unset, .unset, .unset, .unset, .unset]) (rest := []) (W := 0) (argsL := [(.int p1)]) hZ hown (hw _ (List.mem_of_getElem? (i := 14) rfl)) (hw _ (List.mem_of_getElem? (i := 15) rfl)) (notFace_of_selects (args := #[]) (mvT hZ (hw _ (List.mem_of_getElem? (i := 17) rfl)))) (hw _ (List.mem_of_getElem? (i := 17) rfl)) (hw _ (List.mem_of_getElem? (i := 16) rfl)) (hw _ (List.mem_of_getElem? (i := 6) rfl)) (hw _ (List.mem_of_getElem? (i := 18) rfl)) (by decide) e48 E_COUNTRY (rm4 l Z a0 hw [] a_COUNTRY p1 (2 : Int32) (2 : Int32) h0 n0 Z0 F_COUNTRY_minLength F_COUNTRY_maxLength) (hb hby at_27) (lenOf own_pd2 rfl) (by decide) (by decide) (by rw [hml]; rfl) (Nat.le_of_eq rfl) (by decide) (by decide)
    obtain ⟨rfl, M49, e49⟩ := Q49
    have N49 := Fr.app N48 M49
    refine Run.back (g' := (mkF m 30 #[.val (.int p0), .val (.int p1), .val (.int (5 : Int32)), .val (.ref a_COUNTRY), .val (.int (2 : Int32)), .val (.int (2 : Int32)), .unset, .unset, .unset, .unset, .unset, .unset] [(.int (own_F4 a_COUNTRY p1 (2 : Int32) (2 : Int32)))])) st49 ?_
    have J55 : ∀ (T : State) (locs : List Loc), Stand p l e room_1 s m #[(.int p0), (.int p1)] below meth c T locs 0 0 → T.heap = h0 → Fr n0 locs → Run p.tables e below (FinR s room_1.cells room_1.slots (fun v h L => v = some (.int 1) ∧ Fr n0 L)) T (mkF m 55 #[.val (.int p0), .val (.int p1), .val (.int (5 : Int32)), .val (.ref a_COUNTRY), .val (.int (2 : Int32)), .val (.int (2 : Int32)), .unset, .unset, .unset, .unset, .unset, .unset] [(.int (1 : Int32))]) := by
      intro T locs X eT N
      refine Run.istore (pc' := 57) X hx (l' := #[.val (.int p0), .val (.int p1), .val (.int (5 : Int32)), .val (.ref a_COUNTRY), .val (.int (2 : Int32)), .val (.int (2 : Int32)), .val (.int (1 : Int32)), .unset, .unset, .unset, .unset, .unset]) (hb hby at_55) rfl rfl ?_
      refine Run.aloadN (pc' := 58) X hx (hb hby at_57) rfl rfl ?_
      refine Run.iload (pc' := 60) X hx (hb hby at_58) rfl rfl ?_
      obtain ⟨T50, L50, v50, X50, Q50, st50⟩ := callVirtual X hx (y := (⟨"com/example/certwright/certwright/x509/AttributeType", "fits", "(I)Z"⟩ : MethodName)) (z := (⟨"com/example/certwright/certwright/x509/AttributeType", "fits", "(I)Z"⟩ : MethodName)) (C := "com/example/certwright/certwright/x509/AttributeType") (a := a_COUNTRY) (Ls := #[.val (.int p0), .val (.int p1), .val (.int (5 : Int32)), .val (.ref a_COUNTRY), .val (.int (2 : Int32)), .val (.int (2 : Int32)), .val (.int (1 : Int32)), .unset, .unset, .unset, .unset, .unset]) (rest := []) (W := 0) (argsL := [(.int (2 : Int32))]) hZ hown (hw _ (List.mem_of_getElem? (i := 14) rfl)) (hw _ (List.mem_of_getElem? (i := 15) rfl)) (notFace_of_selects (args := #[]) (mvT hZ (hw _ (List.mem_of_getElem? (i := 17) rfl)))) (hw _ (List.mem_of_getElem? (i := 17) rfl)) (hw _ (List.mem_of_getElem? (i := 16) rfl)) (hw _ (List.mem_of_getElem? (i := 6) rfl)) (hw _ (List.mem_of_getElem? (i := 18) rfl)) (by decide) eT E_COUNTRY (rm4 l Z a0 hw [] a_COUNTRY (2 : Int32) (2 : Int32) (2 : Int32) h0 n0 Z0 F_COUNTRY_minLength F_COUNTRY_maxLength) (hb hby at_60) (lenOf own_pd2 rfl) (by decide) (by decide) (by rw [hml]; rfl) (Nat.le_of_eq rfl) (by decide) (by decide)
      obtain ⟨hv50, M50, e50⟩ := Q50
      rw [show (own_F4 a_COUNTRY (2 : Int32) (2 : Int32) (2 : Int32)) = (1 : Int32) from rfl] at hv50
      subst hv50
      have N50 := Fr.app N M50
      refine Run.back (g' := (mkF m 63 #[.val (.int p0), .val (.int p1), .val (.int (5 : Int32)), .val (.ref a_COUNTRY), .val (.int (2 : Int32)), .val (.int (2 : Int32)), .val (.int (1 : Int32)), .unset, .unset, .unset, .unset, .unset] [(.int (1 : Int32))])) st50 ?_
      refine Run.istore (pc' := 65) X50 hx (l' := #[.val (.int p0), .val (.int p1), .val (.int (5 : Int32)), .val (.ref a_COUNTRY), .val (.int (2 : Int32)), .val (.int (2 : Int32)), .val (.int (1 : Int32)), .val (.int (1 : Int32)), .unset, .unset, .unset, .unset]) (hb hby at_63) rfl rfl ?_
      refine Run.aloadN (pc' := 66) X50 hx (hb hby at_65) rfl rfl ?_
      refine Run.iload (pc' := 68) X50 hx (hb hby at_66) rfl rfl ?_
      refine Run.iconst (pc' := 69) (v := (1 : Int32)) X50 hx (hb hby at_68) rfl rfl ?_
      refine Run.isub (pc' := 70) X50 hx (hb hby at_69) rfl ?_
      obtain ⟨T51, L51, v51, X51, Q51, st51⟩ := callVirtual X50 hx (y := (⟨"com/example/certwright/certwright/x509/AttributeType", "fits", "(I)Z"⟩ : MethodName)) (z := (⟨"com/example/certwright/certwright/x509/AttributeType", "fits", "(I)Z"⟩ : MethodName)) (C := "com/example/certwright/certwright/x509/AttributeType") (a := a_COUNTRY) (Ls := #[.val (.int p0), .val (.int p1), .val (.int (5 : Int32)), .val (.ref a_COUNTRY), .val (.int (2 : Int32)), .val (.int (2 : Int32)), .val (.int (1 : Int32)), .val (.int (1 : Int32)), .unset, .unset, .unset, .unset]) (rest := []) (W := 0) (argsL := [(.int ((2 : Int32) - (1 : Int32)))]) hZ hown (hw _ (List.mem_of_getElem? (i := 14) rfl)) (hw _ (List.mem_of_getElem? (i := 15) rfl)) (notFace_of_selects (args := #[]) (mvT hZ (hw _ (List.mem_of_getElem? (i := 17) rfl)))) (hw _ (List.mem_of_getElem? (i := 17) rfl)) (hw _ (List.mem_of_getElem? (i := 16) rfl)) (hw _ (List.mem_of_getElem? (i := 6) rfl)) (hw _ (List.mem_of_getElem? (i := 18) rfl)) (by decide) e50 E_COUNTRY (rm4 l Z a0 hw [] a_COUNTRY ((2 : Int32) - (1 : Int32)) (2 : Int32) (2 : Int32) h0 n0 Z0 F_COUNTRY_minLength F_COUNTRY_maxLength) (hb hby at_70) (lenOf own_pd2 rfl) (by decide) (by decide) (by rw [hml]; rfl) (Nat.le_of_eq rfl) (by decide) (by decide)
      obtain ⟨hv51, M51, e51⟩ := Q51
      rw [show (own_F4 a_COUNTRY ((2 : Int32) - (1 : Int32)) (2 : Int32) (2 : Int32)) = (0 : Int32) from rfl] at hv51
      subst hv51
      have N51 := Fr.app N50 M51
      refine Run.back (g' := (mkF m 73 #[.val (.int p0), .val (.int p1), .val (.int (5 : Int32)), .val (.ref a_COUNTRY), .val (.int (2 : Int32)), .val (.int (2 : Int32)), .val (.int (1 : Int32)), .val (.int (1 : Int32)), .unset, .unset, .unset, .unset] [(.int (0 : Int32))])) st51 ?_
      refine Run.istore (pc' := 75) X51 hx (l' := #[.val (.int p0), .val (.int p1), .val (.int (5 : Int32)), .val (.ref a_COUNTRY), .val (.int (2 : Int32)), .val (.int (2 : Int32)), .val (.int (1 : Int32)), .val (.int (1 : Int32)), .val (.int (0 : Int32)), .unset, .unset, .unset]) (hb hby at_73) rfl rfl ?_
      refine Run.aloadN (pc' := 76) X51 hx (hb hby at_75) rfl rfl ?_
      refine Run.iload (pc' := 78) X51 hx (hb hby at_76) rfl rfl ?_
      obtain ⟨T52, L52, v52, X52, Q52, st52⟩ := callVirtual X51 hx (y := (⟨"com/example/certwright/certwright/x509/AttributeType", "fits", "(I)Z"⟩ : MethodName)) (z := (⟨"com/example/certwright/certwright/x509/AttributeType", "fits", "(I)Z"⟩ : MethodName)) (C := "com/example/certwright/certwright/x509/AttributeType") (a := a_COUNTRY) (Ls := #[.val (.int p0), .val (.int p1), .val (.int (5 : Int32)), .val (.ref a_COUNTRY), .val (.int (2 : Int32)), .val (.int (2 : Int32)), .val (.int (1 : Int32)), .val (.int (1 : Int32)), .val (.int (0 : Int32)), .unset, .unset, .unset]) (rest := []) (W := 0) (argsL := [(.int (2 : Int32))]) hZ hown (hw _ (List.mem_of_getElem? (i := 14) rfl)) (hw _ (List.mem_of_getElem? (i := 15) rfl)) (notFace_of_selects (args := #[]) (mvT hZ (hw _ (List.mem_of_getElem? (i := 17) rfl)))) (hw _ (List.mem_of_getElem? (i := 17) rfl)) (hw _ (List.mem_of_getElem? (i := 16) rfl)) (hw _ (List.mem_of_getElem? (i := 6) rfl)) (hw _ (List.mem_of_getElem? (i := 18) rfl)) (by decide) e51 E_COUNTRY (rm4 l Z a0 hw [] a_COUNTRY (2 : Int32) (2 : Int32) (2 : Int32) h0 n0 Z0 F_COUNTRY_minLength F_COUNTRY_maxLength) (hb hby at_78) (lenOf own_pd2 rfl) (by decide) (by decide) (by rw [hml]; rfl) (Nat.le_of_eq rfl) (by decide) (by decide)
      obtain ⟨hv52, M52, e52⟩ := Q52
      rw [show (own_F4 a_COUNTRY (2 : Int32) (2 : Int32) (2 : Int32)) = (1 : Int32) from rfl] at hv52
      subst hv52
      have N52 := Fr.app N51 M52
      refine Run.back (g' := (mkF m 81 #[.val (.int p0), .val (.int p1), .val (.int (5 : Int32)), .val (.ref a_COUNTRY), .val (.int (2 : Int32)), .val (.int (2 : Int32)), .val (.int (1 : Int32)), .val (.int (1 : Int32)), .val (.int (0 : Int32)), .unset, .unset, .unset] [(.int (1 : Int32))])) st52 ?_
      refine Run.istore (pc' := 83) X52 hx (l' := #[.val (.int p0), .val (.int p1), .val (.int (5 : Int32)), .val (.ref a_COUNTRY), .val (.int (2 : Int32)), .val (.int (2 : Int32)), .val (.int (1 : Int32)), .val (.int (1 : Int32)), .val (.int (0 : Int32)), .val (.int (1 : Int32)), .unset, .unset]) (hb hby at_81) rfl rfl ?_
      refine Run.iload (pc' := 85) X52 hx (hb hby at_83) rfl rfl ?_
      refine Run.ldcInt (pc' := 87) (v := (2147483647 : Int32)) X52 hx hown (mvT hZ (hw _ (List.mem_of_getElem? (i := 0) rfl))) (hb hby at_85) rfl ?_
      refine Run.icmpNo (pc' := 90) X52 hx (hb hby at_87) (feq (by decide : ¬ ((2 : Int32) = (2147483647 : Int32)))).1 rfl ?_
      refine Run.aloadN (pc' := 91) X52 hx (hb hby at_90) rfl rfl ?_
      refine Run.iload (pc' := 93) X52 hx (hb hby at_91) rfl rfl ?_
      refine Run.iconst (pc' := 94) (v := (1 : Int32)) X52 hx (hb hby at_93) rfl rfl ?_
      refine Run.iadd (pc' := 95) X52 hx (hb hby at_94) rfl ?_
      obtain ⟨T53, L53, v53, X53, Q53, st53⟩ := callVirtual X52 hx (y := (⟨"com/example/certwright/certwright/x509/AttributeType", "fits", "(I)Z"⟩ : MethodName)) (z := (⟨"com/example/certwright/certwright/x509/AttributeType", "fits", "(I)Z"⟩ : MethodName)) (C := "com/example/certwright/certwright/x509/AttributeType") (a := a_COUNTRY) (Ls := #[.val (.int p0), .val (.int p1), .val (.int (5 : Int32)), .val (.ref a_COUNTRY), .val (.int (2 : Int32)), .val (.int (2 : Int32)), .val (.int (1 : Int32)), .val (.int (1 : Int32)), .val (.int (0 : Int32)), .val (.int (1 : Int32)), .unset, .unset]) (rest := []) (W := 0) (argsL := [(.int ((2 : Int32) + (1 : Int32)))]) hZ hown (hw _ (List.mem_of_getElem? (i := 14) rfl)) (hw _ (List.mem_of_getElem? (i := 15) rfl)) (notFace_of_selects (args := #[]) (mvT hZ (hw _ (List.mem_of_getElem? (i := 17) rfl)))) (hw _ (List.mem_of_getElem? (i := 17) rfl)) (hw _ (List.mem_of_getElem? (i := 16) rfl)) (hw _ (List.mem_of_getElem? (i := 6) rfl)) (hw _ (List.mem_of_getElem? (i := 18) rfl)) (by decide) e52 E_COUNTRY (rm4 l Z a0 hw [] a_COUNTRY ((2 : Int32) + (1 : Int32)) (2 : Int32) (2 : Int32) h0 n0 Z0 F_COUNTRY_minLength F_COUNTRY_maxLength) (hb hby at_95) (lenOf own_pd2 rfl) (by decide) (by decide) (by rw [hml]; rfl) (Nat.le_of_eq rfl) (by decide) (by decide)
      obtain ⟨hv53, M53, e53⟩ := Q53
      rw [show (own_F4 a_COUNTRY ((2 : Int32) + (1 : Int32)) (2 : Int32) (2 : Int32)) = (0 : Int32) from rfl] at hv53
      subst hv53
      have N53 := Fr.app N52 M53
      refine Run.back (g' := (mkF m 98 #[.val (.int p0), .val (.int p1), .val (.int (5 : Int32)), .val (.ref a_COUNTRY), .val (.int (2 : Int32)), .val (.int (2 : Int32)), .val (.int (1 : Int32)), .val (.int (1 : Int32)), .val (.int (0 : Int32)), .val (.int (1 : Int32)), .unset, .unset] [(.int (0 : Int32))])) st53 ?_
      refine Run.ifYes (pc' := 105) X53 hx (hb hby at_98) ((if0 _ _).trans (teq (by decide : (0 : Int32) = (0 : Int32))).1) (by decide) (by decide) ?_
      refine Run.iconst (pc' := 106) (v := (0 : Int32)) X53 hx (hb hby at_105) rfl rfl ?_
      refine Run.istore (pc' := 108) X53 hx (l' := #[.val (.int p0), .val (.int p1), .val (.int (5 : Int32)), .val (.ref a_COUNTRY), .val (.int (2 : Int32)), .val (.int (2 : Int32)), .val (.int (1 : Int32)), .val (.int (1 : Int32)), .val (.int (0 : Int32)), .val (.int (1 : Int32)), .val (.int (0 : Int32)), .unset]) (hb hby at_106) rfl rfl ?_
      refine Run.aloadN (pc' := 109) X53 hx (hb hby at_108) rfl rfl ?_
      refine Run.ldcInt (pc' := 111) (v := (-2147483648 : Int32)) X53 hx hown (mvT hZ (hw _ (List.mem_of_getElem? (i := 23) rfl))) (hb hby at_109) rfl ?_
      obtain ⟨T54, L54, v54, X54, Q54, st54⟩ := callVirtual X53 hx (y := (⟨"com/example/certwright/certwright/x509/AttributeType", "fits", "(I)Z"⟩ : MethodName)) (z := (⟨"com/example/certwright/certwright/x509/AttributeType", "fits", "(I)Z"⟩ : MethodName)) (C := "com/example/certwright/certwright/x509/AttributeType") (a := a_COUNTRY) (Ls := #[.val (.int p0), .val (.int p1), .val (.int (5 : Int32)), .val (.ref a_COUNTRY), .val (.int (2 : Int32)), .val (.int (2 : Int32)), .val (.int (1 : Int32)), .val (.int (1 : Int32)), .val (.int (0 : Int32)), .val (.int (1 : Int32)), .val (.int (0 : Int32)), .unset]) (rest := []) (W := 0) (argsL := [(.int (-2147483648 : Int32))]) hZ hown (hw _ (List.mem_of_getElem? (i := 14) rfl)) (hw _ (List.mem_of_getElem? (i := 15) rfl)) (notFace_of_selects (args := #[]) (mvT hZ (hw _ (List.mem_of_getElem? (i := 17) rfl)))) (hw _ (List.mem_of_getElem? (i := 17) rfl)) (hw _ (List.mem_of_getElem? (i := 16) rfl)) (hw _ (List.mem_of_getElem? (i := 6) rfl)) (hw _ (List.mem_of_getElem? (i := 18) rfl)) (by decide) e53 E_COUNTRY (rm4 l Z a0 hw [] a_COUNTRY (-2147483648 : Int32) (2 : Int32) (2 : Int32) h0 n0 Z0 F_COUNTRY_minLength F_COUNTRY_maxLength) (hb hby at_111) (lenOf own_pd2 rfl) (by decide) (by decide) (by rw [hml]; rfl) (Nat.le_of_eq rfl) (by decide) (by decide)
      obtain ⟨hv54, M54, e54⟩ := Q54
      rw [show (own_F4 a_COUNTRY (-2147483648 : Int32) (2 : Int32) (2 : Int32)) = (0 : Int32) from rfl] at hv54
      subst hv54
      have N54 := Fr.app N53 M54
      refine Run.back (g' := (mkF m 114 #[.val (.int p0), .val (.int p1), .val (.int (5 : Int32)), .val (.ref a_COUNTRY), .val (.int (2 : Int32)), .val (.int (2 : Int32)), .val (.int (1 : Int32)), .val (.int (1 : Int32)), .val (.int (0 : Int32)), .val (.int (1 : Int32)), .val (.int (0 : Int32)), .unset] [(.int (0 : Int32))])) st54 ?_
      refine Run.istore (pc' := 116) X54 hx (l' := #[.val (.int p0), .val (.int p1), .val (.int (5 : Int32)), .val (.ref a_COUNTRY), .val (.int (2 : Int32)), .val (.int (2 : Int32)), .val (.int (1 : Int32)), .val (.int (1 : Int32)), .val (.int (0 : Int32)), .val (.int (1 : Int32)), .val (.int (0 : Int32)), .val (.int (0 : Int32))]) (hb hby at_114) rfl rfl ?_
      refine Run.iload (pc' := 118) X54 hx (hb hby at_116) rfl rfl ?_
      refine Run.ifNo (pc' := 121) X54 hx (hb hby at_118) ((if0 _ _).trans (feq (by decide : ¬ ((1 : Int32) = (0 : Int32)))).1) rfl ?_
      refine Run.iload (pc' := 123) X54 hx (hb hby at_121) rfl rfl ?_
      refine Run.ifNo (pc' := 126) X54 hx (hb hby at_123) ((if0 _ _).trans (feq (by decide : ¬ ((1 : Int32) = (0 : Int32)))).1) rfl ?_
      refine Run.iload (pc' := 128) X54 hx (hb hby at_126) rfl rfl ?_
      refine Run.ifNo (pc' := 131) X54 hx (hb hby at_128) ((if0 _ _).trans (teq (by decide : (0 : Int32) = (0 : Int32))).2) rfl ?_
      refine Run.iload (pc' := 133) X54 hx (hb hby at_131) rfl rfl ?_
      refine Run.ifNo (pc' := 136) X54 hx (hb hby at_133) ((if0 _ _).trans (feq (by decide : ¬ ((1 : Int32) = (0 : Int32)))).1) rfl ?_
      refine Run.iload (pc' := 138) X54 hx (hb hby at_136) rfl rfl ?_
      refine Run.ifNo (pc' := 141) X54 hx (hb hby at_138) ((if0 _ _).trans (teq (by decide : (0 : Int32) = (0 : Int32))).2) rfl ?_
      refine Run.iload (pc' := 143) X54 hx (hb hby at_141) rfl rfl ?_
      refine Run.ifNo (pc' := 146) X54 hx (hb hby at_143) ((if0 _ _).trans (teq (by decide : (0 : Int32) = (0 : Int32))).2) rfl ?_
      refine Run.iconst (pc' := 147) (v := (1 : Int32)) X54 hx (hb hby at_146) rfl rfl ?_
      refine Run.goto (pc' := 151) X54 hx (hb hby at_147) (by decide) (by decide) ?_
      exact Run.retSmall X54 hx (t := .boolean) (z' := (1 : Int32)) Bd.notSynchronized Bd.returns (by simp) rfl (hb hby at_151) ⟨rfl, N54⟩ (by decide) (by decide)
    refine Run.iloadN (pc' := 31) X49 hx (hb hby at_30) rfl rfl ?_
    refine Run.iload (pc' := 33) X49 hx (hb hby at_31) rfl rfl ?_
    by_cases hc33 : p1 < (2 : Int32)
    · skip
      refine Run.icmpYes (pc' := 46) X49 hx (hb hby at_33) (tlt hc33).1 (by decide) (by decide) ?_
      refine Run.iconst (pc' := 47) (v := (0 : Int32)) X49 hx (hb hby at_46) rfl rfl ?_
      refine Run.icmpNo (pc' := 50) X49 hx (hb hby at_47) (teq (by rw [own_F4, if_pos hc33]; rfl)).2 rfl ?_
      refine Run.iconst (pc' := 51) (v := (1 : Int32)) X49 hx (hb hby at_50) rfl rfl ?_
      refine Run.goto (pc' := 55) X49 hx (hb hby at_51) (by decide) (by decide) ?_
      exact J55 _ _ X49 e49 N49
    · skip
      refine Run.icmpNo (pc' := 36) X49 hx (hb hby at_33) (flt hc33).1 rfl ?_
      refine Run.iloadN (pc' := 37) X49 hx (hb hby at_36) rfl rfl ?_
      refine Run.iload (pc' := 39) X49 hx (hb hby at_37) rfl rfl ?_
      by_cases hc39 : (2 : Int32) < p1
      · skip
        refine Run.icmpYes (pc' := 46) X49 hx (hb hby at_39) (tlt hc39).2.2.1 (by decide) (by decide) ?_
        refine Run.iconst (pc' := 47) (v := (0 : Int32)) X49 hx (hb hby at_46) rfl rfl ?_
        refine Run.icmpNo (pc' := 50) X49 hx (hb hby at_47) (teq (by rw [own_F4, if_neg hc33, if_pos hc39]; rfl)).2 rfl ?_
        refine Run.iconst (pc' := 51) (v := (1 : Int32)) X49 hx (hb hby at_50) rfl rfl ?_
        refine Run.goto (pc' := 55) X49 hx (hb hby at_51) (by decide) (by decide) ?_
        exact J55 _ _ X49 e49 N49
      · skip
        refine Run.icmpNo (pc' := 42) X49 hx (hb hby at_39) (flt hc39).2.2.1 rfl ?_
        refine Run.iconst (pc' := 43) (v := (1 : Int32)) X49 hx (hb hby at_42) rfl rfl ?_
        refine Run.goto (pc' := 47) X49 hx (hb hby at_43) (by decide) (by decide) ?_
        refine Run.icmpNo (pc' := 50) X49 hx (hb hby at_47) (teq (by rw [own_F4, if_neg hc33, if_neg hc39]; rfl)).2 rfl ?_
        refine Run.iconst (pc' := 51) (v := (1 : Int32)) X49 hx (hb hby at_50) rfl rfl ?_
        refine Run.goto (pc' := 55) X49 hx (hb hby at_51) (by decide) (by decide) ?_
        exact J55 _ _ X49 e49 N49
  · rw [hk]
    refine Run.iloadN (pc' := 9) X0 hx (hb hby at_8) rfl rfl ?_
    obtain ⟨T55, L55, v55, X55, Q55, st55⟩ := callStatic X0 hx (y := (⟨"com/example/certwright/certwright/x509/AttributeTypeFitsPinLaw", "type", "(I)Lcom/example/certwright/certwright/x509/AttributeType;"⟩ : MethodName)) (Ls := #[.val (.int p0), .val (.int p1), .val (.int (6 : Int32)), .unset, .unset, .unset, .unset, .unset, .unset, .unset, .unset, .unset]) (rest := []) (W := 0) (argsL := [(.int (6 : Int32))]) hZ hown (hw _ (List.mem_of_getElem? (i := 1) rfl)) (hw _ (List.mem_of_getElem? (i := 2) rfl)) (hw _ (List.mem_of_getElem? (i := 3) rfl)) (hw _ (List.mem_of_getElem? (i := 4) rfl)) (by decide) e0 (rm1 l Z a0 hw [] (6 : Int32) a_COMMON_NAME a_LOCALITY a_STATE_OR_PROVINCE a_ORGANIZATION a_ORGANIZATIONAL_UNIT a_COUNTRY a_STREET a_DOMAIN_COMPONENT a_USER_ID a_SERIAL_NUMBER a_EMAIL_ADDRESS h0 n0 Z0 S_COMMON_NAME S_LOCALITY S_STATE_OR_PROVINCE S_ORGANIZATION S_ORGANIZATIONAL_UNIT S_COUNTRY S_STREET S_DOMAIN_COMPONENT S_USER_ID S_SERIAL_NUMBER S_EMAIL_ADDRESS) (hb hby at_9) (lenOf own_pd0 rfl) (by decide) (by decide) (by rw [hml]; rfl) (Nat.le_of_eq rfl) (by decide) (by decide)
    obtain ⟨hv55, M55, e55⟩ := Q55
    rw [show (own_F1 (6 : Int32) a_COMMON_NAME a_LOCALITY a_STATE_OR_PROVINCE a_ORGANIZATION a_ORGANIZATIONAL_UNIT a_COUNTRY a_STREET a_DOMAIN_COMPONENT a_USER_ID a_SERIAL_NUMBER a_EMAIL_ADDRESS) = a_STREET from rfl] at hv55
    subst hv55
    have N55 := Fr.app N0 M55
    refine Run.back (g' := (mkF m 12 #[.val (.int p0), .val (.int p1), .val (.int (6 : Int32)), .unset, .unset, .unset, .unset, .unset, .unset, .unset, .unset, .unset] [(.ref a_STREET)])) st55 ?_
    refine Run.astoreN (pc' := 13) X55 hx (l' := #[.val (.int p0), .val (.int p1), .val (.int (6 : Int32)), .val (.ref a_STREET), .unset, .unset, .unset, .unset, .unset, .unset, .unset, .unset]) (hb hby at_12) rfl rfl ?_
    refine Run.iloadN (pc' := 14) X55 hx (hb hby at_13) rfl rfl ?_
    obtain ⟨T56, L56, v56, X56, Q56, st56⟩ := callStatic X55 hx (y := (⟨"com/example/certwright/certwright/x509/AttributeTypeFitsPinLaw", "low", "(I)I"⟩ : MethodName)) (Ls := #[.val (.int p0), .val (.int p1), .val (.int (6 : Int32)), .val (.ref a_STREET), .unset, .unset, .unset, .unset, .unset, .unset, .unset, .unset]) (rest := []) (W := 0) (argsL := [(.int (6 : Int32))]) hZ hown (hw _ (List.mem_of_getElem? (i := 8) rfl)) (hw _ (List.mem_of_getElem? (i := 9) rfl)) (hw _ (List.mem_of_getElem? (i := 3) rfl)) (hw _ (List.mem_of_getElem? (i := 10) rfl)) (by decide) e55 (rm2 l Z a0 hw [] (6 : Int32)  h0 n0 Z0 ) (hb hby at_14) (lenOf own_pd1 rfl) (by decide) (by decide) (by rw [hml]; rfl) (Nat.le_of_eq rfl) (by decide) (by decide)
    obtain ⟨hv56, M56, e56⟩ := Q56
    rw [show (own_F2 (6 : Int32)) = (1 : Int32) from rfl] at hv56
    subst hv56
    have N56 := Fr.app N55 M56
    refine Run.back (g' := (mkF m 17 #[.val (.int p0), .val (.int p1), .val (.int (6 : Int32)), .val (.ref a_STREET), .unset, .unset, .unset, .unset, .unset, .unset, .unset, .unset] [(.int (1 : Int32))])) st56 ?_
    refine Run.istore (pc' := 19) X56 hx (l' := #[.val (.int p0), .val (.int p1), .val (.int (6 : Int32)), .val (.ref a_STREET), .val (.int (1 : Int32)), .unset, .unset, .unset, .unset, .unset, .unset, .unset]) (hb hby at_17) rfl rfl ?_
    refine Run.iloadN (pc' := 20) X56 hx (hb hby at_19) rfl rfl ?_
    obtain ⟨T57, L57, v57, X57, Q57, st57⟩ := callStatic X56 hx (y := (⟨"com/example/certwright/certwright/x509/AttributeTypeFitsPinLaw", "high", "(I)I"⟩ : MethodName)) (Ls := #[.val (.int p0), .val (.int p1), .val (.int (6 : Int32)), .val (.ref a_STREET), .val (.int (1 : Int32)), .unset, .unset, .unset, .unset, .unset, .unset, .unset]) (rest := []) (W := 0) (argsL := [(.int (6 : Int32))]) hZ hown (hw _ (List.mem_of_getElem? (i := 11) rfl)) (hw _ (List.mem_of_getElem? (i := 12) rfl)) (hw _ (List.mem_of_getElem? (i := 3) rfl)) (hw _ (List.mem_of_getElem? (i := 13) rfl)) (by decide) e56 (rm3 l Z a0 hw [] (6 : Int32)  h0 n0 Z0 ) (hb hby at_20) (lenOf own_pd1 rfl) (by decide) (by decide) (by rw [hml]; rfl) (Nat.le_of_eq rfl) (by decide) (by decide)
    obtain ⟨hv57, M57, e57⟩ := Q57
    rw [show (own_F3 (6 : Int32)) = (2147483647 : Int32) from rfl] at hv57
    subst hv57
    have N57 := Fr.app N56 M57
    refine Run.back (g' := (mkF m 23 #[.val (.int p0), .val (.int p1), .val (.int (6 : Int32)), .val (.ref a_STREET), .val (.int (1 : Int32)), .unset, .unset, .unset, .unset, .unset, .unset, .unset] [(.int (2147483647 : Int32))])) st57 ?_
    refine Run.istore (pc' := 25) X57 hx (l' := #[.val (.int p0), .val (.int p1), .val (.int (6 : Int32)), .val (.ref a_STREET), .val (.int (1 : Int32)), .val (.int (2147483647 : Int32)), .unset, .unset, .unset, .unset, .unset, .unset]) (hb hby at_23) rfl rfl ?_
    refine Run.aloadN (pc' := 26) X57 hx (hb hby at_25) rfl rfl ?_
    refine Run.iloadN (pc' := 27) X57 hx (hb hby at_26) rfl rfl ?_
    obtain ⟨T58, L58, v58, X58, Q58, st58⟩ := callVirtual X57 hx (y := (⟨"com/example/certwright/certwright/x509/AttributeType", "fits", "(I)Z"⟩ : MethodName)) (z := (⟨"com/example/certwright/certwright/x509/AttributeType", "fits", "(I)Z"⟩ : MethodName)) (C := "com/example/certwright/certwright/x509/AttributeType") (a := a_STREET) (Ls := #[.val (.int p0), .val (.int p1), .val (.int (6 : Int32)), .val (.ref a_STREET), .val (.int (1 : Int32)), .val (.int (2147483647 : Int32)), .unset, .unset, .unset, .unset, .unset, .unset]) (rest := []) (W := 0) (argsL := [(.int p1)]) hZ hown (hw _ (List.mem_of_getElem? (i := 14) rfl)) (hw _ (List.mem_of_getElem? (i := 15) rfl)) (notFace_of_selects (args := #[]) (mvT hZ (hw _ (List.mem_of_getElem? (i := 17) rfl)))) (hw _ (List.mem_of_getElem? (i := 17) rfl)) (hw _ (List.mem_of_getElem? (i := 16) rfl)) (hw _ (List.mem_of_getElem? (i := 6) rfl)) (hw _ (List.mem_of_getElem? (i := 18) rfl)) (by decide) e57 E_STREET (rm4 l Z a0 hw [] a_STREET p1 (1 : Int32) (2147483647 : Int32) h0 n0 Z0 F_STREET_minLength F_STREET_maxLength) (hb hby at_27) (lenOf own_pd2 rfl) (by decide) (by decide) (by rw [hml]; rfl) (Nat.le_of_eq rfl) (by decide) (by decide)
    obtain ⟨rfl, M58, e58⟩ := Q58
    have N58 := Fr.app N57 M58
    refine Run.back (g' := (mkF m 30 #[.val (.int p0), .val (.int p1), .val (.int (6 : Int32)), .val (.ref a_STREET), .val (.int (1 : Int32)), .val (.int (2147483647 : Int32)), .unset, .unset, .unset, .unset, .unset, .unset] [(.int (own_F4 a_STREET p1 (1 : Int32) (2147483647 : Int32)))])) st58 ?_
    have J55 : ∀ (T : State) (locs : List Loc), Stand p l e room_1 s m #[(.int p0), (.int p1)] below meth c T locs 0 0 → T.heap = h0 → Fr n0 locs → Run p.tables e below (FinR s room_1.cells room_1.slots (fun v h L => v = some (.int 1) ∧ Fr n0 L)) T (mkF m 55 #[.val (.int p0), .val (.int p1), .val (.int (6 : Int32)), .val (.ref a_STREET), .val (.int (1 : Int32)), .val (.int (2147483647 : Int32)), .unset, .unset, .unset, .unset, .unset, .unset] [(.int (1 : Int32))]) := by
      intro T locs X eT N
      refine Run.istore (pc' := 57) X hx (l' := #[.val (.int p0), .val (.int p1), .val (.int (6 : Int32)), .val (.ref a_STREET), .val (.int (1 : Int32)), .val (.int (2147483647 : Int32)), .val (.int (1 : Int32)), .unset, .unset, .unset, .unset, .unset]) (hb hby at_55) rfl rfl ?_
      refine Run.aloadN (pc' := 58) X hx (hb hby at_57) rfl rfl ?_
      refine Run.iload (pc' := 60) X hx (hb hby at_58) rfl rfl ?_
      obtain ⟨T59, L59, v59, X59, Q59, st59⟩ := callVirtual X hx (y := (⟨"com/example/certwright/certwright/x509/AttributeType", "fits", "(I)Z"⟩ : MethodName)) (z := (⟨"com/example/certwright/certwright/x509/AttributeType", "fits", "(I)Z"⟩ : MethodName)) (C := "com/example/certwright/certwright/x509/AttributeType") (a := a_STREET) (Ls := #[.val (.int p0), .val (.int p1), .val (.int (6 : Int32)), .val (.ref a_STREET), .val (.int (1 : Int32)), .val (.int (2147483647 : Int32)), .val (.int (1 : Int32)), .unset, .unset, .unset, .unset, .unset]) (rest := []) (W := 0) (argsL := [(.int (1 : Int32))]) hZ hown (hw _ (List.mem_of_getElem? (i := 14) rfl)) (hw _ (List.mem_of_getElem? (i := 15) rfl)) (notFace_of_selects (args := #[]) (mvT hZ (hw _ (List.mem_of_getElem? (i := 17) rfl)))) (hw _ (List.mem_of_getElem? (i := 17) rfl)) (hw _ (List.mem_of_getElem? (i := 16) rfl)) (hw _ (List.mem_of_getElem? (i := 6) rfl)) (hw _ (List.mem_of_getElem? (i := 18) rfl)) (by decide) eT E_STREET (rm4 l Z a0 hw [] a_STREET (1 : Int32) (1 : Int32) (2147483647 : Int32) h0 n0 Z0 F_STREET_minLength F_STREET_maxLength) (hb hby at_60) (lenOf own_pd2 rfl) (by decide) (by decide) (by rw [hml]; rfl) (Nat.le_of_eq rfl) (by decide) (by decide)
      obtain ⟨hv59, M59, e59⟩ := Q59
      rw [show (own_F4 a_STREET (1 : Int32) (1 : Int32) (2147483647 : Int32)) = (1 : Int32) from rfl] at hv59
      subst hv59
      have N59 := Fr.app N M59
      refine Run.back (g' := (mkF m 63 #[.val (.int p0), .val (.int p1), .val (.int (6 : Int32)), .val (.ref a_STREET), .val (.int (1 : Int32)), .val (.int (2147483647 : Int32)), .val (.int (1 : Int32)), .unset, .unset, .unset, .unset, .unset] [(.int (1 : Int32))])) st59 ?_
      refine Run.istore (pc' := 65) X59 hx (l' := #[.val (.int p0), .val (.int p1), .val (.int (6 : Int32)), .val (.ref a_STREET), .val (.int (1 : Int32)), .val (.int (2147483647 : Int32)), .val (.int (1 : Int32)), .val (.int (1 : Int32)), .unset, .unset, .unset, .unset]) (hb hby at_63) rfl rfl ?_
      refine Run.aloadN (pc' := 66) X59 hx (hb hby at_65) rfl rfl ?_
      refine Run.iload (pc' := 68) X59 hx (hb hby at_66) rfl rfl ?_
      refine Run.iconst (pc' := 69) (v := (1 : Int32)) X59 hx (hb hby at_68) rfl rfl ?_
      refine Run.isub (pc' := 70) X59 hx (hb hby at_69) rfl ?_
      obtain ⟨T60, L60, v60, X60, Q60, st60⟩ := callVirtual X59 hx (y := (⟨"com/example/certwright/certwright/x509/AttributeType", "fits", "(I)Z"⟩ : MethodName)) (z := (⟨"com/example/certwright/certwright/x509/AttributeType", "fits", "(I)Z"⟩ : MethodName)) (C := "com/example/certwright/certwright/x509/AttributeType") (a := a_STREET) (Ls := #[.val (.int p0), .val (.int p1), .val (.int (6 : Int32)), .val (.ref a_STREET), .val (.int (1 : Int32)), .val (.int (2147483647 : Int32)), .val (.int (1 : Int32)), .val (.int (1 : Int32)), .unset, .unset, .unset, .unset]) (rest := []) (W := 0) (argsL := [(.int ((1 : Int32) - (1 : Int32)))]) hZ hown (hw _ (List.mem_of_getElem? (i := 14) rfl)) (hw _ (List.mem_of_getElem? (i := 15) rfl)) (notFace_of_selects (args := #[]) (mvT hZ (hw _ (List.mem_of_getElem? (i := 17) rfl)))) (hw _ (List.mem_of_getElem? (i := 17) rfl)) (hw _ (List.mem_of_getElem? (i := 16) rfl)) (hw _ (List.mem_of_getElem? (i := 6) rfl)) (hw _ (List.mem_of_getElem? (i := 18) rfl)) (by decide) e59 E_STREET (rm4 l Z a0 hw [] a_STREET ((1 : Int32) - (1 : Int32)) (1 : Int32) (2147483647 : Int32) h0 n0 Z0 F_STREET_minLength F_STREET_maxLength) (hb hby at_70) (lenOf own_pd2 rfl) (by decide) (by decide) (by rw [hml]; rfl) (Nat.le_of_eq rfl) (by decide) (by decide)
      obtain ⟨hv60, M60, e60⟩ := Q60
      rw [show (own_F4 a_STREET ((1 : Int32) - (1 : Int32)) (1 : Int32) (2147483647 : Int32)) = (0 : Int32) from rfl] at hv60
      subst hv60
      have N60 := Fr.app N59 M60
      refine Run.back (g' := (mkF m 73 #[.val (.int p0), .val (.int p1), .val (.int (6 : Int32)), .val (.ref a_STREET), .val (.int (1 : Int32)), .val (.int (2147483647 : Int32)), .val (.int (1 : Int32)), .val (.int (1 : Int32)), .unset, .unset, .unset, .unset] [(.int (0 : Int32))])) st60 ?_
      refine Run.istore (pc' := 75) X60 hx (l' := #[.val (.int p0), .val (.int p1), .val (.int (6 : Int32)), .val (.ref a_STREET), .val (.int (1 : Int32)), .val (.int (2147483647 : Int32)), .val (.int (1 : Int32)), .val (.int (1 : Int32)), .val (.int (0 : Int32)), .unset, .unset, .unset]) (hb hby at_73) rfl rfl ?_
      refine Run.aloadN (pc' := 76) X60 hx (hb hby at_75) rfl rfl ?_
      refine Run.iload (pc' := 78) X60 hx (hb hby at_76) rfl rfl ?_
      obtain ⟨T61, L61, v61, X61, Q61, st61⟩ := callVirtual X60 hx (y := (⟨"com/example/certwright/certwright/x509/AttributeType", "fits", "(I)Z"⟩ : MethodName)) (z := (⟨"com/example/certwright/certwright/x509/AttributeType", "fits", "(I)Z"⟩ : MethodName)) (C := "com/example/certwright/certwright/x509/AttributeType") (a := a_STREET) (Ls := #[.val (.int p0), .val (.int p1), .val (.int (6 : Int32)), .val (.ref a_STREET), .val (.int (1 : Int32)), .val (.int (2147483647 : Int32)), .val (.int (1 : Int32)), .val (.int (1 : Int32)), .val (.int (0 : Int32)), .unset, .unset, .unset]) (rest := []) (W := 0) (argsL := [(.int (2147483647 : Int32))]) hZ hown (hw _ (List.mem_of_getElem? (i := 14) rfl)) (hw _ (List.mem_of_getElem? (i := 15) rfl)) (notFace_of_selects (args := #[]) (mvT hZ (hw _ (List.mem_of_getElem? (i := 17) rfl)))) (hw _ (List.mem_of_getElem? (i := 17) rfl)) (hw _ (List.mem_of_getElem? (i := 16) rfl)) (hw _ (List.mem_of_getElem? (i := 6) rfl)) (hw _ (List.mem_of_getElem? (i := 18) rfl)) (by decide) e60 E_STREET (rm4 l Z a0 hw [] a_STREET (2147483647 : Int32) (1 : Int32) (2147483647 : Int32) h0 n0 Z0 F_STREET_minLength F_STREET_maxLength) (hb hby at_78) (lenOf own_pd2 rfl) (by decide) (by decide) (by rw [hml]; rfl) (Nat.le_of_eq rfl) (by decide) (by decide)
      obtain ⟨hv61, M61, e61⟩ := Q61
      rw [show (own_F4 a_STREET (2147483647 : Int32) (1 : Int32) (2147483647 : Int32)) = (1 : Int32) from rfl] at hv61
      subst hv61
      have N61 := Fr.app N60 M61
      refine Run.back (g' := (mkF m 81 #[.val (.int p0), .val (.int p1), .val (.int (6 : Int32)), .val (.ref a_STREET), .val (.int (1 : Int32)), .val (.int (2147483647 : Int32)), .val (.int (1 : Int32)), .val (.int (1 : Int32)), .val (.int (0 : Int32)), .unset, .unset, .unset] [(.int (1 : Int32))])) st61 ?_
      refine Run.istore (pc' := 83) X61 hx (l' := #[.val (.int p0), .val (.int p1), .val (.int (6 : Int32)), .val (.ref a_STREET), .val (.int (1 : Int32)), .val (.int (2147483647 : Int32)), .val (.int (1 : Int32)), .val (.int (1 : Int32)), .val (.int (0 : Int32)), .val (.int (1 : Int32)), .unset, .unset]) (hb hby at_81) rfl rfl ?_
      refine Run.iload (pc' := 85) X61 hx (hb hby at_83) rfl rfl ?_
      refine Run.ldcInt (pc' := 87) (v := (2147483647 : Int32)) X61 hx hown (mvT hZ (hw _ (List.mem_of_getElem? (i := 0) rfl))) (hb hby at_85) rfl ?_
      refine Run.icmpYes (pc' := 105) X61 hx (hb hby at_87) (teq (by decide : (2147483647 : Int32) = (2147483647 : Int32))).1 (by decide) (by decide) ?_
      refine Run.iconst (pc' := 106) (v := (0 : Int32)) X61 hx (hb hby at_105) rfl rfl ?_
      refine Run.istore (pc' := 108) X61 hx (l' := #[.val (.int p0), .val (.int p1), .val (.int (6 : Int32)), .val (.ref a_STREET), .val (.int (1 : Int32)), .val (.int (2147483647 : Int32)), .val (.int (1 : Int32)), .val (.int (1 : Int32)), .val (.int (0 : Int32)), .val (.int (1 : Int32)), .val (.int (0 : Int32)), .unset]) (hb hby at_106) rfl rfl ?_
      refine Run.aloadN (pc' := 109) X61 hx (hb hby at_108) rfl rfl ?_
      refine Run.ldcInt (pc' := 111) (v := (-2147483648 : Int32)) X61 hx hown (mvT hZ (hw _ (List.mem_of_getElem? (i := 23) rfl))) (hb hby at_109) rfl ?_
      obtain ⟨T62, L62, v62, X62, Q62, st62⟩ := callVirtual X61 hx (y := (⟨"com/example/certwright/certwright/x509/AttributeType", "fits", "(I)Z"⟩ : MethodName)) (z := (⟨"com/example/certwright/certwright/x509/AttributeType", "fits", "(I)Z"⟩ : MethodName)) (C := "com/example/certwright/certwright/x509/AttributeType") (a := a_STREET) (Ls := #[.val (.int p0), .val (.int p1), .val (.int (6 : Int32)), .val (.ref a_STREET), .val (.int (1 : Int32)), .val (.int (2147483647 : Int32)), .val (.int (1 : Int32)), .val (.int (1 : Int32)), .val (.int (0 : Int32)), .val (.int (1 : Int32)), .val (.int (0 : Int32)), .unset]) (rest := []) (W := 0) (argsL := [(.int (-2147483648 : Int32))]) hZ hown (hw _ (List.mem_of_getElem? (i := 14) rfl)) (hw _ (List.mem_of_getElem? (i := 15) rfl)) (notFace_of_selects (args := #[]) (mvT hZ (hw _ (List.mem_of_getElem? (i := 17) rfl)))) (hw _ (List.mem_of_getElem? (i := 17) rfl)) (hw _ (List.mem_of_getElem? (i := 16) rfl)) (hw _ (List.mem_of_getElem? (i := 6) rfl)) (hw _ (List.mem_of_getElem? (i := 18) rfl)) (by decide) e61 E_STREET (rm4 l Z a0 hw [] a_STREET (-2147483648 : Int32) (1 : Int32) (2147483647 : Int32) h0 n0 Z0 F_STREET_minLength F_STREET_maxLength) (hb hby at_111) (lenOf own_pd2 rfl) (by decide) (by decide) (by rw [hml]; rfl) (Nat.le_of_eq rfl) (by decide) (by decide)
      obtain ⟨hv62, M62, e62⟩ := Q62
      rw [show (own_F4 a_STREET (-2147483648 : Int32) (1 : Int32) (2147483647 : Int32)) = (0 : Int32) from rfl] at hv62
      subst hv62
      have N62 := Fr.app N61 M62
      refine Run.back (g' := (mkF m 114 #[.val (.int p0), .val (.int p1), .val (.int (6 : Int32)), .val (.ref a_STREET), .val (.int (1 : Int32)), .val (.int (2147483647 : Int32)), .val (.int (1 : Int32)), .val (.int (1 : Int32)), .val (.int (0 : Int32)), .val (.int (1 : Int32)), .val (.int (0 : Int32)), .unset] [(.int (0 : Int32))])) st62 ?_
      refine Run.istore (pc' := 116) X62 hx (l' := #[.val (.int p0), .val (.int p1), .val (.int (6 : Int32)), .val (.ref a_STREET), .val (.int (1 : Int32)), .val (.int (2147483647 : Int32)), .val (.int (1 : Int32)), .val (.int (1 : Int32)), .val (.int (0 : Int32)), .val (.int (1 : Int32)), .val (.int (0 : Int32)), .val (.int (0 : Int32))]) (hb hby at_114) rfl rfl ?_
      refine Run.iload (pc' := 118) X62 hx (hb hby at_116) rfl rfl ?_
      refine Run.ifNo (pc' := 121) X62 hx (hb hby at_118) ((if0 _ _).trans (feq (by decide : ¬ ((1 : Int32) = (0 : Int32)))).1) rfl ?_
      refine Run.iload (pc' := 123) X62 hx (hb hby at_121) rfl rfl ?_
      refine Run.ifNo (pc' := 126) X62 hx (hb hby at_123) ((if0 _ _).trans (feq (by decide : ¬ ((1 : Int32) = (0 : Int32)))).1) rfl ?_
      refine Run.iload (pc' := 128) X62 hx (hb hby at_126) rfl rfl ?_
      refine Run.ifNo (pc' := 131) X62 hx (hb hby at_128) ((if0 _ _).trans (teq (by decide : (0 : Int32) = (0 : Int32))).2) rfl ?_
      refine Run.iload (pc' := 133) X62 hx (hb hby at_131) rfl rfl ?_
      refine Run.ifNo (pc' := 136) X62 hx (hb hby at_133) ((if0 _ _).trans (feq (by decide : ¬ ((1 : Int32) = (0 : Int32)))).1) rfl ?_
      refine Run.iload (pc' := 138) X62 hx (hb hby at_136) rfl rfl ?_
      refine Run.ifNo (pc' := 141) X62 hx (hb hby at_138) ((if0 _ _).trans (teq (by decide : (0 : Int32) = (0 : Int32))).2) rfl ?_
      refine Run.iload (pc' := 143) X62 hx (hb hby at_141) rfl rfl ?_
      refine Run.ifNo (pc' := 146) X62 hx (hb hby at_143) ((if0 _ _).trans (teq (by decide : (0 : Int32) = (0 : Int32))).2) rfl ?_
      refine Run.iconst (pc' := 147) (v := (1 : Int32)) X62 hx (hb hby at_146) rfl rfl ?_
      refine Run.goto (pc' := 151) X62 hx (hb hby at_147) (by decide) (by decide) ?_
      exact Run.retSmall X62 hx (t := .boolean) (z' := (1 : Int32)) Bd.notSynchronized Bd.returns (by simp) rfl (hb hby at_151) ⟨rfl, N62⟩ (by decide) (by decide)
    refine Run.iloadN (pc' := 31) X58 hx (hb hby at_30) rfl rfl ?_
    refine Run.iload (pc' := 33) X58 hx (hb hby at_31) rfl rfl ?_
    by_cases hc33 : p1 < (1 : Int32)
    · skip
      refine Run.icmpYes (pc' := 46) X58 hx (hb hby at_33) (tlt hc33).1 (by decide) (by decide) ?_
      refine Run.iconst (pc' := 47) (v := (0 : Int32)) X58 hx (hb hby at_46) rfl rfl ?_
      refine Run.icmpNo (pc' := 50) X58 hx (hb hby at_47) (teq (by rw [own_F4, if_pos hc33]; rfl)).2 rfl ?_
      refine Run.iconst (pc' := 51) (v := (1 : Int32)) X58 hx (hb hby at_50) rfl rfl ?_
      refine Run.goto (pc' := 55) X58 hx (hb hby at_51) (by decide) (by decide) ?_
      exact J55 _ _ X58 e58 N58
    · skip
      refine Run.icmpNo (pc' := 36) X58 hx (hb hby at_33) (flt hc33).1 rfl ?_
      refine Run.iloadN (pc' := 37) X58 hx (hb hby at_36) rfl rfl ?_
      refine Run.iload (pc' := 39) X58 hx (hb hby at_37) rfl rfl ?_
      by_cases hc39 : (2147483647 : Int32) < p1
      · skip
        refine Run.icmpYes (pc' := 46) X58 hx (hb hby at_39) (tlt hc39).2.2.1 (by decide) (by decide) ?_
        refine Run.iconst (pc' := 47) (v := (0 : Int32)) X58 hx (hb hby at_46) rfl rfl ?_
        refine Run.icmpNo (pc' := 50) X58 hx (hb hby at_47) (teq (by rw [own_F4, if_neg hc33, if_pos hc39]; rfl)).2 rfl ?_
        refine Run.iconst (pc' := 51) (v := (1 : Int32)) X58 hx (hb hby at_50) rfl rfl ?_
        refine Run.goto (pc' := 55) X58 hx (hb hby at_51) (by decide) (by decide) ?_
        exact J55 _ _ X58 e58 N58
      · skip
        refine Run.icmpNo (pc' := 42) X58 hx (hb hby at_39) (flt hc39).2.2.1 rfl ?_
        refine Run.iconst (pc' := 43) (v := (1 : Int32)) X58 hx (hb hby at_42) rfl rfl ?_
        refine Run.goto (pc' := 47) X58 hx (hb hby at_43) (by decide) (by decide) ?_
        refine Run.icmpNo (pc' := 50) X58 hx (hb hby at_47) (teq (by rw [own_F4, if_neg hc33, if_neg hc39]; rfl)).2 rfl ?_
        refine Run.iconst (pc' := 51) (v := (1 : Int32)) X58 hx (hb hby at_50) rfl rfl ?_
        refine Run.goto (pc' := 55) X58 hx (hb hby at_51) (by decide) (by decide) ?_
        exact J55 _ _ X58 e58 N58
  · rw [hk]
    refine Run.iloadN (pc' := 9) X0 hx (hb hby at_8) rfl rfl ?_
    obtain ⟨T63, L63, v63, X63, Q63, st63⟩ := callStatic X0 hx (y := (⟨"com/example/certwright/certwright/x509/AttributeTypeFitsPinLaw", "type", "(I)Lcom/example/certwright/certwright/x509/AttributeType;"⟩ : MethodName)) (Ls := #[.val (.int p0), .val (.int p1), .val (.int (7 : Int32)), .unset, .unset, .unset, .unset, .unset, .unset, .unset, .unset, .unset]) (rest := []) (W := 0) (argsL := [(.int (7 : Int32))]) hZ hown (hw _ (List.mem_of_getElem? (i := 1) rfl)) (hw _ (List.mem_of_getElem? (i := 2) rfl)) (hw _ (List.mem_of_getElem? (i := 3) rfl)) (hw _ (List.mem_of_getElem? (i := 4) rfl)) (by decide) e0 (rm1 l Z a0 hw [] (7 : Int32) a_COMMON_NAME a_LOCALITY a_STATE_OR_PROVINCE a_ORGANIZATION a_ORGANIZATIONAL_UNIT a_COUNTRY a_STREET a_DOMAIN_COMPONENT a_USER_ID a_SERIAL_NUMBER a_EMAIL_ADDRESS h0 n0 Z0 S_COMMON_NAME S_LOCALITY S_STATE_OR_PROVINCE S_ORGANIZATION S_ORGANIZATIONAL_UNIT S_COUNTRY S_STREET S_DOMAIN_COMPONENT S_USER_ID S_SERIAL_NUMBER S_EMAIL_ADDRESS) (hb hby at_9) (lenOf own_pd0 rfl) (by decide) (by decide) (by rw [hml]; rfl) (Nat.le_of_eq rfl) (by decide) (by decide)
    obtain ⟨hv63, M63, e63⟩ := Q63
    rw [show (own_F1 (7 : Int32) a_COMMON_NAME a_LOCALITY a_STATE_OR_PROVINCE a_ORGANIZATION a_ORGANIZATIONAL_UNIT a_COUNTRY a_STREET a_DOMAIN_COMPONENT a_USER_ID a_SERIAL_NUMBER a_EMAIL_ADDRESS) = a_DOMAIN_COMPONENT from rfl] at hv63
    subst hv63
    have N63 := Fr.app N0 M63
    refine Run.back (g' := (mkF m 12 #[.val (.int p0), .val (.int p1), .val (.int (7 : Int32)), .unset, .unset, .unset, .unset, .unset, .unset, .unset, .unset, .unset] [(.ref a_DOMAIN_COMPONENT)])) st63 ?_
    refine Run.astoreN (pc' := 13) X63 hx (l' := #[.val (.int p0), .val (.int p1), .val (.int (7 : Int32)), .val (.ref a_DOMAIN_COMPONENT), .unset, .unset, .unset, .unset, .unset, .unset, .unset, .unset]) (hb hby at_12) rfl rfl ?_
    refine Run.iloadN (pc' := 14) X63 hx (hb hby at_13) rfl rfl ?_
    obtain ⟨T64, L64, v64, X64, Q64, st64⟩ := callStatic X63 hx (y := (⟨"com/example/certwright/certwright/x509/AttributeTypeFitsPinLaw", "low", "(I)I"⟩ : MethodName)) (Ls := #[.val (.int p0), .val (.int p1), .val (.int (7 : Int32)), .val (.ref a_DOMAIN_COMPONENT), .unset, .unset, .unset, .unset, .unset, .unset, .unset, .unset]) (rest := []) (W := 0) (argsL := [(.int (7 : Int32))]) hZ hown (hw _ (List.mem_of_getElem? (i := 8) rfl)) (hw _ (List.mem_of_getElem? (i := 9) rfl)) (hw _ (List.mem_of_getElem? (i := 3) rfl)) (hw _ (List.mem_of_getElem? (i := 10) rfl)) (by decide) e63 (rm2 l Z a0 hw [] (7 : Int32)  h0 n0 Z0 ) (hb hby at_14) (lenOf own_pd1 rfl) (by decide) (by decide) (by rw [hml]; rfl) (Nat.le_of_eq rfl) (by decide) (by decide)
    obtain ⟨hv64, M64, e64⟩ := Q64
    rw [show (own_F2 (7 : Int32)) = (1 : Int32) from rfl] at hv64
    subst hv64
    have N64 := Fr.app N63 M64
    refine Run.back (g' := (mkF m 17 #[.val (.int p0), .val (.int p1), .val (.int (7 : Int32)), .val (.ref a_DOMAIN_COMPONENT), .unset, .unset, .unset, .unset, .unset, .unset, .unset, .unset] [(.int (1 : Int32))])) st64 ?_
    refine Run.istore (pc' := 19) X64 hx (l' := #[.val (.int p0), .val (.int p1), .val (.int (7 : Int32)), .val (.ref a_DOMAIN_COMPONENT), .val (.int (1 : Int32)), .unset, .unset, .unset, .unset, .unset, .unset, .unset]) (hb hby at_17) rfl rfl ?_
    refine Run.iloadN (pc' := 20) X64 hx (hb hby at_19) rfl rfl ?_
    obtain ⟨T65, L65, v65, X65, Q65, st65⟩ := callStatic X64 hx (y := (⟨"com/example/certwright/certwright/x509/AttributeTypeFitsPinLaw", "high", "(I)I"⟩ : MethodName)) (Ls := #[.val (.int p0), .val (.int p1), .val (.int (7 : Int32)), .val (.ref a_DOMAIN_COMPONENT), .val (.int (1 : Int32)), .unset, .unset, .unset, .unset, .unset, .unset, .unset]) (rest := []) (W := 0) (argsL := [(.int (7 : Int32))]) hZ hown (hw _ (List.mem_of_getElem? (i := 11) rfl)) (hw _ (List.mem_of_getElem? (i := 12) rfl)) (hw _ (List.mem_of_getElem? (i := 3) rfl)) (hw _ (List.mem_of_getElem? (i := 13) rfl)) (by decide) e64 (rm3 l Z a0 hw [] (7 : Int32)  h0 n0 Z0 ) (hb hby at_20) (lenOf own_pd1 rfl) (by decide) (by decide) (by rw [hml]; rfl) (Nat.le_of_eq rfl) (by decide) (by decide)
    obtain ⟨hv65, M65, e65⟩ := Q65
    rw [show (own_F3 (7 : Int32)) = (2147483647 : Int32) from rfl] at hv65
    subst hv65
    have N65 := Fr.app N64 M65
    refine Run.back (g' := (mkF m 23 #[.val (.int p0), .val (.int p1), .val (.int (7 : Int32)), .val (.ref a_DOMAIN_COMPONENT), .val (.int (1 : Int32)), .unset, .unset, .unset, .unset, .unset, .unset, .unset] [(.int (2147483647 : Int32))])) st65 ?_
    refine Run.istore (pc' := 25) X65 hx (l' := #[.val (.int p0), .val (.int p1), .val (.int (7 : Int32)), .val (.ref a_DOMAIN_COMPONENT), .val (.int (1 : Int32)), .val (.int (2147483647 : Int32)), .unset, .unset, .unset, .unset, .unset, .unset]) (hb hby at_23) rfl rfl ?_
    refine Run.aloadN (pc' := 26) X65 hx (hb hby at_25) rfl rfl ?_
    refine Run.iloadN (pc' := 27) X65 hx (hb hby at_26) rfl rfl ?_
    obtain ⟨T66, L66, v66, X66, Q66, st66⟩ := callVirtual X65 hx (y := (⟨"com/example/certwright/certwright/x509/AttributeType", "fits", "(I)Z"⟩ : MethodName)) (z := (⟨"com/example/certwright/certwright/x509/AttributeType", "fits", "(I)Z"⟩ : MethodName)) (C := "com/example/certwright/certwright/x509/AttributeType") (a := a_DOMAIN_COMPONENT) (Ls := #[.val (.int p0), .val (.int p1), .val (.int (7 : Int32)), .val (.ref a_DOMAIN_COMPONENT), .val (.int (1 : Int32)), .val (.int (2147483647 : Int32)), .unset, .unset, .unset, .unset, .unset, .unset]) (rest := []) (W := 0) (argsL := [(.int p1)]) hZ hown (hw _ (List.mem_of_getElem? (i := 14) rfl)) (hw _ (List.mem_of_getElem? (i := 15) rfl)) (notFace_of_selects (args := #[]) (mvT hZ (hw _ (List.mem_of_getElem? (i := 17) rfl)))) (hw _ (List.mem_of_getElem? (i := 17) rfl)) (hw _ (List.mem_of_getElem? (i := 16) rfl)) (hw _ (List.mem_of_getElem? (i := 6) rfl)) (hw _ (List.mem_of_getElem? (i := 18) rfl)) (by decide) e65 E_DOMAIN_COMPONENT (rm4 l Z a0 hw [] a_DOMAIN_COMPONENT p1 (1 : Int32) (2147483647 : Int32) h0 n0 Z0 F_DOMAIN_COMPONENT_minLength F_DOMAIN_COMPONENT_maxLength) (hb hby at_27) (lenOf own_pd2 rfl) (by decide) (by decide) (by rw [hml]; rfl) (Nat.le_of_eq rfl) (by decide) (by decide)
    obtain ⟨rfl, M66, e66⟩ := Q66
    have N66 := Fr.app N65 M66
    refine Run.back (g' := (mkF m 30 #[.val (.int p0), .val (.int p1), .val (.int (7 : Int32)), .val (.ref a_DOMAIN_COMPONENT), .val (.int (1 : Int32)), .val (.int (2147483647 : Int32)), .unset, .unset, .unset, .unset, .unset, .unset] [(.int (own_F4 a_DOMAIN_COMPONENT p1 (1 : Int32) (2147483647 : Int32)))])) st66 ?_
    have J55 : ∀ (T : State) (locs : List Loc), Stand p l e room_1 s m #[(.int p0), (.int p1)] below meth c T locs 0 0 → T.heap = h0 → Fr n0 locs → Run p.tables e below (FinR s room_1.cells room_1.slots (fun v h L => v = some (.int 1) ∧ Fr n0 L)) T (mkF m 55 #[.val (.int p0), .val (.int p1), .val (.int (7 : Int32)), .val (.ref a_DOMAIN_COMPONENT), .val (.int (1 : Int32)), .val (.int (2147483647 : Int32)), .unset, .unset, .unset, .unset, .unset, .unset] [(.int (1 : Int32))]) := by
      intro T locs X eT N
      refine Run.istore (pc' := 57) X hx (l' := #[.val (.int p0), .val (.int p1), .val (.int (7 : Int32)), .val (.ref a_DOMAIN_COMPONENT), .val (.int (1 : Int32)), .val (.int (2147483647 : Int32)), .val (.int (1 : Int32)), .unset, .unset, .unset, .unset, .unset]) (hb hby at_55) rfl rfl ?_
      refine Run.aloadN (pc' := 58) X hx (hb hby at_57) rfl rfl ?_
      refine Run.iload (pc' := 60) X hx (hb hby at_58) rfl rfl ?_
      obtain ⟨T67, L67, v67, X67, Q67, st67⟩ := callVirtual X hx (y := (⟨"com/example/certwright/certwright/x509/AttributeType", "fits", "(I)Z"⟩ : MethodName)) (z := (⟨"com/example/certwright/certwright/x509/AttributeType", "fits", "(I)Z"⟩ : MethodName)) (C := "com/example/certwright/certwright/x509/AttributeType") (a := a_DOMAIN_COMPONENT) (Ls := #[.val (.int p0), .val (.int p1), .val (.int (7 : Int32)), .val (.ref a_DOMAIN_COMPONENT), .val (.int (1 : Int32)), .val (.int (2147483647 : Int32)), .val (.int (1 : Int32)), .unset, .unset, .unset, .unset, .unset]) (rest := []) (W := 0) (argsL := [(.int (1 : Int32))]) hZ hown (hw _ (List.mem_of_getElem? (i := 14) rfl)) (hw _ (List.mem_of_getElem? (i := 15) rfl)) (notFace_of_selects (args := #[]) (mvT hZ (hw _ (List.mem_of_getElem? (i := 17) rfl)))) (hw _ (List.mem_of_getElem? (i := 17) rfl)) (hw _ (List.mem_of_getElem? (i := 16) rfl)) (hw _ (List.mem_of_getElem? (i := 6) rfl)) (hw _ (List.mem_of_getElem? (i := 18) rfl)) (by decide) eT E_DOMAIN_COMPONENT (rm4 l Z a0 hw [] a_DOMAIN_COMPONENT (1 : Int32) (1 : Int32) (2147483647 : Int32) h0 n0 Z0 F_DOMAIN_COMPONENT_minLength F_DOMAIN_COMPONENT_maxLength) (hb hby at_60) (lenOf own_pd2 rfl) (by decide) (by decide) (by rw [hml]; rfl) (Nat.le_of_eq rfl) (by decide) (by decide)
      obtain ⟨hv67, M67, e67⟩ := Q67
      rw [show (own_F4 a_DOMAIN_COMPONENT (1 : Int32) (1 : Int32) (2147483647 : Int32)) = (1 : Int32) from rfl] at hv67
      subst hv67
      have N67 := Fr.app N M67
      refine Run.back (g' := (mkF m 63 #[.val (.int p0), .val (.int p1), .val (.int (7 : Int32)), .val (.ref a_DOMAIN_COMPONENT), .val (.int (1 : Int32)), .val (.int (2147483647 : Int32)), .val (.int (1 : Int32)), .unset, .unset, .unset, .unset, .unset] [(.int (1 : Int32))])) st67 ?_
      refine Run.istore (pc' := 65) X67 hx (l' := #[.val (.int p0), .val (.int p1), .val (.int (7 : Int32)), .val (.ref a_DOMAIN_COMPONENT), .val (.int (1 : Int32)), .val (.int (2147483647 : Int32)), .val (.int (1 : Int32)), .val (.int (1 : Int32)), .unset, .unset, .unset, .unset]) (hb hby at_63) rfl rfl ?_
      refine Run.aloadN (pc' := 66) X67 hx (hb hby at_65) rfl rfl ?_
      refine Run.iload (pc' := 68) X67 hx (hb hby at_66) rfl rfl ?_
      refine Run.iconst (pc' := 69) (v := (1 : Int32)) X67 hx (hb hby at_68) rfl rfl ?_
      refine Run.isub (pc' := 70) X67 hx (hb hby at_69) rfl ?_
      obtain ⟨T68, L68, v68, X68, Q68, st68⟩ := callVirtual X67 hx (y := (⟨"com/example/certwright/certwright/x509/AttributeType", "fits", "(I)Z"⟩ : MethodName)) (z := (⟨"com/example/certwright/certwright/x509/AttributeType", "fits", "(I)Z"⟩ : MethodName)) (C := "com/example/certwright/certwright/x509/AttributeType") (a := a_DOMAIN_COMPONENT) (Ls := #[.val (.int p0), .val (.int p1), .val (.int (7 : Int32)), .val (.ref a_DOMAIN_COMPONENT), .val (.int (1 : Int32)), .val (.int (2147483647 : Int32)), .val (.int (1 : Int32)), .val (.int (1 : Int32)), .unset, .unset, .unset, .unset]) (rest := []) (W := 0) (argsL := [(.int ((1 : Int32) - (1 : Int32)))]) hZ hown (hw _ (List.mem_of_getElem? (i := 14) rfl)) (hw _ (List.mem_of_getElem? (i := 15) rfl)) (notFace_of_selects (args := #[]) (mvT hZ (hw _ (List.mem_of_getElem? (i := 17) rfl)))) (hw _ (List.mem_of_getElem? (i := 17) rfl)) (hw _ (List.mem_of_getElem? (i := 16) rfl)) (hw _ (List.mem_of_getElem? (i := 6) rfl)) (hw _ (List.mem_of_getElem? (i := 18) rfl)) (by decide) e67 E_DOMAIN_COMPONENT (rm4 l Z a0 hw [] a_DOMAIN_COMPONENT ((1 : Int32) - (1 : Int32)) (1 : Int32) (2147483647 : Int32) h0 n0 Z0 F_DOMAIN_COMPONENT_minLength F_DOMAIN_COMPONENT_maxLength) (hb hby at_70) (lenOf own_pd2 rfl) (by decide) (by decide) (by rw [hml]; rfl) (Nat.le_of_eq rfl) (by decide) (by decide)
      obtain ⟨hv68, M68, e68⟩ := Q68
      rw [show (own_F4 a_DOMAIN_COMPONENT ((1 : Int32) - (1 : Int32)) (1 : Int32) (2147483647 : Int32)) = (0 : Int32) from rfl] at hv68
      subst hv68
      have N68 := Fr.app N67 M68
      refine Run.back (g' := (mkF m 73 #[.val (.int p0), .val (.int p1), .val (.int (7 : Int32)), .val (.ref a_DOMAIN_COMPONENT), .val (.int (1 : Int32)), .val (.int (2147483647 : Int32)), .val (.int (1 : Int32)), .val (.int (1 : Int32)), .unset, .unset, .unset, .unset] [(.int (0 : Int32))])) st68 ?_
      refine Run.istore (pc' := 75) X68 hx (l' := #[.val (.int p0), .val (.int p1), .val (.int (7 : Int32)), .val (.ref a_DOMAIN_COMPONENT), .val (.int (1 : Int32)), .val (.int (2147483647 : Int32)), .val (.int (1 : Int32)), .val (.int (1 : Int32)), .val (.int (0 : Int32)), .unset, .unset, .unset]) (hb hby at_73) rfl rfl ?_
      refine Run.aloadN (pc' := 76) X68 hx (hb hby at_75) rfl rfl ?_
      refine Run.iload (pc' := 78) X68 hx (hb hby at_76) rfl rfl ?_
      obtain ⟨T69, L69, v69, X69, Q69, st69⟩ := callVirtual X68 hx (y := (⟨"com/example/certwright/certwright/x509/AttributeType", "fits", "(I)Z"⟩ : MethodName)) (z := (⟨"com/example/certwright/certwright/x509/AttributeType", "fits", "(I)Z"⟩ : MethodName)) (C := "com/example/certwright/certwright/x509/AttributeType") (a := a_DOMAIN_COMPONENT) (Ls := #[.val (.int p0), .val (.int p1), .val (.int (7 : Int32)), .val (.ref a_DOMAIN_COMPONENT), .val (.int (1 : Int32)), .val (.int (2147483647 : Int32)), .val (.int (1 : Int32)), .val (.int (1 : Int32)), .val (.int (0 : Int32)), .unset, .unset, .unset]) (rest := []) (W := 0) (argsL := [(.int (2147483647 : Int32))]) hZ hown (hw _ (List.mem_of_getElem? (i := 14) rfl)) (hw _ (List.mem_of_getElem? (i := 15) rfl)) (notFace_of_selects (args := #[]) (mvT hZ (hw _ (List.mem_of_getElem? (i := 17) rfl)))) (hw _ (List.mem_of_getElem? (i := 17) rfl)) (hw _ (List.mem_of_getElem? (i := 16) rfl)) (hw _ (List.mem_of_getElem? (i := 6) rfl)) (hw _ (List.mem_of_getElem? (i := 18) rfl)) (by decide) e68 E_DOMAIN_COMPONENT (rm4 l Z a0 hw [] a_DOMAIN_COMPONENT (2147483647 : Int32) (1 : Int32) (2147483647 : Int32) h0 n0 Z0 F_DOMAIN_COMPONENT_minLength F_DOMAIN_COMPONENT_maxLength) (hb hby at_78) (lenOf own_pd2 rfl) (by decide) (by decide) (by rw [hml]; rfl) (Nat.le_of_eq rfl) (by decide) (by decide)
      obtain ⟨hv69, M69, e69⟩ := Q69
      rw [show (own_F4 a_DOMAIN_COMPONENT (2147483647 : Int32) (1 : Int32) (2147483647 : Int32)) = (1 : Int32) from rfl] at hv69
      subst hv69
      have N69 := Fr.app N68 M69
      refine Run.back (g' := (mkF m 81 #[.val (.int p0), .val (.int p1), .val (.int (7 : Int32)), .val (.ref a_DOMAIN_COMPONENT), .val (.int (1 : Int32)), .val (.int (2147483647 : Int32)), .val (.int (1 : Int32)), .val (.int (1 : Int32)), .val (.int (0 : Int32)), .unset, .unset, .unset] [(.int (1 : Int32))])) st69 ?_
      refine Run.istore (pc' := 83) X69 hx (l' := #[.val (.int p0), .val (.int p1), .val (.int (7 : Int32)), .val (.ref a_DOMAIN_COMPONENT), .val (.int (1 : Int32)), .val (.int (2147483647 : Int32)), .val (.int (1 : Int32)), .val (.int (1 : Int32)), .val (.int (0 : Int32)), .val (.int (1 : Int32)), .unset, .unset]) (hb hby at_81) rfl rfl ?_
      refine Run.iload (pc' := 85) X69 hx (hb hby at_83) rfl rfl ?_
      refine Run.ldcInt (pc' := 87) (v := (2147483647 : Int32)) X69 hx hown (mvT hZ (hw _ (List.mem_of_getElem? (i := 0) rfl))) (hb hby at_85) rfl ?_
      refine Run.icmpYes (pc' := 105) X69 hx (hb hby at_87) (teq (by decide : (2147483647 : Int32) = (2147483647 : Int32))).1 (by decide) (by decide) ?_
      refine Run.iconst (pc' := 106) (v := (0 : Int32)) X69 hx (hb hby at_105) rfl rfl ?_
      refine Run.istore (pc' := 108) X69 hx (l' := #[.val (.int p0), .val (.int p1), .val (.int (7 : Int32)), .val (.ref a_DOMAIN_COMPONENT), .val (.int (1 : Int32)), .val (.int (2147483647 : Int32)), .val (.int (1 : Int32)), .val (.int (1 : Int32)), .val (.int (0 : Int32)), .val (.int (1 : Int32)), .val (.int (0 : Int32)), .unset]) (hb hby at_106) rfl rfl ?_
      refine Run.aloadN (pc' := 109) X69 hx (hb hby at_108) rfl rfl ?_
      refine Run.ldcInt (pc' := 111) (v := (-2147483648 : Int32)) X69 hx hown (mvT hZ (hw _ (List.mem_of_getElem? (i := 23) rfl))) (hb hby at_109) rfl ?_
      obtain ⟨T70, L70, v70, X70, Q70, st70⟩ := callVirtual X69 hx (y := (⟨"com/example/certwright/certwright/x509/AttributeType", "fits", "(I)Z"⟩ : MethodName)) (z := (⟨"com/example/certwright/certwright/x509/AttributeType", "fits", "(I)Z"⟩ : MethodName)) (C := "com/example/certwright/certwright/x509/AttributeType") (a := a_DOMAIN_COMPONENT) (Ls := #[.val (.int p0), .val (.int p1), .val (.int (7 : Int32)), .val (.ref a_DOMAIN_COMPONENT), .val (.int (1 : Int32)), .val (.int (2147483647 : Int32)), .val (.int (1 : Int32)), .val (.int (1 : Int32)), .val (.int (0 : Int32)), .val (.int (1 : Int32)), .val (.int (0 : Int32)), .unset]) (rest := []) (W := 0) (argsL := [(.int (-2147483648 : Int32))]) hZ hown (hw _ (List.mem_of_getElem? (i := 14) rfl)) (hw _ (List.mem_of_getElem? (i := 15) rfl)) (notFace_of_selects (args := #[]) (mvT hZ (hw _ (List.mem_of_getElem? (i := 17) rfl)))) (hw _ (List.mem_of_getElem? (i := 17) rfl)) (hw _ (List.mem_of_getElem? (i := 16) rfl)) (hw _ (List.mem_of_getElem? (i := 6) rfl)) (hw _ (List.mem_of_getElem? (i := 18) rfl)) (by decide) e69 E_DOMAIN_COMPONENT (rm4 l Z a0 hw [] a_DOMAIN_COMPONENT (-2147483648 : Int32) (1 : Int32) (2147483647 : Int32) h0 n0 Z0 F_DOMAIN_COMPONENT_minLength F_DOMAIN_COMPONENT_maxLength) (hb hby at_111) (lenOf own_pd2 rfl) (by decide) (by decide) (by rw [hml]; rfl) (Nat.le_of_eq rfl) (by decide) (by decide)
      obtain ⟨hv70, M70, e70⟩ := Q70
      rw [show (own_F4 a_DOMAIN_COMPONENT (-2147483648 : Int32) (1 : Int32) (2147483647 : Int32)) = (0 : Int32) from rfl] at hv70
      subst hv70
      have N70 := Fr.app N69 M70
      refine Run.back (g' := (mkF m 114 #[.val (.int p0), .val (.int p1), .val (.int (7 : Int32)), .val (.ref a_DOMAIN_COMPONENT), .val (.int (1 : Int32)), .val (.int (2147483647 : Int32)), .val (.int (1 : Int32)), .val (.int (1 : Int32)), .val (.int (0 : Int32)), .val (.int (1 : Int32)), .val (.int (0 : Int32)), .unset] [(.int (0 : Int32))])) st70 ?_
      refine Run.istore (pc' := 116) X70 hx (l' := #[.val (.int p0), .val (.int p1), .val (.int (7 : Int32)), .val (.ref a_DOMAIN_COMPONENT), .val (.int (1 : Int32)), .val (.int (2147483647 : Int32)), .val (.int (1 : Int32)), .val (.int (1 : Int32)), .val (.int (0 : Int32)), .val (.int (1 : Int32)), .val (.int (0 : Int32)), .val (.int (0 : Int32))]) (hb hby at_114) rfl rfl ?_
      refine Run.iload (pc' := 118) X70 hx (hb hby at_116) rfl rfl ?_
      refine Run.ifNo (pc' := 121) X70 hx (hb hby at_118) ((if0 _ _).trans (feq (by decide : ¬ ((1 : Int32) = (0 : Int32)))).1) rfl ?_
      refine Run.iload (pc' := 123) X70 hx (hb hby at_121) rfl rfl ?_
      refine Run.ifNo (pc' := 126) X70 hx (hb hby at_123) ((if0 _ _).trans (feq (by decide : ¬ ((1 : Int32) = (0 : Int32)))).1) rfl ?_
      refine Run.iload (pc' := 128) X70 hx (hb hby at_126) rfl rfl ?_
      refine Run.ifNo (pc' := 131) X70 hx (hb hby at_128) ((if0 _ _).trans (teq (by decide : (0 : Int32) = (0 : Int32))).2) rfl ?_
      refine Run.iload (pc' := 133) X70 hx (hb hby at_131) rfl rfl ?_
      refine Run.ifNo (pc' := 136) X70 hx (hb hby at_133) ((if0 _ _).trans (feq (by decide : ¬ ((1 : Int32) = (0 : Int32)))).1) rfl ?_
      refine Run.iload (pc' := 138) X70 hx (hb hby at_136) rfl rfl ?_
      refine Run.ifNo (pc' := 141) X70 hx (hb hby at_138) ((if0 _ _).trans (teq (by decide : (0 : Int32) = (0 : Int32))).2) rfl ?_
      refine Run.iload (pc' := 143) X70 hx (hb hby at_141) rfl rfl ?_
      refine Run.ifNo (pc' := 146) X70 hx (hb hby at_143) ((if0 _ _).trans (teq (by decide : (0 : Int32) = (0 : Int32))).2) rfl ?_
      refine Run.iconst (pc' := 147) (v := (1 : Int32)) X70 hx (hb hby at_146) rfl rfl ?_
      refine Run.goto (pc' := 151) X70 hx (hb hby at_147) (by decide) (by decide) ?_
      exact Run.retSmall X70 hx (t := .boolean) (z' := (1 : Int32)) Bd.notSynchronized Bd.returns (by simp) rfl (hb hby at_151) ⟨rfl, N70⟩ (by decide) (by decide)
    refine Run.iloadN (pc' := 31) X66 hx (hb hby at_30) rfl rfl ?_
    refine Run.iload (pc' := 33) X66 hx (hb hby at_31) rfl rfl ?_
    by_cases hc33 : p1 < (1 : Int32)
    · skip
      refine Run.icmpYes (pc' := 46) X66 hx (hb hby at_33) (tlt hc33).1 (by decide) (by decide) ?_
      refine Run.iconst (pc' := 47) (v := (0 : Int32)) X66 hx (hb hby at_46) rfl rfl ?_
      refine Run.icmpNo (pc' := 50) X66 hx (hb hby at_47) (teq (by rw [own_F4, if_pos hc33]; rfl)).2 rfl ?_
      refine Run.iconst (pc' := 51) (v := (1 : Int32)) X66 hx (hb hby at_50) rfl rfl ?_
      refine Run.goto (pc' := 55) X66 hx (hb hby at_51) (by decide) (by decide) ?_
      exact J55 _ _ X66 e66 N66
    · skip
      refine Run.icmpNo (pc' := 36) X66 hx (hb hby at_33) (flt hc33).1 rfl ?_
      refine Run.iloadN (pc' := 37) X66 hx (hb hby at_36) rfl rfl ?_
      refine Run.iload (pc' := 39) X66 hx (hb hby at_37) rfl rfl ?_
      by_cases hc39 : (2147483647 : Int32) < p1
      · skip
        refine Run.icmpYes (pc' := 46) X66 hx (hb hby at_39) (tlt hc39).2.2.1 (by decide) (by decide) ?_
        refine Run.iconst (pc' := 47) (v := (0 : Int32)) X66 hx (hb hby at_46) rfl rfl ?_
        refine Run.icmpNo (pc' := 50) X66 hx (hb hby at_47) (teq (by rw [own_F4, if_neg hc33, if_pos hc39]; rfl)).2 rfl ?_
        refine Run.iconst (pc' := 51) (v := (1 : Int32)) X66 hx (hb hby at_50) rfl rfl ?_
        refine Run.goto (pc' := 55) X66 hx (hb hby at_51) (by decide) (by decide) ?_
        exact J55 _ _ X66 e66 N66
      · skip
        refine Run.icmpNo (pc' := 42) X66 hx (hb hby at_39) (flt hc39).2.2.1 rfl ?_
        refine Run.iconst (pc' := 43) (v := (1 : Int32)) X66 hx (hb hby at_42) rfl rfl ?_
        refine Run.goto (pc' := 47) X66 hx (hb hby at_43) (by decide) (by decide) ?_
        refine Run.icmpNo (pc' := 50) X66 hx (hb hby at_47) (teq (by rw [own_F4, if_neg hc33, if_neg hc39]; rfl)).2 rfl ?_
        refine Run.iconst (pc' := 51) (v := (1 : Int32)) X66 hx (hb hby at_50) rfl rfl ?_
        refine Run.goto (pc' := 55) X66 hx (hb hby at_51) (by decide) (by decide) ?_
        exact J55 _ _ X66 e66 N66
  · rw [hk]
    refine Run.iloadN (pc' := 9) X0 hx (hb hby at_8) rfl rfl ?_
    obtain ⟨T71, L71, v71, X71, Q71, st71⟩ := callStatic X0 hx (y := (⟨"com/example/certwright/certwright/x509/AttributeTypeFitsPinLaw", "type", "(I)Lcom/example/certwright/certwright/x509/AttributeType;"⟩ : MethodName)) (Ls := #[.val (.int p0), .val (.int p1), .val (.int (8 : Int32)), .unset, .unset, .unset, .unset, .unset, .unset, .unset, .unset, .unset]) (rest := []) (W := 0) (argsL := [(.int (8 : Int32))]) hZ hown (hw _ (List.mem_of_getElem? (i := 1) rfl)) (hw _ (List.mem_of_getElem? (i := 2) rfl)) (hw _ (List.mem_of_getElem? (i := 3) rfl)) (hw _ (List.mem_of_getElem? (i := 4) rfl)) (by decide) e0 (rm1 l Z a0 hw [] (8 : Int32) a_COMMON_NAME a_LOCALITY a_STATE_OR_PROVINCE a_ORGANIZATION a_ORGANIZATIONAL_UNIT a_COUNTRY a_STREET a_DOMAIN_COMPONENT a_USER_ID a_SERIAL_NUMBER a_EMAIL_ADDRESS h0 n0 Z0 S_COMMON_NAME S_LOCALITY S_STATE_OR_PROVINCE S_ORGANIZATION S_ORGANIZATIONAL_UNIT S_COUNTRY S_STREET S_DOMAIN_COMPONENT S_USER_ID S_SERIAL_NUMBER S_EMAIL_ADDRESS) (hb hby at_9) (lenOf own_pd0 rfl) (by decide) (by decide) (by rw [hml]; rfl) (Nat.le_of_eq rfl) (by decide) (by decide)
    obtain ⟨hv71, M71, e71⟩ := Q71
    rw [show (own_F1 (8 : Int32) a_COMMON_NAME a_LOCALITY a_STATE_OR_PROVINCE a_ORGANIZATION a_ORGANIZATIONAL_UNIT a_COUNTRY a_STREET a_DOMAIN_COMPONENT a_USER_ID a_SERIAL_NUMBER a_EMAIL_ADDRESS) = a_USER_ID from rfl] at hv71
    subst hv71
    have N71 := Fr.app N0 M71
    refine Run.back (g' := (mkF m 12 #[.val (.int p0), .val (.int p1), .val (.int (8 : Int32)), .unset, .unset, .unset, .unset, .unset, .unset, .unset, .unset, .unset] [(.ref a_USER_ID)])) st71 ?_
    refine Run.astoreN (pc' := 13) X71 hx (l' := #[.val (.int p0), .val (.int p1), .val (.int (8 : Int32)), .val (.ref a_USER_ID), .unset, .unset, .unset, .unset, .unset, .unset, .unset, .unset]) (hb hby at_12) rfl rfl ?_
    refine Run.iloadN (pc' := 14) X71 hx (hb hby at_13) rfl rfl ?_
    obtain ⟨T72, L72, v72, X72, Q72, st72⟩ := callStatic X71 hx (y := (⟨"com/example/certwright/certwright/x509/AttributeTypeFitsPinLaw", "low", "(I)I"⟩ : MethodName)) (Ls := #[.val (.int p0), .val (.int p1), .val (.int (8 : Int32)), .val (.ref a_USER_ID), .unset, .unset, .unset, .unset, .unset, .unset, .unset, .unset]) (rest := []) (W := 0) (argsL := [(.int (8 : Int32))]) hZ hown (hw _ (List.mem_of_getElem? (i := 8) rfl)) (hw _ (List.mem_of_getElem? (i := 9) rfl)) (hw _ (List.mem_of_getElem? (i := 3) rfl)) (hw _ (List.mem_of_getElem? (i := 10) rfl)) (by decide) e71 (rm2 l Z a0 hw [] (8 : Int32)  h0 n0 Z0 ) (hb hby at_14) (lenOf own_pd1 rfl) (by decide) (by decide) (by rw [hml]; rfl) (Nat.le_of_eq rfl) (by decide) (by decide)
    obtain ⟨hv72, M72, e72⟩ := Q72
    rw [show (own_F2 (8 : Int32)) = (1 : Int32) from rfl] at hv72
    subst hv72
    have N72 := Fr.app N71 M72
    refine Run.back (g' := (mkF m 17 #[.val (.int p0), .val (.int p1), .val (.int (8 : Int32)), .val (.ref a_USER_ID), .unset, .unset, .unset, .unset, .unset, .unset, .unset, .unset] [(.int (1 : Int32))])) st72 ?_
    refine Run.istore (pc' := 19) X72 hx (l' := #[.val (.int p0), .val (.int p1), .val (.int (8 : Int32)), .val (.ref a_USER_ID), .val (.int (1 : Int32)), .unset, .unset, .unset, .unset, .unset, .unset, .unset]) (hb hby at_17) rfl rfl ?_
    refine Run.iloadN (pc' := 20) X72 hx (hb hby at_19) rfl rfl ?_
    obtain ⟨T73, L73, v73, X73, Q73, st73⟩ := callStatic X72 hx (y := (⟨"com/example/certwright/certwright/x509/AttributeTypeFitsPinLaw", "high", "(I)I"⟩ : MethodName)) (Ls := #[.val (.int p0), .val (.int p1), .val (.int (8 : Int32)), .val (.ref a_USER_ID), .val (.int (1 : Int32)), .unset, .unset, .unset, .unset, .unset, .unset, .unset]) (rest := []) (W := 0) (argsL := [(.int (8 : Int32))]) hZ hown (hw _ (List.mem_of_getElem? (i := 11) rfl)) (hw _ (List.mem_of_getElem? (i := 12) rfl)) (hw _ (List.mem_of_getElem? (i := 3) rfl)) (hw _ (List.mem_of_getElem? (i := 13) rfl)) (by decide) e72 (rm3 l Z a0 hw [] (8 : Int32)  h0 n0 Z0 ) (hb hby at_20) (lenOf own_pd1 rfl) (by decide) (by decide) (by rw [hml]; rfl) (Nat.le_of_eq rfl) (by decide) (by decide)
    obtain ⟨hv73, M73, e73⟩ := Q73
    rw [show (own_F3 (8 : Int32)) = (2147483647 : Int32) from rfl] at hv73
    subst hv73
    have N73 := Fr.app N72 M73
    refine Run.back (g' := (mkF m 23 #[.val (.int p0), .val (.int p1), .val (.int (8 : Int32)), .val (.ref a_USER_ID), .val (.int (1 : Int32)), .unset, .unset, .unset, .unset, .unset, .unset, .unset] [(.int (2147483647 : Int32))])) st73 ?_
    refine Run.istore (pc' := 25) X73 hx (l' := #[.val (.int p0), .val (.int p1), .val (.int (8 : Int32)), .val (.ref a_USER_ID), .val (.int (1 : Int32)), .val (.int (2147483647 : Int32)), .unset, .unset, .unset, .unset, .unset, .unset]) (hb hby at_23) rfl rfl ?_
    refine Run.aloadN (pc' := 26) X73 hx (hb hby at_25) rfl rfl ?_
    refine Run.iloadN (pc' := 27) X73 hx (hb hby at_26) rfl rfl ?_
    obtain ⟨T74, L74, v74, X74, Q74, st74⟩ := callVirtual X73 hx (y := (⟨"com/example/certwright/certwright/x509/AttributeType", "fits", "(I)Z"⟩ : MethodName)) (z := (⟨"com/example/certwright/certwright/x509/AttributeType", "fits", "(I)Z"⟩ : MethodName)) (C := "com/example/certwright/certwright/x509/AttributeType") (a := a_USER_ID) (Ls := #[.val (.int p0), .val (.int p1), .val (.int (8 : Int32)), .val (.ref a_USER_ID), .val (.int (1 : Int32)), .val (.int (2147483647 : Int32)), .unset, .unset, .unset, .unset, .unset, .unset]) (rest := []) (W := 0) (argsL := [(.int p1)]) hZ hown (hw _ (List.mem_of_getElem? (i := 14) rfl)) (hw _ (List.mem_of_getElem? (i := 15) rfl)) (notFace_of_selects (args := #[]) (mvT hZ (hw _ (List.mem_of_getElem? (i := 17) rfl)))) (hw _ (List.mem_of_getElem? (i := 17) rfl)) (hw _ (List.mem_of_getElem? (i := 16) rfl)) (hw _ (List.mem_of_getElem? (i := 6) rfl)) (hw _ (List.mem_of_getElem? (i := 18) rfl)) (by decide) e73 E_USER_ID (rm4 l Z a0 hw [] a_USER_ID p1 (1 : Int32) (2147483647 : Int32) h0 n0 Z0 F_USER_ID_minLength F_USER_ID_maxLength) (hb hby at_27) (lenOf own_pd2 rfl) (by decide) (by decide) (by rw [hml]; rfl) (Nat.le_of_eq rfl) (by decide) (by decide)
    obtain ⟨rfl, M74, e74⟩ := Q74
    have N74 := Fr.app N73 M74
    refine Run.back (g' := (mkF m 30 #[.val (.int p0), .val (.int p1), .val (.int (8 : Int32)), .val (.ref a_USER_ID), .val (.int (1 : Int32)), .val (.int (2147483647 : Int32)), .unset, .unset, .unset, .unset, .unset, .unset] [(.int (own_F4 a_USER_ID p1 (1 : Int32) (2147483647 : Int32)))])) st74 ?_
    have J55 : ∀ (T : State) (locs : List Loc), Stand p l e room_1 s m #[(.int p0), (.int p1)] below meth c T locs 0 0 → T.heap = h0 → Fr n0 locs → Run p.tables e below (FinR s room_1.cells room_1.slots (fun v h L => v = some (.int 1) ∧ Fr n0 L)) T (mkF m 55 #[.val (.int p0), .val (.int p1), .val (.int (8 : Int32)), .val (.ref a_USER_ID), .val (.int (1 : Int32)), .val (.int (2147483647 : Int32)), .unset, .unset, .unset, .unset, .unset, .unset] [(.int (1 : Int32))]) := by
      intro T locs X eT N
      refine Run.istore (pc' := 57) X hx (l' := #[.val (.int p0), .val (.int p1), .val (.int (8 : Int32)), .val (.ref a_USER_ID), .val (.int (1 : Int32)), .val (.int (2147483647 : Int32)), .val (.int (1 : Int32)), .unset, .unset, .unset, .unset, .unset]) (hb hby at_55) rfl rfl ?_
      refine Run.aloadN (pc' := 58) X hx (hb hby at_57) rfl rfl ?_
      refine Run.iload (pc' := 60) X hx (hb hby at_58) rfl rfl ?_
      obtain ⟨T75, L75, v75, X75, Q75, st75⟩ := callVirtual X hx (y := (⟨"com/example/certwright/certwright/x509/AttributeType", "fits", "(I)Z"⟩ : MethodName)) (z := (⟨"com/example/certwright/certwright/x509/AttributeType", "fits", "(I)Z"⟩ : MethodName)) (C := "com/example/certwright/certwright/x509/AttributeType") (a := a_USER_ID) (Ls := #[.val (.int p0), .val (.int p1), .val (.int (8 : Int32)), .val (.ref a_USER_ID), .val (.int (1 : Int32)), .val (.int (2147483647 : Int32)), .val (.int (1 : Int32)), .unset, .unset, .unset, .unset, .unset]) (rest := []) (W := 0) (argsL := [(.int (1 : Int32))]) hZ hown (hw _ (List.mem_of_getElem? (i := 14) rfl)) (hw _ (List.mem_of_getElem? (i := 15) rfl)) (notFace_of_selects (args := #[]) (mvT hZ (hw _ (List.mem_of_getElem? (i := 17) rfl)))) (hw _ (List.mem_of_getElem? (i := 17) rfl)) (hw _ (List.mem_of_getElem? (i := 16) rfl)) (hw _ (List.mem_of_getElem? (i := 6) rfl)) (hw _ (List.mem_of_getElem? (i := 18) rfl)) (by decide) eT E_USER_ID (rm4 l Z a0 hw [] a_USER_ID (1 : Int32) (1 : Int32) (2147483647 : Int32) h0 n0 Z0 F_USER_ID_minLength F_USER_ID_maxLength) (hb hby at_60) (lenOf own_pd2 rfl) (by decide) (by decide) (by rw [hml]; rfl) (Nat.le_of_eq rfl) (by decide) (by decide)
      obtain ⟨hv75, M75, e75⟩ := Q75
      rw [show (own_F4 a_USER_ID (1 : Int32) (1 : Int32) (2147483647 : Int32)) = (1 : Int32) from rfl] at hv75
      subst hv75
      have N75 := Fr.app N M75
      refine Run.back (g' := (mkF m 63 #[.val (.int p0), .val (.int p1), .val (.int (8 : Int32)), .val (.ref a_USER_ID), .val (.int (1 : Int32)), .val (.int (2147483647 : Int32)), .val (.int (1 : Int32)), .unset, .unset, .unset, .unset, .unset] [(.int (1 : Int32))])) st75 ?_
      refine Run.istore (pc' := 65) X75 hx (l' := #[.val (.int p0), .val (.int p1), .val (.int (8 : Int32)), .val (.ref a_USER_ID), .val (.int (1 : Int32)), .val (.int (2147483647 : Int32)), .val (.int (1 : Int32)), .val (.int (1 : Int32)), .unset, .unset, .unset, .unset]) (hb hby at_63) rfl rfl ?_
      refine Run.aloadN (pc' := 66) X75 hx (hb hby at_65) rfl rfl ?_
      refine Run.iload (pc' := 68) X75 hx (hb hby at_66) rfl rfl ?_
      refine Run.iconst (pc' := 69) (v := (1 : Int32)) X75 hx (hb hby at_68) rfl rfl ?_
      refine Run.isub (pc' := 70) X75 hx (hb hby at_69) rfl ?_
      obtain ⟨T76, L76, v76, X76, Q76, st76⟩ := callVirtual X75 hx (y := (⟨"com/example/certwright/certwright/x509/AttributeType", "fits", "(I)Z"⟩ : MethodName)) (z := (⟨"com/example/certwright/certwright/x509/AttributeType", "fits", "(I)Z"⟩ : MethodName)) (C := "com/example/certwright/certwright/x509/AttributeType") (a := a_USER_ID) (Ls := #[.val (.int p0), .val (.int p1), .val (.int (8 : Int32)), .val (.ref a_USER_ID), .val (.int (1 : Int32)), .val (.int (2147483647 : Int32)), .val (.int (1 : Int32)), .val (.int (1 : Int32)), .unset, .unset, .unset, .unset]) (rest := []) (W := 0) (argsL := [(.int ((1 : Int32) - (1 : Int32)))]) hZ hown (hw _ (List.mem_of_getElem? (i := 14) rfl)) (hw _ (List.mem_of_getElem? (i := 15) rfl)) (notFace_of_selects (args := #[]) (mvT hZ (hw _ (List.mem_of_getElem? (i := 17) rfl)))) (hw _ (List.mem_of_getElem? (i := 17) rfl)) (hw _ (List.mem_of_getElem? (i := 16) rfl)) (hw _ (List.mem_of_getElem? (i := 6) rfl)) (hw _ (List.mem_of_getElem? (i := 18) rfl)) (by decide) e75 E_USER_ID (rm4 l Z a0 hw [] a_USER_ID ((1 : Int32) - (1 : Int32)) (1 : Int32) (2147483647 : Int32) h0 n0 Z0 F_USER_ID_minLength F_USER_ID_maxLength) (hb hby at_70) (lenOf own_pd2 rfl) (by decide) (by decide) (by rw [hml]; rfl) (Nat.le_of_eq rfl) (by decide) (by decide)
      obtain ⟨hv76, M76, e76⟩ := Q76
      rw [show (own_F4 a_USER_ID ((1 : Int32) - (1 : Int32)) (1 : Int32) (2147483647 : Int32)) = (0 : Int32) from rfl] at hv76
      subst hv76
      have N76 := Fr.app N75 M76
      refine Run.back (g' := (mkF m 73 #[.val (.int p0), .val (.int p1), .val (.int (8 : Int32)), .val (.ref a_USER_ID), .val (.int (1 : Int32)), .val (.int (2147483647 : Int32)), .val (.int (1 : Int32)), .val (.int (1 : Int32)), .unset, .unset, .unset, .unset] [(.int (0 : Int32))])) st76 ?_
      refine Run.istore (pc' := 75) X76 hx (l' := #[.val (.int p0), .val (.int p1), .val (.int (8 : Int32)), .val (.ref a_USER_ID), .val (.int (1 : Int32)), .val (.int (2147483647 : Int32)), .val (.int (1 : Int32)), .val (.int (1 : Int32)), .val (.int (0 : Int32)), .unset, .unset, .unset]) (hb hby at_73) rfl rfl ?_
      refine Run.aloadN (pc' := 76) X76 hx (hb hby at_75) rfl rfl ?_
      refine Run.iload (pc' := 78) X76 hx (hb hby at_76) rfl rfl ?_
      obtain ⟨T77, L77, v77, X77, Q77, st77⟩ := callVirtual X76 hx (y := (⟨"com/example/certwright/certwright/x509/AttributeType", "fits", "(I)Z"⟩ : MethodName)) (z := (⟨"com/example/certwright/certwright/x509/AttributeType", "fits", "(I)Z"⟩ : MethodName)) (C := "com/example/certwright/certwright/x509/AttributeType") (a := a_USER_ID) (Ls := #[.val (.int p0), .val (.int p1), .val (.int (8 : Int32)), .val (.ref a_USER_ID), .val (.int (1 : Int32)), .val (.int (2147483647 : Int32)), .val (.int (1 : Int32)), .val (.int (1 : Int32)), .val (.int (0 : Int32)), .unset, .unset, .unset]) (rest := []) (W := 0) (argsL := [(.int (2147483647 : Int32))]) hZ hown (hw _ (List.mem_of_getElem? (i := 14) rfl)) (hw _ (List.mem_of_getElem? (i := 15) rfl)) (notFace_of_selects (args := #[]) (mvT hZ (hw _ (List.mem_of_getElem? (i := 17) rfl)))) (hw _ (List.mem_of_getElem? (i := 17) rfl)) (hw _ (List.mem_of_getElem? (i := 16) rfl)) (hw _ (List.mem_of_getElem? (i := 6) rfl)) (hw _ (List.mem_of_getElem? (i := 18) rfl)) (by decide) e76 E_USER_ID (rm4 l Z a0 hw [] a_USER_ID (2147483647 : Int32) (1 : Int32) (2147483647 : Int32) h0 n0 Z0 F_USER_ID_minLength F_USER_ID_maxLength) (hb hby at_78) (lenOf own_pd2 rfl) (by decide) (by decide) (by rw [hml]; rfl) (Nat.le_of_eq rfl) (by decide) (by decide)
      obtain ⟨hv77, M77, e77⟩ := Q77
      rw [show (own_F4 a_USER_ID (2147483647 : Int32) (1 : Int32) (2147483647 : Int32)) = (1 : Int32) from rfl] at hv77
      subst hv77
      have N77 := Fr.app N76 M77
      refine Run.back (g' := (mkF m 81 #[.val (.int p0), .val (.int p1), .val (.int (8 : Int32)), .val (.ref a_USER_ID), .val (.int (1 : Int32)), .val (.int (2147483647 : Int32)), .val (.int (1 : Int32)), .val (.int (1 : Int32)), .val (.int (0 : Int32)), .unset, .unset, .unset] [(.int (1 : Int32))])) st77 ?_
      refine Run.istore (pc' := 83) X77 hx (l' := #[.val (.int p0), .val (.int p1), .val (.int (8 : Int32)), .val (.ref a_USER_ID), .val (.int (1 : Int32)), .val (.int (2147483647 : Int32)), .val (.int (1 : Int32)), .val (.int (1 : Int32)), .val (.int (0 : Int32)), .val (.int (1 : Int32)), .unset, .unset]) (hb hby at_81) rfl rfl ?_
      refine Run.iload (pc' := 85) X77 hx (hb hby at_83) rfl rfl ?_
      refine Run.ldcInt (pc' := 87) (v := (2147483647 : Int32)) X77 hx hown (mvT hZ (hw _ (List.mem_of_getElem? (i := 0) rfl))) (hb hby at_85) rfl ?_
      refine Run.icmpYes (pc' := 105) X77 hx (hb hby at_87) (teq (by decide : (2147483647 : Int32) = (2147483647 : Int32))).1 (by decide) (by decide) ?_
      refine Run.iconst (pc' := 106) (v := (0 : Int32)) X77 hx (hb hby at_105) rfl rfl ?_
      refine Run.istore (pc' := 108) X77 hx (l' := #[.val (.int p0), .val (.int p1), .val (.int (8 : Int32)), .val (.ref a_USER_ID), .val (.int (1 : Int32)), .val (.int (2147483647 : Int32)), .val (.int (1 : Int32)), .val (.int (1 : Int32)), .val (.int (0 : Int32)), .val (.int (1 : Int32)), .val (.int (0 : Int32)), .unset]) (hb hby at_106) rfl rfl ?_
      refine Run.aloadN (pc' := 109) X77 hx (hb hby at_108) rfl rfl ?_
      refine Run.ldcInt (pc' := 111) (v := (-2147483648 : Int32)) X77 hx hown (mvT hZ (hw _ (List.mem_of_getElem? (i := 23) rfl))) (hb hby at_109) rfl ?_
      obtain ⟨T78, L78, v78, X78, Q78, st78⟩ := callVirtual X77 hx (y := (⟨"com/example/certwright/certwright/x509/AttributeType", "fits", "(I)Z"⟩ : MethodName)) (z := (⟨"com/example/certwright/certwright/x509/AttributeType", "fits", "(I)Z"⟩ : MethodName)) (C := "com/example/certwright/certwright/x509/AttributeType") (a := a_USER_ID) (Ls := #[.val (.int p0), .val (.int p1), .val (.int (8 : Int32)), .val (.ref a_USER_ID), .val (.int (1 : Int32)), .val (.int (2147483647 : Int32)), .val (.int (1 : Int32)), .val (.int (1 : Int32)), .val (.int (0 : Int32)), .val (.int (1 : Int32)), .val (.int (0 : Int32)), .unset]) (rest := []) (W := 0) (argsL := [(.int (-2147483648 : Int32))]) hZ hown (hw _ (List.mem_of_getElem? (i := 14) rfl)) (hw _ (List.mem_of_getElem? (i := 15) rfl)) (notFace_of_selects (args := #[]) (mvT hZ (hw _ (List.mem_of_getElem? (i := 17) rfl)))) (hw _ (List.mem_of_getElem? (i := 17) rfl)) (hw _ (List.mem_of_getElem? (i := 16) rfl)) (hw _ (List.mem_of_getElem? (i := 6) rfl)) (hw _ (List.mem_of_getElem? (i := 18) rfl)) (by decide) e77 E_USER_ID (rm4 l Z a0 hw [] a_USER_ID (-2147483648 : Int32) (1 : Int32) (2147483647 : Int32) h0 n0 Z0 F_USER_ID_minLength F_USER_ID_maxLength) (hb hby at_111) (lenOf own_pd2 rfl) (by decide) (by decide) (by rw [hml]; rfl) (Nat.le_of_eq rfl) (by decide) (by decide)
      obtain ⟨hv78, M78, e78⟩ := Q78
      rw [show (own_F4 a_USER_ID (-2147483648 : Int32) (1 : Int32) (2147483647 : Int32)) = (0 : Int32) from rfl] at hv78
      subst hv78
      have N78 := Fr.app N77 M78
      refine Run.back (g' := (mkF m 114 #[.val (.int p0), .val (.int p1), .val (.int (8 : Int32)), .val (.ref a_USER_ID), .val (.int (1 : Int32)), .val (.int (2147483647 : Int32)), .val (.int (1 : Int32)), .val (.int (1 : Int32)), .val (.int (0 : Int32)), .val (.int (1 : Int32)), .val (.int (0 : Int32)), .unset] [(.int (0 : Int32))])) st78 ?_
      refine Run.istore (pc' := 116) X78 hx (l' := #[.val (.int p0), .val (.int p1), .val (.int (8 : Int32)), .val (.ref a_USER_ID), .val (.int (1 : Int32)), .val (.int (2147483647 : Int32)), .val (.int (1 : Int32)), .val (.int (1 : Int32)), .val (.int (0 : Int32)), .val (.int (1 : Int32)), .val (.int (0 : Int32)), .val (.int (0 : Int32))]) (hb hby at_114) rfl rfl ?_
      refine Run.iload (pc' := 118) X78 hx (hb hby at_116) rfl rfl ?_
      refine Run.ifNo (pc' := 121) X78 hx (hb hby at_118) ((if0 _ _).trans (feq (by decide : ¬ ((1 : Int32) = (0 : Int32)))).1) rfl ?_
      refine Run.iload (pc' := 123) X78 hx (hb hby at_121) rfl rfl ?_
      refine Run.ifNo (pc' := 126) X78 hx (hb hby at_123) ((if0 _ _).trans (feq (by decide : ¬ ((1 : Int32) = (0 : Int32)))).1) rfl ?_
      refine Run.iload (pc' := 128) X78 hx (hb hby at_126) rfl rfl ?_
      refine Run.ifNo (pc' := 131) X78 hx (hb hby at_128) ((if0 _ _).trans (teq (by decide : (0 : Int32) = (0 : Int32))).2) rfl ?_
      refine Run.iload (pc' := 133) X78 hx (hb hby at_131) rfl rfl ?_
      refine Run.ifNo (pc' := 136) X78 hx (hb hby at_133) ((if0 _ _).trans (feq (by decide : ¬ ((1 : Int32) = (0 : Int32)))).1) rfl ?_
      refine Run.iload (pc' := 138) X78 hx (hb hby at_136) rfl rfl ?_
      refine Run.ifNo (pc' := 141) X78 hx (hb hby at_138) ((if0 _ _).trans (teq (by decide : (0 : Int32) = (0 : Int32))).2) rfl ?_
      refine Run.iload (pc' := 143) X78 hx (hb hby at_141) rfl rfl ?_
      refine Run.ifNo (pc' := 146) X78 hx (hb hby at_143) ((if0 _ _).trans (teq (by decide : (0 : Int32) = (0 : Int32))).2) rfl ?_
      refine Run.iconst (pc' := 147) (v := (1 : Int32)) X78 hx (hb hby at_146) rfl rfl ?_
      refine Run.goto (pc' := 151) X78 hx (hb hby at_147) (by decide) (by decide) ?_
      exact Run.retSmall X78 hx (t := .boolean) (z' := (1 : Int32)) Bd.notSynchronized Bd.returns (by simp) rfl (hb hby at_151) ⟨rfl, N78⟩ (by decide) (by decide)
    refine Run.iloadN (pc' := 31) X74 hx (hb hby at_30) rfl rfl ?_
    refine Run.iload (pc' := 33) X74 hx (hb hby at_31) rfl rfl ?_
    by_cases hc33 : p1 < (1 : Int32)
    · skip
      refine Run.icmpYes (pc' := 46) X74 hx (hb hby at_33) (tlt hc33).1 (by decide) (by decide) ?_
      refine Run.iconst (pc' := 47) (v := (0 : Int32)) X74 hx (hb hby at_46) rfl rfl ?_
      refine Run.icmpNo (pc' := 50) X74 hx (hb hby at_47) (teq (by rw [own_F4, if_pos hc33]; rfl)).2 rfl ?_
      refine Run.iconst (pc' := 51) (v := (1 : Int32)) X74 hx (hb hby at_50) rfl rfl ?_
      refine Run.goto (pc' := 55) X74 hx (hb hby at_51) (by decide) (by decide) ?_
      exact J55 _ _ X74 e74 N74
    · skip
      refine Run.icmpNo (pc' := 36) X74 hx (hb hby at_33) (flt hc33).1 rfl ?_
      refine Run.iloadN (pc' := 37) X74 hx (hb hby at_36) rfl rfl ?_
      refine Run.iload (pc' := 39) X74 hx (hb hby at_37) rfl rfl ?_
      by_cases hc39 : (2147483647 : Int32) < p1
      · skip
        refine Run.icmpYes (pc' := 46) X74 hx (hb hby at_39) (tlt hc39).2.2.1 (by decide) (by decide) ?_
        refine Run.iconst (pc' := 47) (v := (0 : Int32)) X74 hx (hb hby at_46) rfl rfl ?_
        refine Run.icmpNo (pc' := 50) X74 hx (hb hby at_47) (teq (by rw [own_F4, if_neg hc33, if_pos hc39]; rfl)).2 rfl ?_
        refine Run.iconst (pc' := 51) (v := (1 : Int32)) X74 hx (hb hby at_50) rfl rfl ?_
        refine Run.goto (pc' := 55) X74 hx (hb hby at_51) (by decide) (by decide) ?_
        exact J55 _ _ X74 e74 N74
      · skip
        refine Run.icmpNo (pc' := 42) X74 hx (hb hby at_39) (flt hc39).2.2.1 rfl ?_
        refine Run.iconst (pc' := 43) (v := (1 : Int32)) X74 hx (hb hby at_42) rfl rfl ?_
        refine Run.goto (pc' := 47) X74 hx (hb hby at_43) (by decide) (by decide) ?_
        refine Run.icmpNo (pc' := 50) X74 hx (hb hby at_47) (teq (by rw [own_F4, if_neg hc33, if_neg hc39]; rfl)).2 rfl ?_
        refine Run.iconst (pc' := 51) (v := (1 : Int32)) X74 hx (hb hby at_50) rfl rfl ?_
        refine Run.goto (pc' := 55) X74 hx (hb hby at_51) (by decide) (by decide) ?_
        exact J55 _ _ X74 e74 N74
  · rw [hk]
    refine Run.iloadN (pc' := 9) X0 hx (hb hby at_8) rfl rfl ?_
    obtain ⟨T79, L79, v79, X79, Q79, st79⟩ := callStatic X0 hx (y := (⟨"com/example/certwright/certwright/x509/AttributeTypeFitsPinLaw", "type", "(I)Lcom/example/certwright/certwright/x509/AttributeType;"⟩ : MethodName)) (Ls := #[.val (.int p0), .val (.int p1), .val (.int (9 : Int32)), .unset, .unset, .unset, .unset, .unset, .unset, .unset, .unset, .unset]) (rest := []) (W := 0) (argsL := [(.int (9 : Int32))]) hZ hown (hw _ (List.mem_of_getElem? (i := 1) rfl)) (hw _ (List.mem_of_getElem? (i := 2) rfl)) (hw _ (List.mem_of_getElem? (i := 3) rfl)) (hw _ (List.mem_of_getElem? (i := 4) rfl)) (by decide) e0 (rm1 l Z a0 hw [] (9 : Int32) a_COMMON_NAME a_LOCALITY a_STATE_OR_PROVINCE a_ORGANIZATION a_ORGANIZATIONAL_UNIT a_COUNTRY a_STREET a_DOMAIN_COMPONENT a_USER_ID a_SERIAL_NUMBER a_EMAIL_ADDRESS h0 n0 Z0 S_COMMON_NAME S_LOCALITY S_STATE_OR_PROVINCE S_ORGANIZATION S_ORGANIZATIONAL_UNIT S_COUNTRY S_STREET S_DOMAIN_COMPONENT S_USER_ID S_SERIAL_NUMBER S_EMAIL_ADDRESS) (hb hby at_9) (lenOf own_pd0 rfl) (by decide) (by decide) (by rw [hml]; rfl) (Nat.le_of_eq rfl) (by decide) (by decide)
    obtain ⟨hv79, M79, e79⟩ := Q79
    rw [show (own_F1 (9 : Int32) a_COMMON_NAME a_LOCALITY a_STATE_OR_PROVINCE a_ORGANIZATION a_ORGANIZATIONAL_UNIT a_COUNTRY a_STREET a_DOMAIN_COMPONENT a_USER_ID a_SERIAL_NUMBER a_EMAIL_ADDRESS) = a_SERIAL_NUMBER from rfl] at hv79
    subst hv79
    have N79 := Fr.app N0 M79
    refine Run.back (g' := (mkF m 12 #[.val (.int p0), .val (.int p1), .val (.int (9 : Int32)), .unset, .unset, .unset, .unset, .unset, .unset, .unset, .unset, .unset] [(.ref a_SERIAL_NUMBER)])) st79 ?_
    refine Run.astoreN (pc' := 13) X79 hx (l' := #[.val (.int p0), .val (.int p1), .val (.int (9 : Int32)), .val (.ref a_SERIAL_NUMBER), .unset, .unset, .unset, .unset, .unset, .unset, .unset, .unset]) (hb hby at_12) rfl rfl ?_
    refine Run.iloadN (pc' := 14) X79 hx (hb hby at_13) rfl rfl ?_
    obtain ⟨T80, L80, v80, X80, Q80, st80⟩ := callStatic X79 hx (y := (⟨"com/example/certwright/certwright/x509/AttributeTypeFitsPinLaw", "low", "(I)I"⟩ : MethodName)) (Ls := #[.val (.int p0), .val (.int p1), .val (.int (9 : Int32)), .val (.ref a_SERIAL_NUMBER), .unset, .unset, .unset, .unset, .unset, .unset, .unset, .unset]) (rest := []) (W := 0) (argsL := [(.int (9 : Int32))]) hZ hown (hw _ (List.mem_of_getElem? (i := 8) rfl)) (hw _ (List.mem_of_getElem? (i := 9) rfl)) (hw _ (List.mem_of_getElem? (i := 3) rfl)) (hw _ (List.mem_of_getElem? (i := 10) rfl)) (by decide) e79 (rm2 l Z a0 hw [] (9 : Int32)  h0 n0 Z0 ) (hb hby at_14) (lenOf own_pd1 rfl) (by decide) (by decide) (by rw [hml]; rfl) (Nat.le_of_eq rfl) (by decide) (by decide)
    obtain ⟨hv80, M80, e80⟩ := Q80
    rw [show (own_F2 (9 : Int32)) = (1 : Int32) from rfl] at hv80
    subst hv80
    have N80 := Fr.app N79 M80
    refine Run.back (g' := (mkF m 17 #[.val (.int p0), .val (.int p1), .val (.int (9 : Int32)), .val (.ref a_SERIAL_NUMBER), .unset, .unset, .unset, .unset, .unset, .unset, .unset, .unset] [(.int (1 : Int32))])) st80 ?_
    refine Run.istore (pc' := 19) X80 hx (l' := #[.val (.int p0), .val (.int p1), .val (.int (9 : Int32)), .val (.ref a_SERIAL_NUMBER), .val (.int (1 : Int32)), .unset, .unset, .unset, .unset, .unset, .unset, .unset]) (hb hby at_17) rfl rfl ?_
    refine Run.iloadN (pc' := 20) X80 hx (hb hby at_19) rfl rfl ?_
    obtain ⟨T81, L81, v81, X81, Q81, st81⟩ := callStatic X80 hx (y := (⟨"com/example/certwright/certwright/x509/AttributeTypeFitsPinLaw", "high", "(I)I"⟩ : MethodName)) (Ls := #[.val (.int p0), .val (.int p1), .val (.int (9 : Int32)), .val (.ref a_SERIAL_NUMBER), .val (.int (1 : Int32)), .unset, .unset, .unset, .unset, .unset, .unset, .unset]) (rest := []) (W := 0) (argsL := [(.int (9 : Int32))]) hZ hown (hw _ (List.mem_of_getElem? (i := 11) rfl)) (hw _ (List.mem_of_getElem? (i := 12) rfl)) (hw _ (List.mem_of_getElem? (i := 3) rfl)) (hw _ (List.mem_of_getElem? (i := 13) rfl)) (by decide) e80 (rm3 l Z a0 hw [] (9 : Int32)  h0 n0 Z0 ) (hb hby at_20) (lenOf own_pd1 rfl) (by decide) (by decide) (by rw [hml]; rfl) (Nat.le_of_eq rfl) (by decide) (by decide)
    obtain ⟨hv81, M81, e81⟩ := Q81
    rw [show (own_F3 (9 : Int32)) = (64 : Int32) from rfl] at hv81
    subst hv81
    have N81 := Fr.app N80 M81
    refine Run.back (g' := (mkF m 23 #[.val (.int p0), .val (.int p1), .val (.int (9 : Int32)), .val (.ref a_SERIAL_NUMBER), .val (.int (1 : Int32)), .unset, .unset, .unset, .unset, .unset, .unset, .unset] [(.int (64 : Int32))])) st81 ?_
    refine Run.istore (pc' := 25) X81 hx (l' := #[.val (.int p0), .val (.int p1), .val (.int (9 : Int32)), .val (.ref a_SERIAL_NUMBER), .val (.int (1 : Int32)), .val (.int (64 : Int32)), .unset, .unset, .unset, .unset, .unset, .unset]) (hb hby at_23) rfl rfl ?_
    refine Run.aloadN (pc' := 26) X81 hx (hb hby at_25) rfl rfl ?_
    refine Run.iloadN (pc' := 27) X81 hx (hb hby at_26) rfl rfl ?_
    obtain ⟨T82, L82, v82, X82, Q82, st82⟩ := callVirtual X81 hx (y := (⟨"com/example/certwright/certwright/x509/AttributeType", "fits", "(I)Z"⟩ : MethodName)) (z := (⟨"com/example/certwright/certwright/x509/AttributeType", "fits", "(I)Z"⟩ : MethodName)) (C := "com/example/certwright/certwright/x509/AttributeType") (a := a_SERIAL_NUMBER) (Ls := #[.val (.int p0), .val (.int p1), .val (.int (9 : Int32)), .val (.ref a_SERIAL_NUMBER), .val (.int (1 : Int32)), .val (.int (64 : Int32)), .unset, .unset, .unset, .unset, .unset, .unset]) (rest := []) (W := 0) (argsL := [(.int p1)]) hZ hown (hw _ (List.mem_of_getElem? (i := 14) rfl)) (hw _ (List.mem_of_getElem? (i := 15) rfl)) (notFace_of_selects (args := #[]) (mvT hZ (hw _ (List.mem_of_getElem? (i := 17) rfl)))) (hw _ (List.mem_of_getElem? (i := 17) rfl)) (hw _ (List.mem_of_getElem? (i := 16) rfl)) (hw _ (List.mem_of_getElem? (i := 6) rfl)) (hw _ (List.mem_of_getElem? (i := 18) rfl)) (by decide) e81 E_SERIAL_NUMBER (rm4 l Z a0 hw [] a_SERIAL_NUMBER p1 (1 : Int32) (64 : Int32) h0 n0 Z0 F_SERIAL_NUMBER_minLength F_SERIAL_NUMBER_maxLength) (hb hby at_27) (lenOf own_pd2 rfl) (by decide) (by decide) (by rw [hml]; rfl) (Nat.le_of_eq rfl) (by decide) (by decide)
    obtain ⟨rfl, M82, e82⟩ := Q82
    have N82 := Fr.app N81 M82
    refine Run.back (g' := (mkF m 30 #[.val (.int p0), .val (.int p1), .val (.int (9 : Int32)), .val (.ref a_SERIAL_NUMBER), .val (.int (1 : Int32)), .val (.int (64 : Int32)), .unset, .unset, .unset, .unset, .unset, .unset] [(.int (own_F4 a_SERIAL_NUMBER p1 (1 : Int32) (64 : Int32)))])) st82 ?_
    have J55 : ∀ (T : State) (locs : List Loc), Stand p l e room_1 s m #[(.int p0), (.int p1)] below meth c T locs 0 0 → T.heap = h0 → Fr n0 locs → Run p.tables e below (FinR s room_1.cells room_1.slots (fun v h L => v = some (.int 1) ∧ Fr n0 L)) T (mkF m 55 #[.val (.int p0), .val (.int p1), .val (.int (9 : Int32)), .val (.ref a_SERIAL_NUMBER), .val (.int (1 : Int32)), .val (.int (64 : Int32)), .unset, .unset, .unset, .unset, .unset, .unset] [(.int (1 : Int32))]) := by
      intro T locs X eT N
      refine Run.istore (pc' := 57) X hx (l' := #[.val (.int p0), .val (.int p1), .val (.int (9 : Int32)), .val (.ref a_SERIAL_NUMBER), .val (.int (1 : Int32)), .val (.int (64 : Int32)), .val (.int (1 : Int32)), .unset, .unset, .unset, .unset, .unset]) (hb hby at_55) rfl rfl ?_
      refine Run.aloadN (pc' := 58) X hx (hb hby at_57) rfl rfl ?_
      refine Run.iload (pc' := 60) X hx (hb hby at_58) rfl rfl ?_
      obtain ⟨T83, L83, v83, X83, Q83, st83⟩ := callVirtual X hx (y := (⟨"com/example/certwright/certwright/x509/AttributeType", "fits", "(I)Z"⟩ : MethodName)) (z := (⟨"com/example/certwright/certwright/x509/AttributeType", "fits", "(I)Z"⟩ : MethodName)) (C := "com/example/certwright/certwright/x509/AttributeType") (a := a_SERIAL_NUMBER) (Ls := #[.val (.int p0), .val (.int p1), .val (.int (9 : Int32)), .val (.ref a_SERIAL_NUMBER), .val (.int (1 : Int32)), .val (.int (64 : Int32)), .val (.int (1 : Int32)), .unset, .unset, .unset, .unset, .unset]) (rest := []) (W := 0) (argsL := [(.int (1 : Int32))]) hZ hown (hw _ (List.mem_of_getElem? (i := 14) rfl)) (hw _ (List.mem_of_getElem? (i := 15) rfl)) (notFace_of_selects (args := #[]) (mvT hZ (hw _ (List.mem_of_getElem? (i := 17) rfl)))) (hw _ (List.mem_of_getElem? (i := 17) rfl)) (hw _ (List.mem_of_getElem? (i := 16) rfl)) (hw _ (List.mem_of_getElem? (i := 6) rfl)) (hw _ (List.mem_of_getElem? (i := 18) rfl)) (by decide) eT E_SERIAL_NUMBER (rm4 l Z a0 hw [] a_SERIAL_NUMBER (1 : Int32) (1 : Int32) (64 : Int32) h0 n0 Z0 F_SERIAL_NUMBER_minLength F_SERIAL_NUMBER_maxLength) (hb hby at_60) (lenOf own_pd2 rfl) (by decide) (by decide) (by rw [hml]; rfl) (Nat.le_of_eq rfl) (by decide) (by decide)
      obtain ⟨hv83, M83, e83⟩ := Q83
      rw [show (own_F4 a_SERIAL_NUMBER (1 : Int32) (1 : Int32) (64 : Int32)) = (1 : Int32) from rfl] at hv83
      subst hv83
      have N83 := Fr.app N M83
      refine Run.back (g' := (mkF m 63 #[.val (.int p0), .val (.int p1), .val (.int (9 : Int32)), .val (.ref a_SERIAL_NUMBER), .val (.int (1 : Int32)), .val (.int (64 : Int32)), .val (.int (1 : Int32)), .unset, .unset, .unset, .unset, .unset] [(.int (1 : Int32))])) st83 ?_
      refine Run.istore (pc' := 65) X83 hx (l' := #[.val (.int p0), .val (.int p1), .val (.int (9 : Int32)), .val (.ref a_SERIAL_NUMBER), .val (.int (1 : Int32)), .val (.int (64 : Int32)), .val (.int (1 : Int32)), .val (.int (1 : Int32)), .unset, .unset, .unset, .unset]) (hb hby at_63) rfl rfl ?_
      refine Run.aloadN (pc' := 66) X83 hx (hb hby at_65) rfl rfl ?_
      refine Run.iload (pc' := 68) X83 hx (hb hby at_66) rfl rfl ?_
      refine Run.iconst (pc' := 69) (v := (1 : Int32)) X83 hx (hb hby at_68) rfl rfl ?_
      refine Run.isub (pc' := 70) X83 hx (hb hby at_69) rfl ?_
      obtain ⟨T84, L84, v84, X84, Q84, st84⟩ := callVirtual X83 hx (y := (⟨"com/example/certwright/certwright/x509/AttributeType", "fits", "(I)Z"⟩ : MethodName)) (z := (⟨"com/example/certwright/certwright/x509/AttributeType", "fits", "(I)Z"⟩ : MethodName)) (C := "com/example/certwright/certwright/x509/AttributeType") (a := a_SERIAL_NUMBER) (Ls := #[.val (.int p0), .val (.int p1), .val (.int (9 : Int32)), .val (.ref a_SERIAL_NUMBER), .val (.int (1 : Int32)), .val (.int (64 : Int32)), .val (.int (1 : Int32)), .val (.int (1 : Int32)), .unset, .unset, .unset, .unset]) (rest := []) (W := 0) (argsL := [(.int ((1 : Int32) - (1 : Int32)))]) hZ hown (hw _ (List.mem_of_getElem? (i := 14) rfl)) (hw _ (List.mem_of_getElem? (i := 15) rfl)) (notFace_of_selects (args := #[]) (mvT hZ (hw _ (List.mem_of_getElem? (i := 17) rfl)))) (hw _ (List.mem_of_getElem? (i := 17) rfl)) (hw _ (List.mem_of_getElem? (i := 16) rfl)) (hw _ (List.mem_of_getElem? (i := 6) rfl)) (hw _ (List.mem_of_getElem? (i := 18) rfl)) (by decide) e83 E_SERIAL_NUMBER (rm4 l Z a0 hw [] a_SERIAL_NUMBER ((1 : Int32) - (1 : Int32)) (1 : Int32) (64 : Int32) h0 n0 Z0 F_SERIAL_NUMBER_minLength F_SERIAL_NUMBER_maxLength) (hb hby at_70) (lenOf own_pd2 rfl) (by decide) (by decide) (by rw [hml]; rfl) (Nat.le_of_eq rfl) (by decide) (by decide)
      obtain ⟨hv84, M84, e84⟩ := Q84
      rw [show (own_F4 a_SERIAL_NUMBER ((1 : Int32) - (1 : Int32)) (1 : Int32) (64 : Int32)) = (0 : Int32) from rfl] at hv84
      subst hv84
      have N84 := Fr.app N83 M84
      refine Run.back (g' := (mkF m 73 #[.val (.int p0), .val (.int p1), .val (.int (9 : Int32)), .val (.ref a_SERIAL_NUMBER), .val (.int (1 : Int32)), .val (.int (64 : Int32)), .val (.int (1 : Int32)), .val (.int (1 : Int32)), .unset, .unset, .unset, .unset] [(.int (0 : Int32))])) st84 ?_
      refine Run.istore (pc' := 75) X84 hx (l' := #[.val (.int p0), .val (.int p1), .val (.int (9 : Int32)), .val (.ref a_SERIAL_NUMBER), .val (.int (1 : Int32)), .val (.int (64 : Int32)), .val (.int (1 : Int32)), .val (.int (1 : Int32)), .val (.int (0 : Int32)), .unset, .unset, .unset]) (hb hby at_73) rfl rfl ?_
      refine Run.aloadN (pc' := 76) X84 hx (hb hby at_75) rfl rfl ?_
      refine Run.iload (pc' := 78) X84 hx (hb hby at_76) rfl rfl ?_
      obtain ⟨T85, L85, v85, X85, Q85, st85⟩ := callVirtual X84 hx (y := (⟨"com/example/certwright/certwright/x509/AttributeType", "fits", "(I)Z"⟩ : MethodName)) (z := (⟨"com/example/certwright/certwright/x509/AttributeType", "fits", "(I)Z"⟩ : MethodName)) (C := "com/example/certwright/certwright/x509/AttributeType") (a := a_SERIAL_NUMBER) (Ls := #[.val (.int p0), .val (.int p1), .val (.int (9 : Int32)), .val (.ref a_SERIAL_NUMBER), .val (.int (1 : Int32)), .val (.int (64 : Int32)), .val (.int (1 : Int32)), .val (.int (1 : Int32)), .val (.int (0 : Int32)), .unset, .unset, .unset]) (rest := []) (W := 0) (argsL := [(.int (64 : Int32))]) hZ hown (hw _ (List.mem_of_getElem? (i := 14) rfl)) (hw _ (List.mem_of_getElem? (i := 15) rfl)) (notFace_of_selects (args := #[]) (mvT hZ (hw _ (List.mem_of_getElem? (i := 17) rfl)))) (hw _ (List.mem_of_getElem? (i := 17) rfl)) (hw _ (List.mem_of_getElem? (i := 16) rfl)) (hw _ (List.mem_of_getElem? (i := 6) rfl)) (hw _ (List.mem_of_getElem? (i := 18) rfl)) (by decide) e84 E_SERIAL_NUMBER (rm4 l Z a0 hw [] a_SERIAL_NUMBER (64 : Int32) (1 : Int32) (64 : Int32) h0 n0 Z0 F_SERIAL_NUMBER_minLength F_SERIAL_NUMBER_maxLength) (hb hby at_78) (lenOf own_pd2 rfl) (by decide) (by decide) (by rw [hml]; rfl) (Nat.le_of_eq rfl) (by decide) (by decide)
      obtain ⟨hv85, M85, e85⟩ := Q85
      rw [show (own_F4 a_SERIAL_NUMBER (64 : Int32) (1 : Int32) (64 : Int32)) = (1 : Int32) from rfl] at hv85
      subst hv85
      have N85 := Fr.app N84 M85
      refine Run.back (g' := (mkF m 81 #[.val (.int p0), .val (.int p1), .val (.int (9 : Int32)), .val (.ref a_SERIAL_NUMBER), .val (.int (1 : Int32)), .val (.int (64 : Int32)), .val (.int (1 : Int32)), .val (.int (1 : Int32)), .val (.int (0 : Int32)), .unset, .unset, .unset] [(.int (1 : Int32))])) st85 ?_
      refine Run.istore (pc' := 83) X85 hx (l' := #[.val (.int p0), .val (.int p1), .val (.int (9 : Int32)), .val (.ref a_SERIAL_NUMBER), .val (.int (1 : Int32)), .val (.int (64 : Int32)), .val (.int (1 : Int32)), .val (.int (1 : Int32)), .val (.int (0 : Int32)), .val (.int (1 : Int32)), .unset, .unset]) (hb hby at_81) rfl rfl ?_
      refine Run.iload (pc' := 85) X85 hx (hb hby at_83) rfl rfl ?_
      refine Run.ldcInt (pc' := 87) (v := (2147483647 : Int32)) X85 hx hown (mvT hZ (hw _ (List.mem_of_getElem? (i := 0) rfl))) (hb hby at_85) rfl ?_
      refine Run.icmpNo (pc' := 90) X85 hx (hb hby at_87) (feq (by decide : ¬ ((64 : Int32) = (2147483647 : Int32)))).1 rfl ?_
      refine Run.aloadN (pc' := 91) X85 hx (hb hby at_90) rfl rfl ?_
      refine Run.iload (pc' := 93) X85 hx (hb hby at_91) rfl rfl ?_
      refine Run.iconst (pc' := 94) (v := (1 : Int32)) X85 hx (hb hby at_93) rfl rfl ?_
      refine Run.iadd (pc' := 95) X85 hx (hb hby at_94) rfl ?_
      obtain ⟨T86, L86, v86, X86, Q86, st86⟩ := callVirtual X85 hx (y := (⟨"com/example/certwright/certwright/x509/AttributeType", "fits", "(I)Z"⟩ : MethodName)) (z := (⟨"com/example/certwright/certwright/x509/AttributeType", "fits", "(I)Z"⟩ : MethodName)) (C := "com/example/certwright/certwright/x509/AttributeType") (a := a_SERIAL_NUMBER) (Ls := #[.val (.int p0), .val (.int p1), .val (.int (9 : Int32)), .val (.ref a_SERIAL_NUMBER), .val (.int (1 : Int32)), .val (.int (64 : Int32)), .val (.int (1 : Int32)), .val (.int (1 : Int32)), .val (.int (0 : Int32)), .val (.int (1 : Int32)), .unset, .unset]) (rest := []) (W := 0) (argsL := [(.int ((64 : Int32) + (1 : Int32)))]) hZ hown (hw _ (List.mem_of_getElem? (i := 14) rfl)) (hw _ (List.mem_of_getElem? (i := 15) rfl)) (notFace_of_selects (args := #[]) (mvT hZ (hw _ (List.mem_of_getElem? (i := 17) rfl)))) (hw _ (List.mem_of_getElem? (i := 17) rfl)) (hw _ (List.mem_of_getElem? (i := 16) rfl)) (hw _ (List.mem_of_getElem? (i := 6) rfl)) (hw _ (List.mem_of_getElem? (i := 18) rfl)) (by decide) e85 E_SERIAL_NUMBER (rm4 l Z a0 hw [] a_SERIAL_NUMBER ((64 : Int32) + (1 : Int32)) (1 : Int32) (64 : Int32) h0 n0 Z0 F_SERIAL_NUMBER_minLength F_SERIAL_NUMBER_maxLength) (hb hby at_95) (lenOf own_pd2 rfl) (by decide) (by decide) (by rw [hml]; rfl) (Nat.le_of_eq rfl) (by decide) (by decide)
      obtain ⟨hv86, M86, e86⟩ := Q86
      rw [show (own_F4 a_SERIAL_NUMBER ((64 : Int32) + (1 : Int32)) (1 : Int32) (64 : Int32)) = (0 : Int32) from rfl] at hv86
      subst hv86
      have N86 := Fr.app N85 M86
      refine Run.back (g' := (mkF m 98 #[.val (.int p0), .val (.int p1), .val (.int (9 : Int32)), .val (.ref a_SERIAL_NUMBER), .val (.int (1 : Int32)), .val (.int (64 : Int32)), .val (.int (1 : Int32)), .val (.int (1 : Int32)), .val (.int (0 : Int32)), .val (.int (1 : Int32)), .unset, .unset] [(.int (0 : Int32))])) st86 ?_
      refine Run.ifYes (pc' := 105) X86 hx (hb hby at_98) ((if0 _ _).trans (teq (by decide : (0 : Int32) = (0 : Int32))).1) (by decide) (by decide) ?_
      refine Run.iconst (pc' := 106) (v := (0 : Int32)) X86 hx (hb hby at_105) rfl rfl ?_
      refine Run.istore (pc' := 108) X86 hx (l' := #[.val (.int p0), .val (.int p1), .val (.int (9 : Int32)), .val (.ref a_SERIAL_NUMBER), .val (.int (1 : Int32)), .val (.int (64 : Int32)), .val (.int (1 : Int32)), .val (.int (1 : Int32)), .val (.int (0 : Int32)), .val (.int (1 : Int32)), .val (.int (0 : Int32)), .unset]) (hb hby at_106) rfl rfl ?_
      refine Run.aloadN (pc' := 109) X86 hx (hb hby at_108) rfl rfl ?_
      refine Run.ldcInt (pc' := 111) (v := (-2147483648 : Int32)) X86 hx hown (mvT hZ (hw _ (List.mem_of_getElem? (i := 23) rfl))) (hb hby at_109) rfl ?_
      obtain ⟨T87, L87, v87, X87, Q87, st87⟩ := callVirtual X86 hx (y := (⟨"com/example/certwright/certwright/x509/AttributeType", "fits", "(I)Z"⟩ : MethodName)) (z := (⟨"com/example/certwright/certwright/x509/AttributeType", "fits", "(I)Z"⟩ : MethodName)) (C := "com/example/certwright/certwright/x509/AttributeType") (a := a_SERIAL_NUMBER) (Ls := #[.val (.int p0), .val (.int p1), .val (.int (9 : Int32)), .val (.ref a_SERIAL_NUMBER), .val (.int (1 : Int32)), .val (.int (64 : Int32)), .val (.int (1 : Int32)), .val (.int (1 : Int32)), .val (.int (0 : Int32)), .val (.int (1 : Int32)), .val (.int (0 : Int32)), .unset]) (rest := []) (W := 0) (argsL := [(.int (-2147483648 : Int32))]) hZ hown (hw _ (List.mem_of_getElem? (i := 14) rfl)) (hw _ (List.mem_of_getElem? (i := 15) rfl)) (notFace_of_selects (args := #[]) (mvT hZ (hw _ (List.mem_of_getElem? (i := 17) rfl)))) (hw _ (List.mem_of_getElem? (i := 17) rfl)) (hw _ (List.mem_of_getElem? (i := 16) rfl)) (hw _ (List.mem_of_getElem? (i := 6) rfl)) (hw _ (List.mem_of_getElem? (i := 18) rfl)) (by decide) e86 E_SERIAL_NUMBER (rm4 l Z a0 hw [] a_SERIAL_NUMBER (-2147483648 : Int32) (1 : Int32) (64 : Int32) h0 n0 Z0 F_SERIAL_NUMBER_minLength F_SERIAL_NUMBER_maxLength) (hb hby at_111) (lenOf own_pd2 rfl) (by decide) (by decide) (by rw [hml]; rfl) (Nat.le_of_eq rfl) (by decide) (by decide)
      obtain ⟨hv87, M87, e87⟩ := Q87
      rw [show (own_F4 a_SERIAL_NUMBER (-2147483648 : Int32) (1 : Int32) (64 : Int32)) = (0 : Int32) from rfl] at hv87
      subst hv87
      have N87 := Fr.app N86 M87
      refine Run.back (g' := (mkF m 114 #[.val (.int p0), .val (.int p1), .val (.int (9 : Int32)), .val (.ref a_SERIAL_NUMBER), .val (.int (1 : Int32)), .val (.int (64 : Int32)), .val (.int (1 : Int32)), .val (.int (1 : Int32)), .val (.int (0 : Int32)), .val (.int (1 : Int32)), .val (.int (0 : Int32)), .unset] [(.int (0 : Int32))])) st87 ?_
      refine Run.istore (pc' := 116) X87 hx (l' := #[.val (.int p0), .val (.int p1), .val (.int (9 : Int32)), .val (.ref a_SERIAL_NUMBER), .val (.int (1 : Int32)), .val (.int (64 : Int32)), .val (.int (1 : Int32)), .val (.int (1 : Int32)), .val (.int (0 : Int32)), .val (.int (1 : Int32)), .val (.int (0 : Int32)), .val (.int (0 : Int32))]) (hb hby at_114) rfl rfl ?_
      refine Run.iload (pc' := 118) X87 hx (hb hby at_116) rfl rfl ?_
      refine Run.ifNo (pc' := 121) X87 hx (hb hby at_118) ((if0 _ _).trans (feq (by decide : ¬ ((1 : Int32) = (0 : Int32)))).1) rfl ?_
      refine Run.iload (pc' := 123) X87 hx (hb hby at_121) rfl rfl ?_
      refine Run.ifNo (pc' := 126) X87 hx (hb hby at_123) ((if0 _ _).trans (feq (by decide : ¬ ((1 : Int32) = (0 : Int32)))).1) rfl ?_
      refine Run.iload (pc' := 128) X87 hx (hb hby at_126) rfl rfl ?_
      refine Run.ifNo (pc' := 131) X87 hx (hb hby at_128) ((if0 _ _).trans (teq (by decide : (0 : Int32) = (0 : Int32))).2) rfl ?_
      refine Run.iload (pc' := 133) X87 hx (hb hby at_131) rfl rfl ?_
      refine Run.ifNo (pc' := 136) X87 hx (hb hby at_133) ((if0 _ _).trans (feq (by decide : ¬ ((1 : Int32) = (0 : Int32)))).1) rfl ?_
      refine Run.iload (pc' := 138) X87 hx (hb hby at_136) rfl rfl ?_
      refine Run.ifNo (pc' := 141) X87 hx (hb hby at_138) ((if0 _ _).trans (teq (by decide : (0 : Int32) = (0 : Int32))).2) rfl ?_
      refine Run.iload (pc' := 143) X87 hx (hb hby at_141) rfl rfl ?_
      refine Run.ifNo (pc' := 146) X87 hx (hb hby at_143) ((if0 _ _).trans (teq (by decide : (0 : Int32) = (0 : Int32))).2) rfl ?_
      refine Run.iconst (pc' := 147) (v := (1 : Int32)) X87 hx (hb hby at_146) rfl rfl ?_
      refine Run.goto (pc' := 151) X87 hx (hb hby at_147) (by decide) (by decide) ?_
      exact Run.retSmall X87 hx (t := .boolean) (z' := (1 : Int32)) Bd.notSynchronized Bd.returns (by simp) rfl (hb hby at_151) ⟨rfl, N87⟩ (by decide) (by decide)
    refine Run.iloadN (pc' := 31) X82 hx (hb hby at_30) rfl rfl ?_
    refine Run.iload (pc' := 33) X82 hx (hb hby at_31) rfl rfl ?_
    by_cases hc33 : p1 < (1 : Int32)
    · skip
      refine Run.icmpYes (pc' := 46) X82 hx (hb hby at_33) (tlt hc33).1 (by decide) (by decide) ?_
      refine Run.iconst (pc' := 47) (v := (0 : Int32)) X82 hx (hb hby at_46) rfl rfl ?_
      refine Run.icmpNo (pc' := 50) X82 hx (hb hby at_47) (teq (by rw [own_F4, if_pos hc33]; rfl)).2 rfl ?_
      refine Run.iconst (pc' := 51) (v := (1 : Int32)) X82 hx (hb hby at_50) rfl rfl ?_
      refine Run.goto (pc' := 55) X82 hx (hb hby at_51) (by decide) (by decide) ?_
      exact J55 _ _ X82 e82 N82
    · skip
      refine Run.icmpNo (pc' := 36) X82 hx (hb hby at_33) (flt hc33).1 rfl ?_
      refine Run.iloadN (pc' := 37) X82 hx (hb hby at_36) rfl rfl ?_
      refine Run.iload (pc' := 39) X82 hx (hb hby at_37) rfl rfl ?_
      by_cases hc39 : (64 : Int32) < p1
      · skip
        refine Run.icmpYes (pc' := 46) X82 hx (hb hby at_39) (tlt hc39).2.2.1 (by decide) (by decide) ?_
        refine Run.iconst (pc' := 47) (v := (0 : Int32)) X82 hx (hb hby at_46) rfl rfl ?_
        refine Run.icmpNo (pc' := 50) X82 hx (hb hby at_47) (teq (by rw [own_F4, if_neg hc33, if_pos hc39]; rfl)).2 rfl ?_
        refine Run.iconst (pc' := 51) (v := (1 : Int32)) X82 hx (hb hby at_50) rfl rfl ?_
        refine Run.goto (pc' := 55) X82 hx (hb hby at_51) (by decide) (by decide) ?_
        exact J55 _ _ X82 e82 N82
      · skip
        refine Run.icmpNo (pc' := 42) X82 hx (hb hby at_39) (flt hc39).2.2.1 rfl ?_
        refine Run.iconst (pc' := 43) (v := (1 : Int32)) X82 hx (hb hby at_42) rfl rfl ?_
        refine Run.goto (pc' := 47) X82 hx (hb hby at_43) (by decide) (by decide) ?_
        refine Run.icmpNo (pc' := 50) X82 hx (hb hby at_47) (teq (by rw [own_F4, if_neg hc33, if_neg hc39]; rfl)).2 rfl ?_
        refine Run.iconst (pc' := 51) (v := (1 : Int32)) X82 hx (hb hby at_50) rfl rfl ?_
        refine Run.goto (pc' := 55) X82 hx (hb hby at_51) (by decide) (by decide) ?_
        exact J55 _ _ X82 e82 N82
  · rw [hk]
    refine Run.iloadN (pc' := 9) X0 hx (hb hby at_8) rfl rfl ?_
    obtain ⟨T88, L88, v88, X88, Q88, st88⟩ := callStatic X0 hx (y := (⟨"com/example/certwright/certwright/x509/AttributeTypeFitsPinLaw", "type", "(I)Lcom/example/certwright/certwright/x509/AttributeType;"⟩ : MethodName)) (Ls := #[.val (.int p0), .val (.int p1), .val (.int (10 : Int32)), .unset, .unset, .unset, .unset, .unset, .unset, .unset, .unset, .unset]) (rest := []) (W := 0) (argsL := [(.int (10 : Int32))]) hZ hown (hw _ (List.mem_of_getElem? (i := 1) rfl)) (hw _ (List.mem_of_getElem? (i := 2) rfl)) (hw _ (List.mem_of_getElem? (i := 3) rfl)) (hw _ (List.mem_of_getElem? (i := 4) rfl)) (by decide) e0 (rm1 l Z a0 hw [] (10 : Int32) a_COMMON_NAME a_LOCALITY a_STATE_OR_PROVINCE a_ORGANIZATION a_ORGANIZATIONAL_UNIT a_COUNTRY a_STREET a_DOMAIN_COMPONENT a_USER_ID a_SERIAL_NUMBER a_EMAIL_ADDRESS h0 n0 Z0 S_COMMON_NAME S_LOCALITY S_STATE_OR_PROVINCE S_ORGANIZATION S_ORGANIZATIONAL_UNIT S_COUNTRY S_STREET S_DOMAIN_COMPONENT S_USER_ID S_SERIAL_NUMBER S_EMAIL_ADDRESS) (hb hby at_9) (lenOf own_pd0 rfl) (by decide) (by decide) (by rw [hml]; rfl) (Nat.le_of_eq rfl) (by decide) (by decide)
    obtain ⟨hv88, M88, e88⟩ := Q88
    rw [show (own_F1 (10 : Int32) a_COMMON_NAME a_LOCALITY a_STATE_OR_PROVINCE a_ORGANIZATION a_ORGANIZATIONAL_UNIT a_COUNTRY a_STREET a_DOMAIN_COMPONENT a_USER_ID a_SERIAL_NUMBER a_EMAIL_ADDRESS) = a_EMAIL_ADDRESS from rfl] at hv88
    subst hv88
    have N88 := Fr.app N0 M88
    refine Run.back (g' := (mkF m 12 #[.val (.int p0), .val (.int p1), .val (.int (10 : Int32)), .unset, .unset, .unset, .unset, .unset, .unset, .unset, .unset, .unset] [(.ref a_EMAIL_ADDRESS)])) st88 ?_
    refine Run.astoreN (pc' := 13) X88 hx (l' := #[.val (.int p0), .val (.int p1), .val (.int (10 : Int32)), .val (.ref a_EMAIL_ADDRESS), .unset, .unset, .unset, .unset, .unset, .unset, .unset, .unset]) (hb hby at_12) rfl rfl ?_
    refine Run.iloadN (pc' := 14) X88 hx (hb hby at_13) rfl rfl ?_
    obtain ⟨T89, L89, v89, X89, Q89, st89⟩ := callStatic X88 hx (y := (⟨"com/example/certwright/certwright/x509/AttributeTypeFitsPinLaw", "low", "(I)I"⟩ : MethodName)) (Ls := #[.val (.int p0), .val (.int p1), .val (.int (10 : Int32)), .val (.ref a_EMAIL_ADDRESS), .unset, .unset, .unset, .unset, .unset, .unset, .unset, .unset]) (rest := []) (W := 0) (argsL := [(.int (10 : Int32))]) hZ hown (hw _ (List.mem_of_getElem? (i := 8) rfl)) (hw _ (List.mem_of_getElem? (i := 9) rfl)) (hw _ (List.mem_of_getElem? (i := 3) rfl)) (hw _ (List.mem_of_getElem? (i := 10) rfl)) (by decide) e88 (rm2 l Z a0 hw [] (10 : Int32)  h0 n0 Z0 ) (hb hby at_14) (lenOf own_pd1 rfl) (by decide) (by decide) (by rw [hml]; rfl) (Nat.le_of_eq rfl) (by decide) (by decide)
    obtain ⟨hv89, M89, e89⟩ := Q89
    rw [show (own_F2 (10 : Int32)) = (1 : Int32) from rfl] at hv89
    subst hv89
    have N89 := Fr.app N88 M89
    refine Run.back (g' := (mkF m 17 #[.val (.int p0), .val (.int p1), .val (.int (10 : Int32)), .val (.ref a_EMAIL_ADDRESS), .unset, .unset, .unset, .unset, .unset, .unset, .unset, .unset] [(.int (1 : Int32))])) st89 ?_
    refine Run.istore (pc' := 19) X89 hx (l' := #[.val (.int p0), .val (.int p1), .val (.int (10 : Int32)), .val (.ref a_EMAIL_ADDRESS), .val (.int (1 : Int32)), .unset, .unset, .unset, .unset, .unset, .unset, .unset]) (hb hby at_17) rfl rfl ?_
    refine Run.iloadN (pc' := 20) X89 hx (hb hby at_19) rfl rfl ?_
    obtain ⟨T90, L90, v90, X90, Q90, st90⟩ := callStatic X89 hx (y := (⟨"com/example/certwright/certwright/x509/AttributeTypeFitsPinLaw", "high", "(I)I"⟩ : MethodName)) (Ls := #[.val (.int p0), .val (.int p1), .val (.int (10 : Int32)), .val (.ref a_EMAIL_ADDRESS), .val (.int (1 : Int32)), .unset, .unset, .unset, .unset, .unset, .unset, .unset]) (rest := []) (W := 0) (argsL := [(.int (10 : Int32))]) hZ hown (hw _ (List.mem_of_getElem? (i := 11) rfl)) (hw _ (List.mem_of_getElem? (i := 12) rfl)) (hw _ (List.mem_of_getElem? (i := 3) rfl)) (hw _ (List.mem_of_getElem? (i := 13) rfl)) (by decide) e89 (rm3 l Z a0 hw [] (10 : Int32)  h0 n0 Z0 ) (hb hby at_20) (lenOf own_pd1 rfl) (by decide) (by decide) (by rw [hml]; rfl) (Nat.le_of_eq rfl) (by decide) (by decide)
    obtain ⟨hv90, M90, e90⟩ := Q90
    rw [show (own_F3 (10 : Int32)) = (255 : Int32) from rfl] at hv90
    subst hv90
    have N90 := Fr.app N89 M90
    refine Run.back (g' := (mkF m 23 #[.val (.int p0), .val (.int p1), .val (.int (10 : Int32)), .val (.ref a_EMAIL_ADDRESS), .val (.int (1 : Int32)), .unset, .unset, .unset, .unset, .unset, .unset, .unset] [(.int (255 : Int32))])) st90 ?_
    refine Run.istore (pc' := 25) X90 hx (l' := #[.val (.int p0), .val (.int p1), .val (.int (10 : Int32)), .val (.ref a_EMAIL_ADDRESS), .val (.int (1 : Int32)), .val (.int (255 : Int32)), .unset, .unset, .unset, .unset, .unset, .unset]) (hb hby at_23) rfl rfl ?_
    refine Run.aloadN (pc' := 26) X90 hx (hb hby at_25) rfl rfl ?_
    refine Run.iloadN (pc' := 27) X90 hx (hb hby at_26) rfl rfl ?_
    obtain ⟨T91, L91, v91, X91, Q91, st91⟩ := callVirtual X90 hx (y := (⟨"com/example/certwright/certwright/x509/AttributeType", "fits", "(I)Z"⟩ : MethodName)) (z := (⟨"com/example/certwright/certwright/x509/AttributeType", "fits", "(I)Z"⟩ : MethodName)) (C := "com/example/certwright/certwright/x509/AttributeType") (a := a_EMAIL_ADDRESS) (Ls := #[.val (.int p0), .val (.int p1), .val (.int (10 : Int32)), .val (.ref a_EMAIL_ADDRESS), .val (.int (1 : Int32)), .val (.int (255 : Int32)), .unset, .unset, .unset, .unset, .unset, .unset]) (rest := []) (W := 0) (argsL := [(.int p1)]) hZ hown (hw _ (List.mem_of_getElem? (i := 14) rfl)) (hw _ (List.mem_of_getElem? (i := 15) rfl)) (notFace_of_selects (args := #[]) (mvT hZ (hw _ (List.mem_of_getElem? (i := 17) rfl)))) (hw _ (List.mem_of_getElem? (i := 17) rfl)) (hw _ (List.mem_of_getElem? (i := 16) rfl)) (hw _ (List.mem_of_getElem? (i := 6) rfl)) (hw _ (List.mem_of_getElem? (i := 18) rfl)) (by decide) e90 E_EMAIL_ADDRESS (rm4 l Z a0 hw [] a_EMAIL_ADDRESS p1 (1 : Int32) (255 : Int32) h0 n0 Z0 F_EMAIL_ADDRESS_minLength F_EMAIL_ADDRESS_maxLength) (hb hby at_27) (lenOf own_pd2 rfl) (by decide) (by decide) (by rw [hml]; rfl) (Nat.le_of_eq rfl) (by decide) (by decide)
    obtain ⟨rfl, M91, e91⟩ := Q91
    have N91 := Fr.app N90 M91
    refine Run.back (g' := (mkF m 30 #[.val (.int p0), .val (.int p1), .val (.int (10 : Int32)), .val (.ref a_EMAIL_ADDRESS), .val (.int (1 : Int32)), .val (.int (255 : Int32)), .unset, .unset, .unset, .unset, .unset, .unset] [(.int (own_F4 a_EMAIL_ADDRESS p1 (1 : Int32) (255 : Int32)))])) st91 ?_
    have J55 : ∀ (T : State) (locs : List Loc), Stand p l e room_1 s m #[(.int p0), (.int p1)] below meth c T locs 0 0 → T.heap = h0 → Fr n0 locs → Run p.tables e below (FinR s room_1.cells room_1.slots (fun v h L => v = some (.int 1) ∧ Fr n0 L)) T (mkF m 55 #[.val (.int p0), .val (.int p1), .val (.int (10 : Int32)), .val (.ref a_EMAIL_ADDRESS), .val (.int (1 : Int32)), .val (.int (255 : Int32)), .unset, .unset, .unset, .unset, .unset, .unset] [(.int (1 : Int32))]) := by
      intro T locs X eT N
      refine Run.istore (pc' := 57) X hx (l' := #[.val (.int p0), .val (.int p1), .val (.int (10 : Int32)), .val (.ref a_EMAIL_ADDRESS), .val (.int (1 : Int32)), .val (.int (255 : Int32)), .val (.int (1 : Int32)), .unset, .unset, .unset, .unset, .unset]) (hb hby at_55) rfl rfl ?_
      refine Run.aloadN (pc' := 58) X hx (hb hby at_57) rfl rfl ?_
      refine Run.iload (pc' := 60) X hx (hb hby at_58) rfl rfl ?_
      obtain ⟨T92, L92, v92, X92, Q92, st92⟩ := callVirtual X hx (y := (⟨"com/example/certwright/certwright/x509/AttributeType", "fits", "(I)Z"⟩ : MethodName)) (z := (⟨"com/example/certwright/certwright/x509/AttributeType", "fits", "(I)Z"⟩ : MethodName)) (C := "com/example/certwright/certwright/x509/AttributeType") (a := a_EMAIL_ADDRESS) (Ls := #[.val (.int p0), .val (.int p1), .val (.int (10 : Int32)), .val (.ref a_EMAIL_ADDRESS), .val (.int (1 : Int32)), .val (.int (255 : Int32)), .val (.int (1 : Int32)), .unset, .unset, .unset, .unset, .unset]) (rest := []) (W := 0) (argsL := [(.int (1 : Int32))]) hZ hown (hw _ (List.mem_of_getElem? (i := 14) rfl)) (hw _ (List.mem_of_getElem? (i := 15) rfl)) (notFace_of_selects (args := #[]) (mvT hZ (hw _ (List.mem_of_getElem? (i := 17) rfl)))) (hw _ (List.mem_of_getElem? (i := 17) rfl)) (hw _ (List.mem_of_getElem? (i := 16) rfl)) (hw _ (List.mem_of_getElem? (i := 6) rfl)) (hw _ (List.mem_of_getElem? (i := 18) rfl)) (by decide) eT E_EMAIL_ADDRESS (rm4 l Z a0 hw [] a_EMAIL_ADDRESS (1 : Int32) (1 : Int32) (255 : Int32) h0 n0 Z0 F_EMAIL_ADDRESS_minLength F_EMAIL_ADDRESS_maxLength) (hb hby at_60) (lenOf own_pd2 rfl) (by decide) (by decide) (by rw [hml]; rfl) (Nat.le_of_eq rfl) (by decide) (by decide)
      obtain ⟨hv92, M92, e92⟩ := Q92
      rw [show (own_F4 a_EMAIL_ADDRESS (1 : Int32) (1 : Int32) (255 : Int32)) = (1 : Int32) from rfl] at hv92
      subst hv92
      have N92 := Fr.app N M92
      refine Run.back (g' := (mkF m 63 #[.val (.int p0), .val (.int p1), .val (.int (10 : Int32)), .val (.ref a_EMAIL_ADDRESS), .val (.int (1 : Int32)), .val (.int (255 : Int32)), .val (.int (1 : Int32)), .unset, .unset, .unset, .unset, .unset] [(.int (1 : Int32))])) st92 ?_
      refine Run.istore (pc' := 65) X92 hx (l' := #[.val (.int p0), .val (.int p1), .val (.int (10 : Int32)), .val (.ref a_EMAIL_ADDRESS), .val (.int (1 : Int32)), .val (.int (255 : Int32)), .val (.int (1 : Int32)), .val (.int (1 : Int32)), .unset, .unset, .unset, .unset]) (hb hby at_63) rfl rfl ?_
      refine Run.aloadN (pc' := 66) X92 hx (hb hby at_65) rfl rfl ?_
      refine Run.iload (pc' := 68) X92 hx (hb hby at_66) rfl rfl ?_
      refine Run.iconst (pc' := 69) (v := (1 : Int32)) X92 hx (hb hby at_68) rfl rfl ?_
      refine Run.isub (pc' := 70) X92 hx (hb hby at_69) rfl ?_
      obtain ⟨T93, L93, v93, X93, Q93, st93⟩ := callVirtual X92 hx (y := (⟨"com/example/certwright/certwright/x509/AttributeType", "fits", "(I)Z"⟩ : MethodName)) (z := (⟨"com/example/certwright/certwright/x509/AttributeType", "fits", "(I)Z"⟩ : MethodName)) (C := "com/example/certwright/certwright/x509/AttributeType") (a := a_EMAIL_ADDRESS) (Ls := #[.val (.int p0), .val (.int p1), .val (.int (10 : Int32)), .val (.ref a_EMAIL_ADDRESS), .val (.int (1 : Int32)), .val (.int (255 : Int32)), .val (.int (1 : Int32)), .val (.int (1 : Int32)), .unset, .unset, .unset, .unset]) (rest := []) (W := 0) (argsL := [(.int ((1 : Int32) - (1 : Int32)))]) hZ hown (hw _ (List.mem_of_getElem? (i := 14) rfl)) (hw _ (List.mem_of_getElem? (i := 15) rfl)) (notFace_of_selects (args := #[]) (mvT hZ (hw _ (List.mem_of_getElem? (i := 17) rfl)))) (hw _ (List.mem_of_getElem? (i := 17) rfl)) (hw _ (List.mem_of_getElem? (i := 16) rfl)) (hw _ (List.mem_of_getElem? (i := 6) rfl)) (hw _ (List.mem_of_getElem? (i := 18) rfl)) (by decide) e92 E_EMAIL_ADDRESS (rm4 l Z a0 hw [] a_EMAIL_ADDRESS ((1 : Int32) - (1 : Int32)) (1 : Int32) (255 : Int32) h0 n0 Z0 F_EMAIL_ADDRESS_minLength F_EMAIL_ADDRESS_maxLength) (hb hby at_70) (lenOf own_pd2 rfl) (by decide) (by decide) (by rw [hml]; rfl) (Nat.le_of_eq rfl) (by decide) (by decide)
      obtain ⟨hv93, M93, e93⟩ := Q93
      rw [show (own_F4 a_EMAIL_ADDRESS ((1 : Int32) - (1 : Int32)) (1 : Int32) (255 : Int32)) = (0 : Int32) from rfl] at hv93
      subst hv93
      have N93 := Fr.app N92 M93
      refine Run.back (g' := (mkF m 73 #[.val (.int p0), .val (.int p1), .val (.int (10 : Int32)), .val (.ref a_EMAIL_ADDRESS), .val (.int (1 : Int32)), .val (.int (255 : Int32)), .val (.int (1 : Int32)), .val (.int (1 : Int32)), .unset, .unset, .unset, .unset] [(.int (0 : Int32))])) st93 ?_
      refine Run.istore (pc' := 75) X93 hx (l' := #[.val (.int p0), .val (.int p1), .val (.int (10 : Int32)), .val (.ref a_EMAIL_ADDRESS), .val (.int (1 : Int32)), .val (.int (255 : Int32)), .val (.int (1 : Int32)), .val (.int (1 : Int32)), .val (.int (0 : Int32)), .unset, .unset, .unset]) (hb hby at_73) rfl rfl ?_
      refine Run.aloadN (pc' := 76) X93 hx (hb hby at_75) rfl rfl ?_
      refine Run.iload (pc' := 78) X93 hx (hb hby at_76) rfl rfl ?_
      obtain ⟨T94, L94, v94, X94, Q94, st94⟩ := callVirtual X93 hx (y := (⟨"com/example/certwright/certwright/x509/AttributeType", "fits", "(I)Z"⟩ : MethodName)) (z := (⟨"com/example/certwright/certwright/x509/AttributeType", "fits", "(I)Z"⟩ : MethodName)) (C := "com/example/certwright/certwright/x509/AttributeType") (a := a_EMAIL_ADDRESS) (Ls := #[.val (.int p0), .val (.int p1), .val (.int (10 : Int32)), .val (.ref a_EMAIL_ADDRESS), .val (.int (1 : Int32)), .val (.int (255 : Int32)), .val (.int (1 : Int32)), .val (.int (1 : Int32)), .val (.int (0 : Int32)), .unset, .unset, .unset]) (rest := []) (W := 0) (argsL := [(.int (255 : Int32))]) hZ hown (hw _ (List.mem_of_getElem? (i := 14) rfl)) (hw _ (List.mem_of_getElem? (i := 15) rfl)) (notFace_of_selects (args := #[]) (mvT hZ (hw _ (List.mem_of_getElem? (i := 17) rfl)))) (hw _ (List.mem_of_getElem? (i := 17) rfl)) (hw _ (List.mem_of_getElem? (i := 16) rfl)) (hw _ (List.mem_of_getElem? (i := 6) rfl)) (hw _ (List.mem_of_getElem? (i := 18) rfl)) (by decide) e93 E_EMAIL_ADDRESS (rm4 l Z a0 hw [] a_EMAIL_ADDRESS (255 : Int32) (1 : Int32) (255 : Int32) h0 n0 Z0 F_EMAIL_ADDRESS_minLength F_EMAIL_ADDRESS_maxLength) (hb hby at_78) (lenOf own_pd2 rfl) (by decide) (by decide) (by rw [hml]; rfl) (Nat.le_of_eq rfl) (by decide) (by decide)
      obtain ⟨hv94, M94, e94⟩ := Q94
      rw [show (own_F4 a_EMAIL_ADDRESS (255 : Int32) (1 : Int32) (255 : Int32)) = (1 : Int32) from rfl] at hv94
      subst hv94
      have N94 := Fr.app N93 M94
      refine Run.back (g' := (mkF m 81 #[.val (.int p0), .val (.int p1), .val (.int (10 : Int32)), .val (.ref a_EMAIL_ADDRESS), .val (.int (1 : Int32)), .val (.int (255 : Int32)), .val (.int (1 : Int32)), .val (.int (1 : Int32)), .val (.int (0 : Int32)), .unset, .unset, .unset] [(.int (1 : Int32))])) st94 ?_
      refine Run.istore (pc' := 83) X94 hx (l' := #[.val (.int p0), .val (.int p1), .val (.int (10 : Int32)), .val (.ref a_EMAIL_ADDRESS), .val (.int (1 : Int32)), .val (.int (255 : Int32)), .val (.int (1 : Int32)), .val (.int (1 : Int32)), .val (.int (0 : Int32)), .val (.int (1 : Int32)), .unset, .unset]) (hb hby at_81) rfl rfl ?_
      refine Run.iload (pc' := 85) X94 hx (hb hby at_83) rfl rfl ?_
      refine Run.ldcInt (pc' := 87) (v := (2147483647 : Int32)) X94 hx hown (mvT hZ (hw _ (List.mem_of_getElem? (i := 0) rfl))) (hb hby at_85) rfl ?_
      refine Run.icmpNo (pc' := 90) X94 hx (hb hby at_87) (feq (by decide : ¬ ((255 : Int32) = (2147483647 : Int32)))).1 rfl ?_
      refine Run.aloadN (pc' := 91) X94 hx (hb hby at_90) rfl rfl ?_
      refine Run.iload (pc' := 93) X94 hx (hb hby at_91) rfl rfl ?_
      refine Run.iconst (pc' := 94) (v := (1 : Int32)) X94 hx (hb hby at_93) rfl rfl ?_
      refine Run.iadd (pc' := 95) X94 hx (hb hby at_94) rfl ?_
      obtain ⟨T95, L95, v95, X95, Q95, st95⟩ := callVirtual X94 hx (y := (⟨"com/example/certwright/certwright/x509/AttributeType", "fits", "(I)Z"⟩ : MethodName)) (z := (⟨"com/example/certwright/certwright/x509/AttributeType", "fits", "(I)Z"⟩ : MethodName)) (C := "com/example/certwright/certwright/x509/AttributeType") (a := a_EMAIL_ADDRESS) (Ls := #[.val (.int p0), .val (.int p1), .val (.int (10 : Int32)), .val (.ref a_EMAIL_ADDRESS), .val (.int (1 : Int32)), .val (.int (255 : Int32)), .val (.int (1 : Int32)), .val (.int (1 : Int32)), .val (.int (0 : Int32)), .val (.int (1 : Int32)), .unset, .unset]) (rest := []) (W := 0) (argsL := [(.int ((255 : Int32) + (1 : Int32)))]) hZ hown (hw _ (List.mem_of_getElem? (i := 14) rfl)) (hw _ (List.mem_of_getElem? (i := 15) rfl)) (notFace_of_selects (args := #[]) (mvT hZ (hw _ (List.mem_of_getElem? (i := 17) rfl)))) (hw _ (List.mem_of_getElem? (i := 17) rfl)) (hw _ (List.mem_of_getElem? (i := 16) rfl)) (hw _ (List.mem_of_getElem? (i := 6) rfl)) (hw _ (List.mem_of_getElem? (i := 18) rfl)) (by decide) e94 E_EMAIL_ADDRESS (rm4 l Z a0 hw [] a_EMAIL_ADDRESS ((255 : Int32) + (1 : Int32)) (1 : Int32) (255 : Int32) h0 n0 Z0 F_EMAIL_ADDRESS_minLength F_EMAIL_ADDRESS_maxLength) (hb hby at_95) (lenOf own_pd2 rfl) (by decide) (by decide) (by rw [hml]; rfl) (Nat.le_of_eq rfl) (by decide) (by decide)
      obtain ⟨hv95, M95, e95⟩ := Q95
      rw [show (own_F4 a_EMAIL_ADDRESS ((255 : Int32) + (1 : Int32)) (1 : Int32) (255 : Int32)) = (0 : Int32) from rfl] at hv95
      subst hv95
      have N95 := Fr.app N94 M95
      refine Run.back (g' := (mkF m 98 #[.val (.int p0), .val (.int p1), .val (.int (10 : Int32)), .val (.ref a_EMAIL_ADDRESS), .val (.int (1 : Int32)), .val (.int (255 : Int32)), .val (.int (1 : Int32)), .val (.int (1 : Int32)), .val (.int (0 : Int32)), .val (.int (1 : Int32)), .unset, .unset] [(.int (0 : Int32))])) st95 ?_
      refine Run.ifYes (pc' := 105) X95 hx (hb hby at_98) ((if0 _ _).trans (teq (by decide : (0 : Int32) = (0 : Int32))).1) (by decide) (by decide) ?_
      refine Run.iconst (pc' := 106) (v := (0 : Int32)) X95 hx (hb hby at_105) rfl rfl ?_
      refine Run.istore (pc' := 108) X95 hx (l' := #[.val (.int p0), .val (.int p1), .val (.int (10 : Int32)), .val (.ref a_EMAIL_ADDRESS), .val (.int (1 : Int32)), .val (.int (255 : Int32)), .val (.int (1 : Int32)), .val (.int (1 : Int32)), .val (.int (0 : Int32)), .val (.int (1 : Int32)), .val (.int (0 : Int32)), .unset]) (hb hby at_106) rfl rfl ?_
      refine Run.aloadN (pc' := 109) X95 hx (hb hby at_108) rfl rfl ?_
      refine Run.ldcInt (pc' := 111) (v := (-2147483648 : Int32)) X95 hx hown (mvT hZ (hw _ (List.mem_of_getElem? (i := 23) rfl))) (hb hby at_109) rfl ?_
      obtain ⟨T96, L96, v96, X96, Q96, st96⟩ := callVirtual X95 hx (y := (⟨"com/example/certwright/certwright/x509/AttributeType", "fits", "(I)Z"⟩ : MethodName)) (z := (⟨"com/example/certwright/certwright/x509/AttributeType", "fits", "(I)Z"⟩ : MethodName)) (C := "com/example/certwright/certwright/x509/AttributeType") (a := a_EMAIL_ADDRESS) (Ls := #[.val (.int p0), .val (.int p1), .val (.int (10 : Int32)), .val (.ref a_EMAIL_ADDRESS), .val (.int (1 : Int32)), .val (.int (255 : Int32)), .val (.int (1 : Int32)), .val (.int (1 : Int32)), .val (.int (0 : Int32)), .val (.int (1 : Int32)), .val (.int (0 : Int32)), .unset]) (rest := []) (W := 0) (argsL := [(.int (-2147483648 : Int32))]) hZ hown (hw _ (List.mem_of_getElem? (i := 14) rfl)) (hw _ (List.mem_of_getElem? (i := 15) rfl)) (notFace_of_selects (args := #[]) (mvT hZ (hw _ (List.mem_of_getElem? (i := 17) rfl)))) (hw _ (List.mem_of_getElem? (i := 17) rfl)) (hw _ (List.mem_of_getElem? (i := 16) rfl)) (hw _ (List.mem_of_getElem? (i := 6) rfl)) (hw _ (List.mem_of_getElem? (i := 18) rfl)) (by decide) e95 E_EMAIL_ADDRESS (rm4 l Z a0 hw [] a_EMAIL_ADDRESS (-2147483648 : Int32) (1 : Int32) (255 : Int32) h0 n0 Z0 F_EMAIL_ADDRESS_minLength F_EMAIL_ADDRESS_maxLength) (hb hby at_111) (lenOf own_pd2 rfl) (by decide) (by decide) (by rw [hml]; rfl) (Nat.le_of_eq rfl) (by decide) (by decide)
      obtain ⟨hv96, M96, e96⟩ := Q96
      rw [show (own_F4 a_EMAIL_ADDRESS (-2147483648 : Int32) (1 : Int32) (255 : Int32)) = (0 : Int32) from rfl] at hv96
      subst hv96
      have N96 := Fr.app N95 M96
      refine Run.back (g' := (mkF m 114 #[.val (.int p0), .val (.int p1), .val (.int (10 : Int32)), .val (.ref a_EMAIL_ADDRESS), .val (.int (1 : Int32)), .val (.int (255 : Int32)), .val (.int (1 : Int32)), .val (.int (1 : Int32)), .val (.int (0 : Int32)), .val (.int (1 : Int32)), .val (.int (0 : Int32)), .unset] [(.int (0 : Int32))])) st96 ?_
      refine Run.istore (pc' := 116) X96 hx (l' := #[.val (.int p0), .val (.int p1), .val (.int (10 : Int32)), .val (.ref a_EMAIL_ADDRESS), .val (.int (1 : Int32)), .val (.int (255 : Int32)), .val (.int (1 : Int32)), .val (.int (1 : Int32)), .val (.int (0 : Int32)), .val (.int (1 : Int32)), .val (.int (0 : Int32)), .val (.int (0 : Int32))]) (hb hby at_114) rfl rfl ?_
      refine Run.iload (pc' := 118) X96 hx (hb hby at_116) rfl rfl ?_
      refine Run.ifNo (pc' := 121) X96 hx (hb hby at_118) ((if0 _ _).trans (feq (by decide : ¬ ((1 : Int32) = (0 : Int32)))).1) rfl ?_
      refine Run.iload (pc' := 123) X96 hx (hb hby at_121) rfl rfl ?_
      refine Run.ifNo (pc' := 126) X96 hx (hb hby at_123) ((if0 _ _).trans (feq (by decide : ¬ ((1 : Int32) = (0 : Int32)))).1) rfl ?_
      refine Run.iload (pc' := 128) X96 hx (hb hby at_126) rfl rfl ?_
      refine Run.ifNo (pc' := 131) X96 hx (hb hby at_128) ((if0 _ _).trans (teq (by decide : (0 : Int32) = (0 : Int32))).2) rfl ?_
      refine Run.iload (pc' := 133) X96 hx (hb hby at_131) rfl rfl ?_
      refine Run.ifNo (pc' := 136) X96 hx (hb hby at_133) ((if0 _ _).trans (feq (by decide : ¬ ((1 : Int32) = (0 : Int32)))).1) rfl ?_
      refine Run.iload (pc' := 138) X96 hx (hb hby at_136) rfl rfl ?_
      refine Run.ifNo (pc' := 141) X96 hx (hb hby at_138) ((if0 _ _).trans (teq (by decide : (0 : Int32) = (0 : Int32))).2) rfl ?_
      refine Run.iload (pc' := 143) X96 hx (hb hby at_141) rfl rfl ?_
      refine Run.ifNo (pc' := 146) X96 hx (hb hby at_143) ((if0 _ _).trans (teq (by decide : (0 : Int32) = (0 : Int32))).2) rfl ?_
      refine Run.iconst (pc' := 147) (v := (1 : Int32)) X96 hx (hb hby at_146) rfl rfl ?_
      refine Run.goto (pc' := 151) X96 hx (hb hby at_147) (by decide) (by decide) ?_
      exact Run.retSmall X96 hx (t := .boolean) (z' := (1 : Int32)) Bd.notSynchronized Bd.returns (by simp) rfl (hb hby at_151) ⟨rfl, N96⟩ (by decide) (by decide)
    refine Run.iloadN (pc' := 31) X91 hx (hb hby at_30) rfl rfl ?_
    refine Run.iload (pc' := 33) X91 hx (hb hby at_31) rfl rfl ?_
    by_cases hc33 : p1 < (1 : Int32)
    · skip
      refine Run.icmpYes (pc' := 46) X91 hx (hb hby at_33) (tlt hc33).1 (by decide) (by decide) ?_
      refine Run.iconst (pc' := 47) (v := (0 : Int32)) X91 hx (hb hby at_46) rfl rfl ?_
      refine Run.icmpNo (pc' := 50) X91 hx (hb hby at_47) (teq (by rw [own_F4, if_pos hc33]; rfl)).2 rfl ?_
      refine Run.iconst (pc' := 51) (v := (1 : Int32)) X91 hx (hb hby at_50) rfl rfl ?_
      refine Run.goto (pc' := 55) X91 hx (hb hby at_51) (by decide) (by decide) ?_
      exact J55 _ _ X91 e91 N91
    · skip
      refine Run.icmpNo (pc' := 36) X91 hx (hb hby at_33) (flt hc33).1 rfl ?_
      refine Run.iloadN (pc' := 37) X91 hx (hb hby at_36) rfl rfl ?_
      refine Run.iload (pc' := 39) X91 hx (hb hby at_37) rfl rfl ?_
      by_cases hc39 : (255 : Int32) < p1
      · skip
        refine Run.icmpYes (pc' := 46) X91 hx (hb hby at_39) (tlt hc39).2.2.1 (by decide) (by decide) ?_
        refine Run.iconst (pc' := 47) (v := (0 : Int32)) X91 hx (hb hby at_46) rfl rfl ?_
        refine Run.icmpNo (pc' := 50) X91 hx (hb hby at_47) (teq (by rw [own_F4, if_neg hc33, if_pos hc39]; rfl)).2 rfl ?_
        refine Run.iconst (pc' := 51) (v := (1 : Int32)) X91 hx (hb hby at_50) rfl rfl ?_
        refine Run.goto (pc' := 55) X91 hx (hb hby at_51) (by decide) (by decide) ?_
        exact J55 _ _ X91 e91 N91
      · skip
        refine Run.icmpNo (pc' := 42) X91 hx (hb hby at_39) (flt hc39).2.2.1 rfl ?_
        refine Run.iconst (pc' := 43) (v := (1 : Int32)) X91 hx (hb hby at_42) rfl rfl ?_
        refine Run.goto (pc' := 47) X91 hx (hb hby at_43) (by decide) (by decide) ?_
        refine Run.icmpNo (pc' := 50) X91 hx (hb hby at_47) (teq (by rw [own_F4, if_neg hc33, if_neg hc39]; rfl)).2 rfl ?_
        refine Run.iconst (pc' := 51) (v := (1 : Int32)) X91 hx (hb hby at_50) rfl rfl ?_
        refine Run.goto (pc' := 55) X91 hx (hb hby at_51) (by decide) (by decide) ?_
        exact J55 _ _ X91 e91 N91
set_option maxRecDepth 65536 in
set_option maxHeartbeats 40000000 in
theorem comes_1 {Post : Tables → Env → Array Value → State → Outcome → State → Prop} (hpost : ∀ tb e args s v u, (limb_1_1.after args s (.returned v) u = true ∧ limb_1_2.after args s (.returned v) u = true ∧ True) → FrameEnd s (.returned v) u (Jvm.fieldLocs frame_1_writes args s ++ Jvm.arrayLocs frame_1_arrays args s ++ Jvm.staticLocs frame_1_statics s) 0 0 → Post tb e args s (.returned v) u) :
    ArmFor flags0 classFile x code maxLocals ret World_1 tables_1 room_1 Calls_1 rest_1 Pre_1 Post := by
  intro l hfl _ _ p e ha hc hk s m args below hf hA hF happ hP
  obtain ⟨hcalls, hrest, hpre⟩ := hP
  obtain ⟨-, -, -, hnamed, -, -, -, hat⟩ := (Spec.applies_iff hf).mp happ
  obtain ⟨hg, hn⟩ := and_e (Cond.before_iff.mp (show (Jvm.Cond.and given_1 narrow_1).before args s = true from hpre))
  obtain ⟨hcount, hg0⟩ := and_e hg
  obtain ⟨ha0, hg1⟩ := and_e hg0
  obtain ⟨w0, w1, rfl⟩ : ∃ w0 w1 : Value, args = #[w0, w1] := by
    have hs : args.size = 2 := by simpa [Cond.value, given_1] using hcount
    obtain ⟨L⟩ := args
    match L, hs with
    | [w0, w1], _ => exact ⟨w0, w1, rfl⟩
  have hw := fun d (hd : d ∈ tables_1) => atoms_spec (ws := Jvm.Cond.code x code maxLocals ret :: tables_1) hat d (List.mem_cons_of_mem _ hd)
  have hfit : Fit s := fun {y c} hc i hi => by
    obtain ⟨ha, rfl⟩ := Array.getElem?_eq_some_iff.mp hc
    have q := List.all_eq_true.mp ((Array.all_eq_true_iff_forall_mem.mp hF) _ (Array.getElem_mem ha)) i (List.mem_range.mpr hi)
    simpa [Array.getElem?_eq_getElem hi] using q
  obtain ⟨i0, ei0⟩ := is_v ha0
  obtain rfl : w0 = (.int i0) := Option.some.inj ei0
  obtain ⟨i1, ei1⟩ := is_v hg1
  obtain rfl : w1 = (.int i1) := Option.some.inj ei1
  obtain ⟨n0, nr0⟩ := and_e hn
  obtain ⟨n1, nr1⟩ := and_e nr0
  obtain ⟨n2, nr2⟩ := and_e nr1
  obtain ⟨n3, nr3⟩ := and_e nr2
  obtain ⟨n4, nr4⟩ := and_e nr3
  obtain ⟨n5, nr5⟩ := and_e nr4
  obtain ⟨n6, nr6⟩ := and_e nr5
  obtain ⟨n7, nr7⟩ := and_e nr6
  obtain ⟨n8, nr8⟩ := and_e nr7
  obtain ⟨n9, nr9⟩ := and_e nr8
  obtain ⟨n10, nr10⟩ := and_e nr9
  obtain ⟨n11, nr11⟩ := and_e nr10
  obtain ⟨n12, nr12⟩ := and_e nr11
  obtain ⟨n13, nr13⟩ := and_e nr12
  obtain ⟨n14, nr14⟩ := and_e nr13
  obtain ⟨n15, nr15⟩ := and_e nr14
  obtain ⟨n16, nr16⟩ := and_e nr15
  obtain ⟨n17, nr17⟩ := and_e nr16
  obtain ⟨n18, nr18⟩ := and_e nr17
  obtain ⟨n19, nr19⟩ := and_e nr18
  obtain ⟨n20, nr20⟩ := and_e nr19
  obtain ⟨n21, nr21⟩ := and_e nr20
  obtain ⟨n22, nr22⟩ := and_e nr21
  obtain ⟨n23, nr23⟩ := and_e nr22
  obtain ⟨n24, nr24⟩ := and_e nr23
  obtain ⟨n25, nr25⟩ := and_e nr24
  obtain ⟨n26, nr26⟩ := and_e nr25
  obtain ⟨n27, nr27⟩ := and_e nr26
  obtain ⟨n28, nr28⟩ := and_e nr27
  obtain ⟨n29, nr29⟩ := and_e nr28
  obtain ⟨n30, nr30⟩ := and_e nr29
  obtain ⟨n31, nr31⟩ := and_e nr30
  have n32 := nr31
  obtain ⟨a_COMMON_NAME, e_COMMON_NAME⟩ := exa_v n0
  have E_COMMON_NAME : Exa s s.heap a_COMMON_NAME "com/example/certwright/certwright/x509/AttributeType" := Exa.start e_COMMON_NAME n0
  have S_COMMON_NAME : Sta s s.heap "com/example/certwright/certwright/x509/AttributeType" "COMMON_NAME" "Lcom/example/certwright/certwright/x509/AttributeType;" (.ref a_COMMON_NAME) := Sta.start e_COMMON_NAME (Or.inr ⟨(hw _ (List.mem_of_getElem? (i := 6) rfl)), (hw _ (List.mem_of_getElem? (i := 7) rfl))⟩)
  obtain ⟨a_ORGANIZATION, e_ORGANIZATION⟩ := exa_v n3
  have E_ORGANIZATION : Exa s s.heap a_ORGANIZATION "com/example/certwright/certwright/x509/AttributeType" := Exa.start e_ORGANIZATION n3
  have S_ORGANIZATION : Sta s s.heap "com/example/certwright/certwright/x509/AttributeType" "ORGANIZATION" "Lcom/example/certwright/certwright/x509/AttributeType;" (.ref a_ORGANIZATION) := Sta.start e_ORGANIZATION (Or.inr ⟨(hw _ (List.mem_of_getElem? (i := 6) rfl)), (hw _ (List.mem_of_getElem? (i := 25) rfl))⟩)
  obtain ⟨a_SERIAL_NUMBER, e_SERIAL_NUMBER⟩ := exa_v n6
  have E_SERIAL_NUMBER : Exa s s.heap a_SERIAL_NUMBER "com/example/certwright/certwright/x509/AttributeType" := Exa.start e_SERIAL_NUMBER n6
  have S_SERIAL_NUMBER : Sta s s.heap "com/example/certwright/certwright/x509/AttributeType" "SERIAL_NUMBER" "Lcom/example/certwright/certwright/x509/AttributeType;" (.ref a_SERIAL_NUMBER) := Sta.start e_SERIAL_NUMBER (Or.inr ⟨(hw _ (List.mem_of_getElem? (i := 6) rfl)), (hw _ (List.mem_of_getElem? (i := 27) rfl))⟩)
  obtain ⟨a_COUNTRY, e_COUNTRY⟩ := exa_v n9
  have E_COUNTRY : Exa s s.heap a_COUNTRY "com/example/certwright/certwright/x509/AttributeType" := Exa.start e_COUNTRY n9
  have S_COUNTRY : Sta s s.heap "com/example/certwright/certwright/x509/AttributeType" "COUNTRY" "Lcom/example/certwright/certwright/x509/AttributeType;" (.ref a_COUNTRY) := Sta.start e_COUNTRY (Or.inr ⟨(hw _ (List.mem_of_getElem? (i := 6) rfl)), (hw _ (List.mem_of_getElem? (i := 29) rfl))⟩)
  obtain ⟨a_STREET, e_STREET⟩ := exa_v n12
  have E_STREET : Exa s s.heap a_STREET "com/example/certwright/certwright/x509/AttributeType" := Exa.start e_STREET n12
  have S_STREET : Sta s s.heap "com/example/certwright/certwright/x509/AttributeType" "STREET" "Lcom/example/certwright/certwright/x509/AttributeType;" (.ref a_STREET) := Sta.start e_STREET (Or.inr ⟨(hw _ (List.mem_of_getElem? (i := 6) rfl)), (hw _ (List.mem_of_getElem? (i := 31) rfl))⟩)
  obtain ⟨a_USER_ID, e_USER_ID⟩ := exa_v n15
  have E_USER_ID : Exa s s.heap a_USER_ID "com/example/certwright/certwright/x509/AttributeType" := Exa.start e_USER_ID n15
  have S_USER_ID : Sta s s.heap "com/example/certwright/certwright/x509/AttributeType" "USER_ID" "Lcom/example/certwright/certwright/x509/AttributeType;" (.ref a_USER_ID) := Sta.start e_USER_ID (Or.inr ⟨(hw _ (List.mem_of_getElem? (i := 6) rfl)), (hw _ (List.mem_of_getElem? (i := 33) rfl))⟩)
  obtain ⟨a_LOCALITY, e_LOCALITY⟩ := exa_v n18
  have E_LOCALITY : Exa s s.heap a_LOCALITY "com/example/certwright/certwright/x509/AttributeType" := Exa.start e_LOCALITY n18
  have S_LOCALITY : Sta s s.heap "com/example/certwright/certwright/x509/AttributeType" "LOCALITY" "Lcom/example/certwright/certwright/x509/AttributeType;" (.ref a_LOCALITY) := Sta.start e_LOCALITY (Or.inr ⟨(hw _ (List.mem_of_getElem? (i := 6) rfl)), (hw _ (List.mem_of_getElem? (i := 35) rfl))⟩)
  obtain ⟨a_STATE_OR_PROVINCE, e_STATE_OR_PROVINCE⟩ := exa_v n21
  have E_STATE_OR_PROVINCE : Exa s s.heap a_STATE_OR_PROVINCE "com/example/certwright/certwright/x509/AttributeType" := Exa.start e_STATE_OR_PROVINCE n21
  have S_STATE_OR_PROVINCE : Sta s s.heap "com/example/certwright/certwright/x509/AttributeType" "STATE_OR_PROVINCE" "Lcom/example/certwright/certwright/x509/AttributeType;" (.ref a_STATE_OR_PROVINCE) := Sta.start e_STATE_OR_PROVINCE (Or.inr ⟨(hw _ (List.mem_of_getElem? (i := 6) rfl)), (hw _ (List.mem_of_getElem? (i := 37) rfl))⟩)
  obtain ⟨a_EMAIL_ADDRESS, e_EMAIL_ADDRESS⟩ := exa_v n24
  have E_EMAIL_ADDRESS : Exa s s.heap a_EMAIL_ADDRESS "com/example/certwright/certwright/x509/AttributeType" := Exa.start e_EMAIL_ADDRESS n24
  have S_EMAIL_ADDRESS : Sta s s.heap "com/example/certwright/certwright/x509/AttributeType" "EMAIL_ADDRESS" "Lcom/example/certwright/certwright/x509/AttributeType;" (.ref a_EMAIL_ADDRESS) := Sta.start e_EMAIL_ADDRESS (Or.inr ⟨(hw _ (List.mem_of_getElem? (i := 6) rfl)), (hw _ (List.mem_of_getElem? (i := 39) rfl))⟩)
  obtain ⟨a_DOMAIN_COMPONENT, e_DOMAIN_COMPONENT⟩ := exa_v n27
  have E_DOMAIN_COMPONENT : Exa s s.heap a_DOMAIN_COMPONENT "com/example/certwright/certwright/x509/AttributeType" := Exa.start e_DOMAIN_COMPONENT n27
  have S_DOMAIN_COMPONENT : Sta s s.heap "com/example/certwright/certwright/x509/AttributeType" "DOMAIN_COMPONENT" "Lcom/example/certwright/certwright/x509/AttributeType;" (.ref a_DOMAIN_COMPONENT) := Sta.start e_DOMAIN_COMPONENT (Or.inr ⟨(hw _ (List.mem_of_getElem? (i := 6) rfl)), (hw _ (List.mem_of_getElem? (i := 41) rfl))⟩)
  obtain ⟨a_ORGANIZATIONAL_UNIT, e_ORGANIZATIONAL_UNIT⟩ := exa_v n30
  have E_ORGANIZATIONAL_UNIT : Exa s s.heap a_ORGANIZATIONAL_UNIT "com/example/certwright/certwright/x509/AttributeType" := Exa.start e_ORGANIZATIONAL_UNIT n30
  have S_ORGANIZATIONAL_UNIT : Sta s s.heap "com/example/certwright/certwright/x509/AttributeType" "ORGANIZATIONAL_UNIT" "Lcom/example/certwright/certwright/x509/AttributeType;" (.ref a_ORGANIZATIONAL_UNIT) := Sta.start e_ORGANIZATIONAL_UNIT (Or.inr ⟨(hw _ (List.mem_of_getElem? (i := 6) rfl)), (hw _ (List.mem_of_getElem? (i := 43) rfl))⟩)
  have F_COMMON_NAME_minLength : Fld s s.heap a_COMMON_NAME "com/example/certwright/certwright/x509/AttributeType" "minLength" "I" (.int 1) := Fld.start ((fld_at e_COMMON_NAME).symm.trans (eqv_i (Term.int_eval 1) n1))
  have F_COMMON_NAME_maxLength : Fld s s.heap a_COMMON_NAME "com/example/certwright/certwright/x509/AttributeType" "maxLength" "I" (.int 64) := Fld.start ((fld_at e_COMMON_NAME).symm.trans (eqv_i (Term.int_eval 64) n2))
  have F_ORGANIZATION_minLength : Fld s s.heap a_ORGANIZATION "com/example/certwright/certwright/x509/AttributeType" "minLength" "I" (.int 1) := Fld.start ((fld_at e_ORGANIZATION).symm.trans (eqv_i (Term.int_eval 1) n4))
  have F_ORGANIZATION_maxLength : Fld s s.heap a_ORGANIZATION "com/example/certwright/certwright/x509/AttributeType" "maxLength" "I" (.int 64) := Fld.start ((fld_at e_ORGANIZATION).symm.trans (eqv_i (Term.int_eval 64) n5))
  have F_SERIAL_NUMBER_minLength : Fld s s.heap a_SERIAL_NUMBER "com/example/certwright/certwright/x509/AttributeType" "minLength" "I" (.int 1) := Fld.start ((fld_at e_SERIAL_NUMBER).symm.trans (eqv_i (Term.int_eval 1) n7))
  have F_SERIAL_NUMBER_maxLength : Fld s s.heap a_SERIAL_NUMBER "com/example/certwright/certwright/x509/AttributeType" "maxLength" "I" (.int 64) := Fld.start ((fld_at e_SERIAL_NUMBER).symm.trans (eqv_i (Term.int_eval 64) n8))
  have F_COUNTRY_minLength : Fld s s.heap a_COUNTRY "com/example/certwright/certwright/x509/AttributeType" "minLength" "I" (.int 2) := Fld.start ((fld_at e_COUNTRY).symm.trans (eqv_i (Term.int_eval 2) n10))
  have F_COUNTRY_maxLength : Fld s s.heap a_COUNTRY "com/example/certwright/certwright/x509/AttributeType" "maxLength" "I" (.int 2) := Fld.start ((fld_at e_COUNTRY).symm.trans (eqv_i (Term.int_eval 2) n11))
  have F_STREET_minLength : Fld s s.heap a_STREET "com/example/certwright/certwright/x509/AttributeType" "minLength" "I" (.int 1) := Fld.start ((fld_at e_STREET).symm.trans (eqv_i (Term.int_eval 1) n13))
  have F_STREET_maxLength : Fld s s.heap a_STREET "com/example/certwright/certwright/x509/AttributeType" "maxLength" "I" (.int 2147483647) := Fld.start ((fld_at e_STREET).symm.trans (eqv_i (Term.int_eval 2147483647) n14))
  have F_USER_ID_minLength : Fld s s.heap a_USER_ID "com/example/certwright/certwright/x509/AttributeType" "minLength" "I" (.int 1) := Fld.start ((fld_at e_USER_ID).symm.trans (eqv_i (Term.int_eval 1) n16))
  have F_USER_ID_maxLength : Fld s s.heap a_USER_ID "com/example/certwright/certwright/x509/AttributeType" "maxLength" "I" (.int 2147483647) := Fld.start ((fld_at e_USER_ID).symm.trans (eqv_i (Term.int_eval 2147483647) n17))
  have F_LOCALITY_minLength : Fld s s.heap a_LOCALITY "com/example/certwright/certwright/x509/AttributeType" "minLength" "I" (.int 1) := Fld.start ((fld_at e_LOCALITY).symm.trans (eqv_i (Term.int_eval 1) n19))
  have F_LOCALITY_maxLength : Fld s s.heap a_LOCALITY "com/example/certwright/certwright/x509/AttributeType" "maxLength" "I" (.int 128) := Fld.start ((fld_at e_LOCALITY).symm.trans (eqv_i (Term.int_eval 128) n20))
  have F_STATE_OR_PROVINCE_minLength : Fld s s.heap a_STATE_OR_PROVINCE "com/example/certwright/certwright/x509/AttributeType" "minLength" "I" (.int 1) := Fld.start ((fld_at e_STATE_OR_PROVINCE).symm.trans (eqv_i (Term.int_eval 1) n22))
  have F_STATE_OR_PROVINCE_maxLength : Fld s s.heap a_STATE_OR_PROVINCE "com/example/certwright/certwright/x509/AttributeType" "maxLength" "I" (.int 128) := Fld.start ((fld_at e_STATE_OR_PROVINCE).symm.trans (eqv_i (Term.int_eval 128) n23))
  have F_EMAIL_ADDRESS_minLength : Fld s s.heap a_EMAIL_ADDRESS "com/example/certwright/certwright/x509/AttributeType" "minLength" "I" (.int 1) := Fld.start ((fld_at e_EMAIL_ADDRESS).symm.trans (eqv_i (Term.int_eval 1) n25))
  have F_EMAIL_ADDRESS_maxLength : Fld s s.heap a_EMAIL_ADDRESS "com/example/certwright/certwright/x509/AttributeType" "maxLength" "I" (.int 255) := Fld.start ((fld_at e_EMAIL_ADDRESS).symm.trans (eqv_i (Term.int_eval 255) n26))
  have F_DOMAIN_COMPONENT_minLength : Fld s s.heap a_DOMAIN_COMPONENT "com/example/certwright/certwright/x509/AttributeType" "minLength" "I" (.int 1) := Fld.start ((fld_at e_DOMAIN_COMPONENT).symm.trans (eqv_i (Term.int_eval 1) n28))
  have F_DOMAIN_COMPONENT_maxLength : Fld s s.heap a_DOMAIN_COMPONENT "com/example/certwright/certwright/x509/AttributeType" "maxLength" "I" (.int 2147483647) := Fld.start ((fld_at e_DOMAIN_COMPONENT).symm.trans (eqv_i (Term.int_eval 2147483647) n29))
  have F_ORGANIZATIONAL_UNIT_minLength : Fld s s.heap a_ORGANIZATIONAL_UNIT "com/example/certwright/certwright/x509/AttributeType" "minLength" "I" (.int 1) := Fld.start ((fld_at e_ORGANIZATIONAL_UNIT).symm.trans (eqv_i (Term.int_eval 1) n31))
  have F_ORGANIZATIONAL_UNIT_maxLength : Fld s s.heap a_ORGANIZATIONAL_UNIT "com/example/certwright/certwright/x509/AttributeType" "maxLength" "I" (.int 64) := Fld.start ((fld_at e_ORGANIZATIONAL_UNIT).symm.trans (eqv_i (Term.int_eval 64) n32))
  obtain ⟨n, o, h1, h2, h3, _, L, rfl, ⟨rfl, N⟩, hq⟩ := rm0 l s _ hw tables_1 i0 i1 a_COMMON_NAME a_LOCALITY a_STATE_OR_PROVINCE a_ORGANIZATION a_ORGANIZATIONAL_UNIT a_COUNTRY a_STREET a_DOMAIN_COMPONENT a_USER_ID a_SERIAL_NUMBER a_EMAIL_ADDRESS s.heap s.heap.size (Nat.le_refl _) S_COMMON_NAME S_LOCALITY S_STATE_OR_PROVINCE S_ORGANIZATION S_ORGANIZATIONAL_UNIT S_COUNTRY S_STREET S_DOMAIN_COMPONENT S_USER_ID S_SERIAL_NUMBER S_EMAIL_ADDRESS E_COMMON_NAME E_LOCALITY E_STATE_OR_PROVINCE E_ORGANIZATION E_ORGANIZATIONAL_UNIT E_COUNTRY E_STREET E_DOMAIN_COMPONENT E_USER_ID E_SERIAL_NUMBER E_EMAIL_ADDRESS F_COMMON_NAME_minLength F_COMMON_NAME_maxLength F_LOCALITY_minLength F_LOCALITY_maxLength F_STATE_OR_PROVINCE_minLength F_STATE_OR_PROVINCE_maxLength F_ORGANIZATION_minLength F_ORGANIZATION_maxLength F_ORGANIZATIONAL_UNIT_minLength F_ORGANIZATIONAL_UNIT_maxLength F_COUNTRY_minLength F_COUNTRY_maxLength F_STREET_minLength F_STREET_maxLength F_DOMAIN_COMPONENT_minLength F_DOMAIN_COMPONENT_maxLength F_USER_ID_minLength F_USER_ID_maxLength F_SERIAL_NUMBER_minLength F_SERIAL_NUMBER_maxLength F_EMAIL_ADDRESS_minLength F_EMAIL_ADDRESS_maxLength p e ha hc hk s m _ below hf ((Spec.applies_iff_loose hf).mp happ).1 ⟨rfl, State.Warmed39.refl s, rfl⟩ trivial
  refine ⟨n, _, h1, h2, h3, hpost _ _ _ _ _ _ ⟨Cond.after_iff.mpr rfl, Cond.after_iff.mpr (eq_i res_at (Term.int_eval (1)) rfl), trivial⟩ ⟨hq.1, hq.2.1, (hq.2.2.sift fun y hy => Or.inr (N y hy)).mono (by decide) (by decide)⟩⟩
theorem main_1_1 : Claimed_1_1 := comes_1 fun _ _ _ _ _ _ h hF => ⟨h.1, hF⟩
theorem main_1_2 : Claimed_1_2 := comes_1 fun _ _ _ _ _ _ h hF => ⟨h.2.1, hF⟩
end Jvm.Pilot.@@N@@
namespace Jvm.Pilot.@@N@@
open Jvm Jvm.ClassFile Sem Op Lib Jvm.Free Jvm.Stand Jvm.Pilot.@@N@@.Jvm.D
/-! MADE BY PROGRAM (witnessworld.py) out of the Statement's table words and the real class files: 12 classes; the members and pool entries that the words name. The judged class is class 1, her method 4. -/
namespace start1
open Jvm.ClassFile
def u (s : String) : CpInfo := .utf8 (stringToUtf16 s)
/-- a pool by its gaps: so many unusable entries, then the entry; so many at the end -/
def gap : Nat → List CpInfo → List CpInfo
  | 0, r => r
  | n + 1, r => .unusable :: gap n r
def poolList (es : List (Nat × CpInfo)) (last : Nat) : List CpInfo := es.foldr (fun e r => gap e.1 (e.2 :: r)) (gap last [])
def pool (es : List (Nat × CpInfo)) (last : Nat) : Array CpInfo := ⟨poolList es last⟩
def fileOf (pool : Array CpInfo) (this : Nat) (attrs : Array Attribute := #[]) (ms : Array MethodInfo := #[]) (fl : Nat := 33) (sup : Nat := 0) (ifs : Array Nat := #[]) (fds : Array FieldInfo := #[]) : ClassFile where
  minorVersion := 0
  majorVersion := 65
  constantPool := pool
  accessFlags := fl
  thisClass := this
  superClass := sup
  interfaces := ifs
  fields := fds
  methods := ms
  attributes := attrs
def plain (name : String) (sup : Option ClassId) : Class where
  name := name
  kind := .ordinary
  loader := none
  accessFlags := 33
  super := sup
  interfaces := #[]
  cf := none
  fields := #[]
  methods := #[]
  instanceTypes := #[]
  staticTypes := #[]
  resolved := #[]
  callSites := []
  init := .initialized
  statics := none
  mirror := none

def pool0 : Array CpInfo := pool [(5, u "<init>"), (0, u "()V"), (1, .class_ 10), (1, u "java/lang/Object")] 113

def k0m0 : Method := { name := "<init>", desc := "()V", sig := { parameters := [], returnType := none }, accessFlags := 1, code := none }
/-- java/lang/Object -/
def k0 : Class := { plain "java/lang/Object" none with
  accessFlags := 33
  interfaces := #[]
  cf := some (fileOf pool0 8 #[] #[{ accessFlags := 1, nameIndex := 5, descriptorIndex := 6, attributes := #[] }] 33 0 #[] #[])
  fields := #[]
  methods := #[k0m0]
  instanceTypes := #[]
  staticTypes := #[]
  resolved := Array.replicate 124 none
  statics := none }

def pool1 : Array CpInfo := pool [(2, .class_ 4), (1, u "java/lang/Object"), (0, u "<init>"), (0, u "()V"), (0, .fieldref 8 9), (0, .class_ 10), (0, .nameAndType 11 12), (0, u "com/example/certwright/certwright/x509/AttributeType"), (0, u "COMMON_NAME"), (0, u "Lcom/example/certwright/certwright/x509/AttributeType;"), (0, .fieldref 8 14), (0, .nameAndType 15 12), (0, u "LOCALITY"), (0, .fieldref 8 17), (0, .nameAndType 18 12), (0, u "STATE_OR_PROVINCE"), (0, .fieldref 8 20), (0, .nameAndType 21 12), (0, u "ORGANIZATION"), (0, .fieldref 8 23), (0, .nameAndType 24 12), (0, u "ORGANIZATIONAL_UNIT"), (0, .fieldref 8 26), (0, .nameAndType 27 12), (0, u "COUNTRY"), (0, .fieldref 8 29), (0, .nameAndType 30 12), (0, u "STREET"), (0, .fieldref 8 32), (0, .nameAndType 33 12), (0, u "DOMAIN_COMPONENT"), (0, .fieldref 8 35), (0, .nameAndType 36 12), (0, u "USER_ID"), (0, .fieldref 8 38), (0, .nameAndType 39 12), (0, u "SERIAL_NUMBER"), (0, .fieldref 8 41), (0, .nameAndType 42 12), (0, u "EMAIL_ADDRESS"), (2, .integer 2147483647), (0, .methodref 47 48), (0, .class_ 49), (0, .nameAndType 50 51), (0, u "com/example/certwright/certwright/x509/AttributeTypeFitsPinLaw"), (0, u "type"), (0, u "(I)Lcom/example/certwright/certwright/x509/AttributeType;"), (0, .methodref 47 53), (0, .nameAndType 54 55), (0, u "low"), (0, u "(I)I"), (0, .methodref 47 57), (0, .nameAndType 58 55), (0, u "high"), (0, .methodref 8 60), (0, .nameAndType 61 62), (0, u "fits"), (0, u "(I)Z"), (0, .integer 2147483648), (3, u "law"), (0, u "(II)Z")] 2

def k1m0 : Method := { name := "<init>", desc := "()V", sig := { parameters := [], returnType := none }, accessFlags := 1, code := none }
def k1c1 : Code := { maxStack := 2, maxLocals := 1, code := method_2_code, exceptionTable := #[], attributes := #[] }
def k1m1 : Method := { name := "type", desc := "(I)Lcom/example/certwright/certwright/x509/AttributeType;", sig := { parameters := [.int], returnType := some (.object "com/example/certwright/certwright/x509/AttributeType") }, accessFlags := 10, code := some k1c1 }
def k1c2 : Code := { maxStack := 2, maxLocals := 1, code := method_3_code, exceptionTable := #[], attributes := #[] }
def k1m2 : Method := { name := "low", desc := "(I)I", sig := { parameters := [.int], returnType := some .int }, accessFlags := 10, code := some k1c2 }
def k1c3 : Code := { maxStack := 2, maxLocals := 1, code := method_4_code, exceptionTable := #[], attributes := #[] }
def k1m3 : Method := { name := "high", desc := "(I)I", sig := { parameters := [.int], returnType := some .int }, accessFlags := 10, code := some k1c3 }
def k1c4 : Code := { maxStack := 3, maxLocals := 12, code := code, exceptionTable := #[], attributes := #[] }
def k1m4 : Method := { name := "law", desc := "(II)Z", sig := { parameters := [.int, .int], returnType := some .boolean }, accessFlags := 9, code := some k1c4 }
/-- com/example/certwright/certwright/x509/AttributeTypeFitsPinLaw -/
def k1 : Class := { plain "com/example/certwright/certwright/x509/AttributeTypeFitsPinLaw" (some 0) with
  accessFlags := 49
  interfaces := #[]
  cf := some (fileOf pool1 47 #[] #[{ accessFlags := 1, nameIndex := 5, descriptorIndex := 6, attributes := #[] }, { accessFlags := 10, nameIndex := 50, descriptorIndex := 51, attributes := #[] }, { accessFlags := 10, nameIndex := 54, descriptorIndex := 55, attributes := #[] }, { accessFlags := 10, nameIndex := 58, descriptorIndex := 55, attributes := #[] }, { accessFlags := 9, nameIndex := 67, descriptorIndex := 68, attributes := #[] }] 49 2 #[] #[])
  fields := #[]
  methods := #[k1m0, k1m1, k1m2, k1m3, k1m4]
  instanceTypes := #[]
  staticTypes := #[]
  resolved := Array.replicate 71 none
  statics := none }

def pool2 : Array CpInfo := pool [(1, .class_ 2), (0, u "java/lang/constant/Constable"), (0, .class_ 4), (0, u "java/lang/Object")] 6

/-- java/lang/constant/Constable -/
def k2 : Class := { plain "java/lang/constant/Constable" (some 0) with
  accessFlags := 1537
  interfaces := #[]
  cf := some (fileOf pool2 1 #[] #[] 1537 3 #[] #[])
  fields := #[]
  methods := #[]
  instanceTypes := #[]
  staticTypes := #[]
  resolved := Array.replicate 11 none
  statics := none }

def pool3 : Array CpInfo := pool [(1, .class_ 2), (0, u "java/lang/Comparable"), (0, .class_ 4), (0, u "java/lang/Object")] 7

/-- java/lang/Comparable -/
def k3 : Class := { plain "java/lang/Comparable" (some 0) with
  accessFlags := 1537
  interfaces := #[]
  cf := some (fileOf pool3 1 #[] #[] 1537 3 #[] #[])
  fields := #[]
  methods := #[]
  instanceTypes := #[]
  staticTypes := #[]
  resolved := Array.replicate 12 none
  statics := none }

def pool4 : Array CpInfo := pool [(1, .class_ 2), (0, u "java/io/Serializable"), (0, .class_ 4), (0, u "java/lang/Object")] 2

/-- java/io/Serializable -/
def k4 : Class := { plain "java/io/Serializable" (some 0) with
  accessFlags := 1537
  interfaces := #[]
  cf := some (fileOf pool4 1 #[] #[] 1537 3 #[] #[])
  fields := #[]
  methods := #[]
  instanceTypes := #[]
  staticTypes := #[]
  resolved := Array.replicate 7 none
  statics := none }

def pool5 : Array CpInfo := pool [(2, .class_ 4), (1, u "java/lang/Enum"), (0, u "name"), (0, u "Ljava/lang/String;"), (2, u "ordinal"), (0, u "I"), (1, .class_ 14), (1, u "java/lang/Object"), (4, u "hash"), (86, .class_ 108), (1, u "java/lang/Enum$EnumDesc"), (2, .class_ 112), (0, u "java/lang/constant/Constable"), (0, .class_ 114), (0, u "java/lang/Comparable"), (0, .class_ 116), (0, u "java/io/Serializable")] 87

/-- java/lang/Enum -/
def k5 : Class := { plain "java/lang/Enum" (some 0) with
  accessFlags := 1057
  interfaces := #[2, 3, 4]
  cf := some (fileOf pool5 2 #[.nestMembers #[106]] #[] 1057 12 #[111, 113, 115] #[{ accessFlags := 18, nameIndex := 5, descriptorIndex := 6, attributes := #[] }, { accessFlags := 18, nameIndex := 9, descriptorIndex := 10, attributes := #[] }, { accessFlags := 2, nameIndex := 19, descriptorIndex := 10, attributes := #[] }])
  fields := #[{ name := "name", type := (.object "java/lang/String"), accessFlags := 18, slot := 0, constantValue := 0 }, { name := "ordinal", type := .int, accessFlags := 18, slot := 1, constantValue := 0 }, { name := "hash", type := .int, accessFlags := 2, slot := 2, constantValue := 0 }]
  methods := #[]
  instanceTypes := #[(.object "java/lang/String"), .int, .int]
  staticTypes := #[]
  resolved := Array.replicate 204 none
  statics := none }

def pool6 : Array CpInfo := pool [(1, .class_ 2), (0, u "com/example/certwright/certwright/x509/AttributeType"), (2, u "COMMON_NAME"), (0, u "Lcom/example/certwright/certwright/x509/AttributeType;"), (2, u "LOCALITY"), (2, u "STATE_OR_PROVINCE"), (2, u "ORGANIZATION"), (2, u "ORGANIZATIONAL_UNIT"), (2, u "COUNTRY"), (2, u "STREET"), (2, u "DOMAIN_COMPONENT"), (2, u "USER_ID"), (2, u "SERIAL_NUMBER"), (2, u "EMAIL_ADDRESS"), (2, u "$VALUES"), (0, u "[Lcom/example/certwright/certwright/x509/AttributeType;"), (6, .class_ 49), (1, u "java/lang/Enum"), (8, u "oid"), (0, u "Ljava/lang/String;"), (2, u "keyword"), (2, u "stringTag"), (0, u "I"), (0, .fieldref 1 68), (0, .nameAndType 69 66), (0, u "minLength"), (0, .fieldref 1 71), (0, .nameAndType 72 66), (0, u "maxLength"), (2, u "BY_OID"), (0, u "Ljava/util/Map;"), (14, u "BY_KEYWORD"), (129, u "fits"), (0, u "(I)Z")] 44

def k6c0 : Code := { maxStack := 2, maxLocals := 2, code := prog_70_method_9_code, exceptionTable := #[], attributes := #[] }
def k6m0 : Method := { name := "fits", desc := "(I)Z", sig := { parameters := [.int], returnType := some .boolean }, accessFlags := 0, code := some k6c0 }
/-- com/example/certwright/certwright/x509/AttributeType -/
def k6 : Class := { plain "com/example/certwright/certwright/x509/AttributeType" (some 5) with
  accessFlags := 16432
  interfaces := #[]
  cf := some (fileOf pool6 1 #[] #[{ accessFlags := 0, nameIndex := 221, descriptorIndex := 222, attributes := #[] }] 16432 47 #[] #[{ accessFlags := 16409, nameIndex := 5, descriptorIndex := 6, attributes := #[] }, { accessFlags := 16409, nameIndex := 9, descriptorIndex := 6, attributes := #[] }, { accessFlags := 16409, nameIndex := 12, descriptorIndex := 6, attributes := #[] }, { accessFlags := 16409, nameIndex := 15, descriptorIndex := 6, attributes := #[] }, { accessFlags := 16409, nameIndex := 18, descriptorIndex := 6, attributes := #[] }, { accessFlags := 16409, nameIndex := 21, descriptorIndex := 6, attributes := #[] }, { accessFlags := 16409, nameIndex := 24, descriptorIndex := 6, attributes := #[] }, { accessFlags := 16409, nameIndex := 27, descriptorIndex := 6, attributes := #[] }, { accessFlags := 16409, nameIndex := 30, descriptorIndex := 6, attributes := #[] }, { accessFlags := 16409, nameIndex := 33, descriptorIndex := 6, attributes := #[] }, { accessFlags := 16409, nameIndex := 36, descriptorIndex := 6, attributes := #[] }, { accessFlags := 26, nameIndex := 75, descriptorIndex := 76, attributes := #[] }, { accessFlags := 26, nameIndex := 91, descriptorIndex := 76, attributes := #[] }, { accessFlags := 18, nameIndex := 58, descriptorIndex := 59, attributes := #[] }, { accessFlags := 18, nameIndex := 62, descriptorIndex := 59, attributes := #[] }, { accessFlags := 18, nameIndex := 65, descriptorIndex := 66, attributes := #[] }, { accessFlags := 18, nameIndex := 69, descriptorIndex := 66, attributes := #[] }, { accessFlags := 18, nameIndex := 72, descriptorIndex := 66, attributes := #[] }, { accessFlags := 4122, nameIndex := 39, descriptorIndex := 40, attributes := #[] }])
  fields := #[{ name := "COMMON_NAME", type := (.object "com/example/certwright/certwright/x509/AttributeType"), accessFlags := 16409, slot := 0, constantValue := 0 }, { name := "LOCALITY", type := (.object "com/example/certwright/certwright/x509/AttributeType"), accessFlags := 16409, slot := 1, constantValue := 0 }, { name := "STATE_OR_PROVINCE", type := (.object "com/example/certwright/certwright/x509/AttributeType"), accessFlags := 16409, slot := 2, constantValue := 0 }, { name := "ORGANIZATION", type := (.object "com/example/certwright/certwright/x509/AttributeType"), accessFlags := 16409, slot := 3, constantValue := 0 }, { name := "ORGANIZATIONAL_UNIT", type := (.object "com/example/certwright/certwright/x509/AttributeType"), accessFlags := 16409, slot := 4, constantValue := 0 }, { name := "COUNTRY", type := (.object "com/example/certwright/certwright/x509/AttributeType"), accessFlags := 16409, slot := 5, constantValue := 0 }, { name := "STREET", type := (.object "com/example/certwright/certwright/x509/AttributeType"), accessFlags := 16409, slot := 6, constantValue := 0 }, { name := "DOMAIN_COMPONENT", type := (.object "com/example/certwright/certwright/x509/AttributeType"), accessFlags := 16409, slot := 7, constantValue := 0 }, { name := "USER_ID", type := (.object "com/example/certwright/certwright/x509/AttributeType"), accessFlags := 16409, slot := 8, constantValue := 0 }, { name := "SERIAL_NUMBER", type := (.object "com/example/certwright/certwright/x509/AttributeType"), accessFlags := 16409, slot := 9, constantValue := 0 }, { name := "EMAIL_ADDRESS", type := (.object "com/example/certwright/certwright/x509/AttributeType"), accessFlags := 16409, slot := 10, constantValue := 0 }, { name := "BY_OID", type := (.object "java/util/Map"), accessFlags := 26, slot := 11, constantValue := 0 }, { name := "BY_KEYWORD", type := (.object "java/util/Map"), accessFlags := 26, slot := 12, constantValue := 0 }, { name := "oid", type := (.object "java/lang/String"), accessFlags := 18, slot := 3, constantValue := 0 }, { name := "keyword", type := (.object "java/lang/String"), accessFlags := 18, slot := 4, constantValue := 0 }, { name := "stringTag", type := .int, accessFlags := 18, slot := 5, constantValue := 0 }, { name := "minLength", type := .int, accessFlags := 18, slot := 6, constantValue := 0 }, { name := "maxLength", type := .int, accessFlags := 18, slot := 7, constantValue := 0 }, { name := "$VALUES", type := (.array (.object "com/example/certwright/certwright/x509/AttributeType")), accessFlags := 4122, slot := 13, constantValue := 0 }]
  methods := #[k6m0]
  instanceTypes := #[(.object "java/lang/String"), .int, .int, (.object "java/lang/String"), (.object "java/lang/String"), .int, .int, .int]
  staticTypes := #[(.object "com/example/certwright/certwright/x509/AttributeType"), (.object "com/example/certwright/certwright/x509/AttributeType"), (.object "com/example/certwright/certwright/x509/AttributeType"), (.object "com/example/certwright/certwright/x509/AttributeType"), (.object "com/example/certwright/certwright/x509/AttributeType"), (.object "com/example/certwright/certwright/x509/AttributeType"), (.object "com/example/certwright/certwright/x509/AttributeType"), (.object "com/example/certwright/certwright/x509/AttributeType"), (.object "com/example/certwright/certwright/x509/AttributeType"), (.object "com/example/certwright/certwright/x509/AttributeType"), (.object "com/example/certwright/certwright/x509/AttributeType"), (.object "java/util/Map"), (.object "java/util/Map"), (.array (.object "com/example/certwright/certwright/x509/AttributeType"))]
  resolved := Array.replicate 267 none
  statics := some 0 }

def pool7 : Array CpInfo := pool [(1, u "java/lang/Cloneable"), (0, .class_ 1), (0, u "java/lang/Object"), (0, .class_ 3)] 3

/-- java/lang/Cloneable -/
def k7 : Class := { plain "java/lang/Cloneable" (some 0) with
  accessFlags := 1537
  interfaces := #[]
  cf := some (fileOf pool7 2 #[] #[] 1537 4 #[] #[])
  fields := #[]
  methods := #[]
  instanceTypes := #[]
  staticTypes := #[]
  resolved := Array.replicate 8 none
  statics := none }

/-- the primitive byte -/
def k8 : Class := { plain "byte" none with kind := .primitive 'B', accessFlags := 0x411 }
/-- [B -/
def k9 : Class := { plain "[B" (some 0) with kind := .array 8 .byte, interfaces := #[7, 4], accessFlags := 1041 }

/-- the primitive int -/
def k10 : Class := { plain "int" none with kind := .primitive 'I', accessFlags := 0x411 }
/-- [I -/
def k11 : Class := { plain "[I" (some 0) with kind := .array 10 .int, interfaces := #[7, 4], accessFlags := 1041 }

def heap : Heap := #[{ cls := 6, slots := #[.ref 1, .ref 2, .ref 3, .ref 4, .ref 5, .ref 6, .ref 7, .ref 8, .ref 9, .ref 10, .ref 11, .null, .null, .null], vm := .statics 6 },
  { cls := 6, slots := #[.null, .int 0, .int 0, .null, .null, .int 12, .int 1, .int 64], vm := .none },
  { cls := 6, slots := #[.null, .int 1, .int 0, .null, .null, .int 12, .int 1, .int 128], vm := .none },
  { cls := 6, slots := #[.null, .int 2, .int 0, .null, .null, .int 12, .int 1, .int 128], vm := .none },
  { cls := 6, slots := #[.null, .int 3, .int 0, .null, .null, .int 12, .int 1, .int 64], vm := .none },
  { cls := 6, slots := #[.null, .int 4, .int 0, .null, .null, .int 12, .int 1, .int 64], vm := .none },
  { cls := 6, slots := #[.null, .int 5, .int 0, .null, .null, .int 12, .int 2, .int 2], vm := .none },
  { cls := 6, slots := #[.null, .int 6, .int 0, .null, .null, .int 12, .int 1, .int 2147483647], vm := .none },
  { cls := 6, slots := #[.null, .int 7, .int 0, .null, .null, .int 12, .int 1, .int 2147483647], vm := .none },
  { cls := 6, slots := #[.null, .int 8, .int 0, .null, .null, .int 12, .int 1, .int 2147483647], vm := .none },
  { cls := 6, slots := #[.null, .int 9, .int 0, .null, .null, .int 12, .int 1, .int 64], vm := .none },
  { cls := 6, slots := #[.null, .int 10, .int 0, .null, .null, .int 12, .int 1, .int 255], vm := .none }]
def classes : Array Class := #[k0, k1, k2, k3, k4, k5, k6, k7, k8, k9, k10, k11]
def interned : List (Array UInt16 × Addr) := []
def slotsUsed : Nat := 102
def theMethod : MethodId := ⟨1, 4⟩
def args0 : Array Value := #[.int 3, .int 2]
def aboutOver (below : List Frame) : State where
  vm := { classes := classes, interned := interned.toArray }
  heap := heap
  slotsUsed := slotsUsed
  threads := #[{ frames := .invoking theMethod args0 :: below }]
def below0 : List Frame := [.native { method := ⟨0, 0⟩, args := #[] }]
def about1 : State := aboutOver below0
def p0 : Program := .bare "" "" ""
def e0 : Env := launch0.env 0 0 0
theorem w_frames : about1.frames = Frame.invoking theMethod args0 :: below0 := rfl
set_option maxRecDepth 65536 in
theorem w_args : argsFit about1.vm theMethod args0 = true := by decide +kernel
set_option maxRecDepth 65536 in
theorem w_heap : heapFits about1 = true := by decide +kernel
set_option maxRecDepth 65536 in
theorem w_runnable : about1.curStatus? = some .runnable := by decide +kernel
set_option maxRecDepth 65536 in
theorem w_alone : about1.alone = true := by decide +kernel
set_option maxRecDepth 65536 in
theorem w_named : about1.methodNamed? x = some theMethod := by decide +kernel
set_option maxRecDepth 65536 in
theorem w_hears : about1.hears theMethod below0 = true := by decide +kernel
set_option maxRecDepth 65536 in
theorem w_ripe : about1.ripe theMethod args0 below0 = true := by decide +kernel
theorem w_running : about1.status = .running := rfl
set_option maxRecDepth 65536 in
theorem w_room : about1.hasRoom e0.platform room_1 = true :=
  launch0.hasRoom_least _ room_1 (by decide +kernel) (by decide +kernel) (by decide +kernel) (by decide +kernel) (by decide +kernel) (by decide +kernel)
theorem allAtoms_all (ts : List Jvm.Cond) (a : Array Jvm.Value) (st : Jvm.State) : (allAtoms ts).before a st = ts.all (fun c => c.before a st) := by
  induction ts with
  | nil => rfl
  | cons c t ih =>
    show (Jvm.Cond.and c (allAtoms t)).before a st = _
    rw [Jvm.Cond.before_and, ih, List.all_cons]
def words1 : List Jvm.Cond := Jvm.Cond.code x code maxLocals ret :: tables_1
/-- a 'code' word, met by the world's own term for the bytes: nothing is compared byte by byte -/
theorem code_word {y : MethodName} {bytes : ByteArray} {mx : Nat} {rt : Option FieldType} {a : Array Value} {s : State} {m : MethodId} {meth : Method} {c : Code} (h1 : s.methodNamed? y = some m) (h2 : s.vm.method? m = some meth) (h3 : meth.code = some c) (h4 : c.code = bytes)
    (h5 : (c.maxLocals == mx && c.exceptionTable.isEmpty && decide (c.maxStack ≤ mostOperands) && decide (meth.sig.returnType = rt) && !meth.locks && decide (parseMethodDescriptor y.desc = some meth.sig)) = true) : (Jvm.Cond.code y bytes mx rt).before a s = true := by
  simp only [Bool.and_eq_true, beq_iff_eq, Bool.not_eq_true', decide_eq_true_eq] at h5
  obtain ⟨⟨⟨⟨⟨g1, g2⟩, g3⟩, g4⟩, g5⟩, g6⟩ := h5
  simp [Cond.before, Cond.holds, Cond.value, h1, h2, h3, h4, g1, g2, g3, g4, g5, g6]
def isCode : Jvm.Cond → Bool
  | .code _ _ _ _ => true
  | _ => false
theorem all_split {L : List Jvm.Cond} {P : Jvm.Cond → Bool} (h1 : L.all (fun c => isCode c || P c) = true) (h2 : ∀ c ∈ L.filter isCode, P c = true) : L.all P = true := by
  refine List.all_eq_true.mpr fun c hc => ?_
  have h := List.all_eq_true.mp h1 c hc
  rcases Bool.eq_false_or_eq_true (isCode c) with hi | hi
  · exact h2 c (List.mem_filter.mpr ⟨hc, hi⟩)
  · simpa [hi] using h
set_option maxRecDepth 65536 in
theorem w_c0 : (Jvm.Cond.code x code maxLocals ret).before args0 about1 = true := code_word (m := ⟨1, 4⟩) (meth := k1m4) (c := k1c4) (by decide +kernel) rfl rfl rfl (by decide +kernel)
set_option maxRecDepth 65536 in
theorem w_c1 : (Jvm.Cond.code ({ cls := "com/example/certwright/certwright/x509/AttributeTypeFitsPinLaw", name := "type", desc := "(I)Lcom/example/certwright/certwright/x509/AttributeType;" } : Jvm.MethodName) method_2_code (1 : Nat) (Option.some (Jvm.ClassFile.FieldType.object "com/example/certwright/certwright/x509/AttributeType"))).before args0 about1 = true := code_word (m := ⟨1, 1⟩) (meth := k1m1) (c := k1c1) (by decide +kernel) rfl rfl rfl (by decide +kernel)
set_option maxRecDepth 65536 in
theorem w_c2 : (Jvm.Cond.code ({ cls := "com/example/certwright/certwright/x509/AttributeTypeFitsPinLaw", name := "low", desc := "(I)I" } : Jvm.MethodName) method_3_code (1 : Nat) (Option.some Jvm.ClassFile.FieldType.int)).before args0 about1 = true := code_word (m := ⟨1, 2⟩) (meth := k1m2) (c := k1c2) (by decide +kernel) rfl rfl rfl (by decide +kernel)
set_option maxRecDepth 65536 in
theorem w_c3 : (Jvm.Cond.code ({ cls := "com/example/certwright/certwright/x509/AttributeTypeFitsPinLaw", name := "high", desc := "(I)I" } : Jvm.MethodName) method_4_code (1 : Nat) (Option.some Jvm.ClassFile.FieldType.int)).before args0 about1 = true := code_word (m := ⟨1, 3⟩) (meth := k1m3) (c := k1c3) (by decide +kernel) rfl rfl rfl (by decide +kernel)
set_option maxRecDepth 65536 in
theorem w_c4 : (Jvm.Cond.code ({ cls := "com/example/certwright/certwright/x509/AttributeType", name := "fits", desc := "(I)Z" } : Jvm.MethodName) prog_70_method_9_code (2 : Nat) (Option.some Jvm.ClassFile.FieldType.boolean)).before args0 about1 = true := code_word (m := ⟨6, 0⟩) (meth := k6m0) (c := k6c0) (by decide +kernel) rfl rfl rfl (by decide +kernel)
def codes1 : List Jvm.Cond := [Jvm.Cond.code x code maxLocals ret, Jvm.Cond.code ({ cls := "com/example/certwright/certwright/x509/AttributeTypeFitsPinLaw", name := "type", desc := "(I)Lcom/example/certwright/certwright/x509/AttributeType;" } : Jvm.MethodName) method_2_code (1 : Nat) (Option.some (Jvm.ClassFile.FieldType.object "com/example/certwright/certwright/x509/AttributeType")), Jvm.Cond.code ({ cls := "com/example/certwright/certwright/x509/AttributeTypeFitsPinLaw", name := "low", desc := "(I)I" } : Jvm.MethodName) method_3_code (1 : Nat) (Option.some Jvm.ClassFile.FieldType.int), Jvm.Cond.code ({ cls := "com/example/certwright/certwright/x509/AttributeTypeFitsPinLaw", name := "high", desc := "(I)I" } : Jvm.MethodName) method_4_code (1 : Nat) (Option.some Jvm.ClassFile.FieldType.int), Jvm.Cond.code ({ cls := "com/example/certwright/certwright/x509/AttributeType", name := "fits", desc := "(I)Z" } : Jvm.MethodName) prog_70_method_9_code (2 : Nat) (Option.some Jvm.ClassFile.FieldType.boolean)]
set_option maxRecDepth 65536 in
theorem codes_eq : words1.filter isCode = codes1 := rfl
theorem w_codes : ∀ c ∈ words1.filter isCode, c.before args0 about1 = true := by
  rw [codes_eq]
  intro c hc
  simp only [codes1, List.mem_cons, List.not_mem_nil, or_false] at hc
  rcases hc with rfl | rfl | rfl | rfl | rfl
  · exact w_c0
  · exact w_c1
  · exact w_c2
  · exact w_c3
  · exact w_c4
set_option maxRecDepth 65536 in
theorem w_t1 : (words1.take 24).all (fun c => isCode c || c.before args0 about1) = true := by decide +kernel
set_option maxRecDepth 65536 in
theorem w_t2 : (words1.drop 24).all (fun c => isCode c || c.before args0 about1) = true := by decide +kernel
theorem w_tables : (allAtoms (Jvm.Cond.code x code maxLocals ret :: tables_1)).before args0 about1 = true := by
  rw [allAtoms_all]
  show words1.all (fun c => c.before args0 about1) = true
  refine all_split ?_ w_codes
  rw [← List.take_append_drop 24 words1, List.all_append, w_t1, w_t2]
  rfl
set_option maxRecDepth 65536 in
theorem w_case : (Jvm.Cond.and given_1 narrow_1).before args0 about1 = true := by decide +kernel
theorem w_applies : (headSpec (Jvm.Cond.code x code maxLocals ret :: tables_1) room_1).applies x e0.platform about1 = true :=
  (Spec.applies_iff w_frames).mpr ⟨w_running, w_runnable, w_alone, w_named, w_hears, w_ripe, w_room, w_tables⟩
theorem atStart : AtStart classFile x code maxLocals ret World_1 tables_1 room_1 Calls_1 rest_1 Pre_1 launch0 p0 e0 about1 theMethod args0 below0 :=
  ⟨lists_1, trivial, launch0.admits_env _ _ _, launch0.least_env, fairChoices_fair.cas, fairChoices_fair.clock, w_frames, w_args, w_heap, w_applies, trivial, trivial, w_case⟩
end start1
theorem witness_1 : WitnessClaimed_1 := ⟨start1.p0, start1.e0, start1.about1, start1.theMethod, start1.args0, start1.below0, start1.atStart⟩
end Jvm.Pilot.@@N@@
