import JvmDerived
import JvmDerived.Pilot.@@N@@Statement
import JvmDerived.Pilot.@@N@@Code
set_option linter.unusedVariables false
set_option linter.unusedSimpArgs false
namespace Jvm.OwnRun
open Sem ClassFile Op Lib Jvm.Stand Jvm.Free Jvm.LawKit Jvm.RoadKit
/-- from T with the top frame g the method's run ends as Φ says -/
def Run (tb : Tables) (e : Env) (below : List Frame) (Φ : Outcome → State → Prop) (T : State) (g : JFrame) : Prop := ∃ s₂ o, Steps tb e below (T.setTop g) s₂ ∧ s₂.status = .running ∧ Ended s₂ below o ∧ Φ o s₂
/-- what a contract asks of the end -/
def FinR (s : State) (K N : Nat) (Q : Option Value → Heap → List Loc → Prop) : Outcome → State → Prop := fun o u => ∃ v L, o = .returned v ∧ Q v u.heap L ∧ FrameEnd s o u L K N
section Steps
variable {p : Program} {l : Launch} {e : Env} {R : Room} {s : State} {m : MethodId} {args : Array Value} {below : List Frame} {meth : Method} {c : Code} {T : State} {locs : List Loc} {cells slots : Nat} {Φ : Outcome → State → Prop} {pc pc' : Nat} {Ls : Array Slot} {rest : List Value}
theorem Run.back {tb : Tables} {T' : State} {g g' : JFrame} (h : ∀ t, Steps tb e below (T'.setTop g') t → Steps tb e below (T.setTop g) t) (k : Run tb e below Φ T' g') : Run tb e below Φ T g := by
  obtain ⟨s₂, o, h1, h2⟩ := k
  exact ⟨s₂, o, h _ h1, h2⟩
theorem Run.fwd {tb : Tables} {T' : State} {g g' : JFrame} (h : Steps tb e below (T.setTop g) (T'.setTop g')) (k : Run tb e below Φ T' g') : Run tb e below Φ T g := k.back fun _ kt => h.trans kt
theorem Run.iload (X : Stand p l e R s m args below meth c T locs cells slots) (hx : p.tables.exec = Jvm.exec) {k : Nat} {v : Int32} (hd : decode c.code pc = .ok (.iload k, 2)) (hl : Ls[k]? = some (.val (.int v))) (hp : pc + 2 = pc') (k : Run p.tables e below Φ T (mkF m pc' Ls (.int v :: rest))) : Run p.tables e below Φ T (mkF m pc Ls rest) := by
  subst hp
  exact k.back fun _ kt => XS.iload X.here hx rfl hd hl kt
theorem Run.iloadN (X : Stand p l e R s m args below meth c T locs cells slots) (hx : p.tables.exec = Jvm.exec) {k : Fin 4} {v : Int32} (hd : decode c.code pc = .ok (.iload_n k, 1)) (hl : Ls[k.val]? = some (.val (.int v))) (hp : pc + 1 = pc') (k : Run p.tables e below Φ T (mkF m pc' Ls (.int v :: rest))) : Run p.tables e below Φ T (mkF m pc Ls rest) := by
  subst hp
  exact k.back fun _ kt => XS.iloadN X.here hx rfl hd hl kt
theorem Run.istore (X : Stand p l e R s m args below meth c T locs cells slots) (hx : p.tables.exec = Jvm.exec) {k : Nat} {v : Int32} {l' : Array Slot} (hd : decode c.code pc = .ok (.istore k, 2)) (hl : storeLocals Ls k (.int v) = some l') (hp : pc + 2 = pc') (k : Run p.tables e below Φ T (mkF m pc' l' rest)) : Run p.tables e below Φ T (mkF m pc Ls (.int v :: rest)) := by
  subst hp
  exact k.back fun _ kt => XS.istore X.here hx rfl hd rfl hl kt
theorem Run.istoreN (X : Stand p l e R s m args below meth c T locs cells slots) (hx : p.tables.exec = Jvm.exec) {k : Fin 4} {v : Int32} {l' : Array Slot} (hd : decode c.code pc = .ok (.istore_n k, 1)) (hl : storeLocals Ls k.val (.int v) = some l') (hp : pc + 1 = pc') (k : Run p.tables e below Φ T (mkF m pc' l' rest)) : Run p.tables e below Φ T (mkF m pc Ls (.int v :: rest)) := by
  subst hp
  exact k.back fun _ kt => XS.istoreN X.here hx rfl hd rfl hl kt
theorem Run.lload (X : Stand p l e R s m args below meth c T locs cells slots) (hx : p.tables.exec = Jvm.exec) {k : Nat} {v : Int64} (hd : decode c.code pc = .ok (.lload k, 2)) (hl : Ls[k]? = some (.val (.long v))) (hp : pc + 2 = pc') (k : Run p.tables e below Φ T (mkF m pc' Ls (.long v :: rest))) : Run p.tables e below Φ T (mkF m pc Ls rest) := by
  subst hp
  exact k.back fun _ kt => XS.lload X.here hx rfl hd hl kt
theorem Run.lloadN (X : Stand p l e R s m args below meth c T locs cells slots) (hx : p.tables.exec = Jvm.exec) {k : Fin 4} {v : Int64} (hd : decode c.code pc = .ok (.lload_n k, 1)) (hl : Ls[k.val]? = some (.val (.long v))) (hp : pc + 1 = pc') (k : Run p.tables e below Φ T (mkF m pc' Ls (.long v :: rest))) : Run p.tables e below Φ T (mkF m pc Ls rest) := by
  subst hp
  exact k.back fun _ kt => XS.lloadN X.here hx rfl hd hl kt
theorem Run.lstore (X : Stand p l e R s m args below meth c T locs cells slots) (hx : p.tables.exec = Jvm.exec) {k : Nat} {v : Int64} {l' : Array Slot} (hd : decode c.code pc = .ok (.lstore k, 2)) (hl : storeLocals Ls k (.long v) = some l') (hp : pc + 2 = pc') (k : Run p.tables e below Φ T (mkF m pc' l' rest)) : Run p.tables e below Φ T (mkF m pc Ls (.long v :: rest)) := by
  subst hp
  exact k.back fun _ kt => XS.lstore X.here hx rfl hd rfl hl kt
theorem Run.lstoreN (X : Stand p l e R s m args below meth c T locs cells slots) (hx : p.tables.exec = Jvm.exec) {k : Fin 4} {v : Int64} {l' : Array Slot} (hd : decode c.code pc = .ok (.lstore_n k, 1)) (hl : storeLocals Ls k.val (.long v) = some l') (hp : pc + 1 = pc') (k : Run p.tables e below Φ T (mkF m pc' l' rest)) : Run p.tables e below Φ T (mkF m pc Ls (.long v :: rest)) := by
  subst hp
  exact k.back fun _ kt => XS.lstoreN X.here hx rfl hd rfl hl kt
theorem Run.aload (X : Stand p l e R s m args below meth c T locs cells slots) (hx : p.tables.exec = Jvm.exec) {k : Nat} {v : Addr} (hd : decode c.code pc = .ok (.aload k, 2)) (hl : Ls[k]? = some (.val (.ref v))) (hp : pc + 2 = pc') (k : Run p.tables e below Φ T (mkF m pc' Ls (.ref v :: rest))) : Run p.tables e below Φ T (mkF m pc Ls rest) := by
  subst hp
  exact k.back fun _ kt => XS.aload X.here hx rfl hd hl rfl kt
theorem Run.aloadN (X : Stand p l e R s m args below meth c T locs cells slots) (hx : p.tables.exec = Jvm.exec) {k : Fin 4} {v : Addr} (hd : decode c.code pc = .ok (.aload_n k, 1)) (hl : Ls[k.val]? = some (.val (.ref v))) (hp : pc + 1 = pc') (k : Run p.tables e below Φ T (mkF m pc' Ls (.ref v :: rest))) : Run p.tables e below Φ T (mkF m pc Ls rest) := by
  subst hp
  exact k.back fun _ kt => XS.aloadN X.here hx rfl hd hl rfl kt
theorem Run.astore (X : Stand p l e R s m args below meth c T locs cells slots) (hx : p.tables.exec = Jvm.exec) {k : Nat} {v : Addr} {l' : Array Slot} (hd : decode c.code pc = .ok (.astore k, 2)) (hl : storeLocals Ls k (.ref v) = some l') (hp : pc + 2 = pc') (k : Run p.tables e below Φ T (mkF m pc' l' rest)) : Run p.tables e below Φ T (mkF m pc Ls (.ref v :: rest)) := by
  subst hp
  exact k.back fun _ kt => XS.astore X.here hx rfl hd rfl rfl hl kt
theorem Run.astoreN (X : Stand p l e R s m args below meth c T locs cells slots) (hx : p.tables.exec = Jvm.exec) {k : Fin 4} {v : Addr} {l' : Array Slot} (hd : decode c.code pc = .ok (.astore_n k, 1)) (hl : storeLocals Ls k.val (.ref v) = some l') (hp : pc + 1 = pc') (k : Run p.tables e below Φ T (mkF m pc' l' rest)) : Run p.tables e below Φ T (mkF m pc Ls (.ref v :: rest)) := by
  subst hp
  exact k.back fun _ kt => XS.astoreN X.here hx rfl hd rfl rfl hl kt
theorem Run.iconst (X : Stand p l e R s m args below meth c T locs cells slots) (hx : p.tables.exec = Jvm.exec) {i : Int} {v : Int32} (hd : decode c.code pc = .ok (.iconst i, 1)) (hv : Int32.ofInt i = v) (hp : pc + 1 = pc') (k : Run p.tables e below Φ T (mkF m pc' Ls (.int v :: rest))) : Run p.tables e below Φ T (mkF m pc Ls rest) := by
  subst hp
  exact k.back fun _ kt => XS.iconst X.here hx rfl hd (by rw [hv]; exact kt)
theorem Run.bipush (X : Stand p l e R s m args below meth c T locs cells slots) (hx : p.tables.exec = Jvm.exec) {i : Int} {v : Int32} (hd : decode c.code pc = .ok (.bipush i, 2)) (hv : (Int8.ofInt i).toInt32 = v) (hp : pc + 2 = pc') (k : Run p.tables e below Φ T (mkF m pc' Ls (.int v :: rest))) : Run p.tables e below Φ T (mkF m pc Ls rest) := by
  subst hp
  exact k.back fun _ kt => XS.bipush X.here hx rfl hd (by rw [hv]; exact kt)
theorem Run.sipush (X : Stand p l e R s m args below meth c T locs cells slots) (hx : p.tables.exec = Jvm.exec) {i : Int} {v : Int32} (hd : decode c.code pc = .ok (.sipush i, 3)) (hv : (Int16.ofInt i).toInt32 = v) (hp : pc + 3 = pc') (k : Run p.tables e below Φ T (mkF m pc' Ls (.int v :: rest))) : Run p.tables e below Φ T (mkF m pc Ls rest) := by
  subst hp
  exact k.back fun _ kt => XS.sipush X.here hx rfl hd (by rw [hv]; exact kt)
theorem Run.lconst (X : Stand p l e R s m args below meth c T locs cells slots) (hx : p.tables.exec = Jvm.exec) {i : Fin 2} {v : Int64} (hd : decode c.code pc = .ok (.lconst i, 1)) (hv : Int64.ofNat i = v) (hp : pc + 1 = pc') (k : Run p.tables e below Φ T (mkF m pc' Ls (.long v :: rest))) : Run p.tables e below Φ T (mkF m pc Ls rest) := by
  subst hp
  exact k.back fun _ kt => XS.lconst X.here hx rfl hd (by first | (rw [hv]; exact kt) | (rw [← hv] at kt; exact kt))
theorem Run.aconstNull (X : Stand p l e R s m args below meth c T locs cells slots) (hx : p.tables.exec = Jvm.exec) (hd : decode c.code pc = .ok (.aconst_null, 1)) (hp : pc + 1 = pc') (k : Run p.tables e below Φ T (mkF m pc' Ls (.null :: rest))) : Run p.tables e below Φ T (mkF m pc Ls rest) := by
  subst hp
  exact k.back fun _ kt => XS.aconstNull X.here hx rfl hd kt
theorem Run.iadd (X : Stand p l e R s m args below meth c T locs cells slots) (hx : p.tables.exec = Jvm.exec) {x y : Int32} (hd : decode c.code pc = .ok (.iadd, 1)) (hp : pc + 1 = pc') (k : Run p.tables e below Φ T (mkF m pc' Ls (.int (x + y) :: rest))) : Run p.tables e below Φ T (mkF m pc Ls (.int y :: .int x :: rest)) := by
  subst hp
  exact k.back fun _ kt => XS.iadd X.here hx rfl hd rfl kt
theorem Run.isub (X : Stand p l e R s m args below meth c T locs cells slots) (hx : p.tables.exec = Jvm.exec) {x y : Int32} (hd : decode c.code pc = .ok (.isub, 1)) (hp : pc + 1 = pc') (k : Run p.tables e below Φ T (mkF m pc' Ls (.int (x - y) :: rest))) : Run p.tables e below Φ T (mkF m pc Ls (.int y :: .int x :: rest)) := by
  subst hp
  exact k.back fun _ kt => XS.isub X.here hx rfl hd rfl kt
theorem Run.imul (X : Stand p l e R s m args below meth c T locs cells slots) (hx : p.tables.exec = Jvm.exec) {x y : Int32} (hd : decode c.code pc = .ok (.imul, 1)) (hp : pc + 1 = pc') (k : Run p.tables e below Φ T (mkF m pc' Ls (.int (x * y) :: rest))) : Run p.tables e below Φ T (mkF m pc Ls (.int y :: .int x :: rest)) := by
  subst hp
  exact k.back fun _ kt => XS.imul X.here hx rfl hd rfl kt
theorem Run.iand (X : Stand p l e R s m args below meth c T locs cells slots) (hx : p.tables.exec = Jvm.exec) {x y : Int32} (hd : decode c.code pc = .ok (.iand, 1)) (hp : pc + 1 = pc') (k : Run p.tables e below Φ T (mkF m pc' Ls (.int (x &&& y) :: rest))) : Run p.tables e below Φ T (mkF m pc Ls (.int y :: .int x :: rest)) := by
  subst hp
  exact k.back fun _ kt => XS.iand X.here hx rfl hd rfl kt
theorem Run.ior (X : Stand p l e R s m args below meth c T locs cells slots) (hx : p.tables.exec = Jvm.exec) {x y : Int32} (hd : decode c.code pc = .ok (.ior, 1)) (hp : pc + 1 = pc') (k : Run p.tables e below Φ T (mkF m pc' Ls (.int (x ||| y) :: rest))) : Run p.tables e below Φ T (mkF m pc Ls (.int y :: .int x :: rest)) := by
  subst hp
  exact k.back fun _ kt => XS.ior X.here hx rfl hd rfl kt
theorem Run.ixor (X : Stand p l e R s m args below meth c T locs cells slots) (hx : p.tables.exec = Jvm.exec) {x y : Int32} (hd : decode c.code pc = .ok (.ixor, 1)) (hp : pc + 1 = pc') (k : Run p.tables e below Φ T (mkF m pc' Ls (.int (x ^^^ y) :: rest))) : Run p.tables e below Φ T (mkF m pc Ls (.int y :: .int x :: rest)) := by
  subst hp
  exact k.back fun _ kt => XS.ixor X.here hx rfl hd rfl kt
theorem Run.idiv (X : Stand p l e R s m args below meth c T locs cells slots) (hx : p.tables.exec = Jvm.exec) {x y : Int32} (hd : decode c.code pc = .ok (.idiv, 1)) (hy : y ≠ 0) (hp : pc + 1 = pc') (k : Run p.tables e below Φ T (mkF m pc' Ls (.int (x / y) :: rest))) : Run p.tables e below Φ T (mkF m pc Ls (.int y :: .int x :: rest)) := by
  subst hp
  exact k.back fun _ kt => XS.idiv X.here hx rfl hd rfl hy kt
theorem Run.ladd (X : Stand p l e R s m args below meth c T locs cells slots) (hx : p.tables.exec = Jvm.exec) {x y : Int64} (hd : decode c.code pc = .ok (.ladd, 1)) (hp : pc + 1 = pc') (k : Run p.tables e below Φ T (mkF m pc' Ls (.long (x + y) :: rest))) : Run p.tables e below Φ T (mkF m pc Ls (.long y :: .long x :: rest)) := by
  subst hp
  exact k.back fun _ kt => XS.ladd X.here hx rfl hd rfl kt
theorem Run.lsub (X : Stand p l e R s m args below meth c T locs cells slots) (hx : p.tables.exec = Jvm.exec) {x y : Int64} (hd : decode c.code pc = .ok (.lsub, 1)) (hp : pc + 1 = pc') (k : Run p.tables e below Φ T (mkF m pc' Ls (.long (x - y) :: rest))) : Run p.tables e below Φ T (mkF m pc Ls (.long y :: .long x :: rest)) := by
  subst hp
  exact k.back fun _ kt => XS.lsub X.here hx rfl hd rfl kt
theorem Run.lmul (X : Stand p l e R s m args below meth c T locs cells slots) (hx : p.tables.exec = Jvm.exec) {x y : Int64} (hd : decode c.code pc = .ok (.lmul, 1)) (hp : pc + 1 = pc') (k : Run p.tables e below Φ T (mkF m pc' Ls (.long (x * y) :: rest))) : Run p.tables e below Φ T (mkF m pc Ls (.long y :: .long x :: rest)) := by
  subst hp
  exact k.back fun _ kt => XS.lmul X.here hx rfl hd rfl kt
theorem Run.land (X : Stand p l e R s m args below meth c T locs cells slots) (hx : p.tables.exec = Jvm.exec) {x y : Int64} (hd : decode c.code pc = .ok (.land, 1)) (hp : pc + 1 = pc') (k : Run p.tables e below Φ T (mkF m pc' Ls (.long (x &&& y) :: rest))) : Run p.tables e below Φ T (mkF m pc Ls (.long y :: .long x :: rest)) := by
  subst hp
  exact k.back fun _ kt => XS.land X.here hx rfl hd rfl kt
theorem Run.lor (X : Stand p l e R s m args below meth c T locs cells slots) (hx : p.tables.exec = Jvm.exec) {x y : Int64} (hd : decode c.code pc = .ok (.lor, 1)) (hp : pc + 1 = pc') (k : Run p.tables e below Φ T (mkF m pc' Ls (.long (x ||| y) :: rest))) : Run p.tables e below Φ T (mkF m pc Ls (.long y :: .long x :: rest)) := by
  subst hp
  exact k.back fun _ kt => XS.lor X.here hx rfl hd rfl kt
theorem Run.lxor (X : Stand p l e R s m args below meth c T locs cells slots) (hx : p.tables.exec = Jvm.exec) {x y : Int64} (hd : decode c.code pc = .ok (.lxor, 1)) (hp : pc + 1 = pc') (k : Run p.tables e below Φ T (mkF m pc' Ls (.long (x ^^^ y) :: rest))) : Run p.tables e below Φ T (mkF m pc Ls (.long y :: .long x :: rest)) := by
  subst hp
  exact k.back fun _ kt => XS.lxor X.here hx rfl hd rfl kt
theorem Run.ldiv (X : Stand p l e R s m args below meth c T locs cells slots) (hx : p.tables.exec = Jvm.exec) {x y : Int64} (hd : decode c.code pc = .ok (.ldiv, 1)) (hy : y ≠ 0) (hp : pc + 1 = pc') (k : Run p.tables e below Φ T (mkF m pc' Ls (.long (x / y) :: rest))) : Run p.tables e below Φ T (mkF m pc Ls (.long y :: .long x :: rest)) := by
  subst hp
  exact k.back fun _ kt => XS.ldiv X.here hx rfl hd rfl hy kt
theorem Run.irem (X : Stand p l e R s m args below meth c T locs cells slots) (hx : p.tables.exec = Jvm.exec) {x y : Int32} (hd : decode c.code pc = .ok (.irem, 1)) (hy : y ≠ 0) (hp : pc + 1 = pc') (k : Run p.tables e below Φ T (mkF m pc' Ls (.int (x % y) :: rest))) : Run p.tables e below Φ T (mkF m pc Ls (.int y :: .int x :: rest)) := by
  subst hp
  exact k.back fun _ kt => iremM X hx rfl hd rfl hy kt
theorem Run.ishl (X : Stand p l e R s m args below meth c T locs cells slots) (hx : p.tables.exec = Jvm.exec) {x : Int32} {y : Int32} (hd : decode c.code pc = .ok (.ishl, 1)) (hp : pc + 1 = pc') (k : Run p.tables e below Φ T (mkF m pc' Ls (.int (x <<< (y &&& 31)) :: rest))) : Run p.tables e below Φ T (mkF m pc Ls (.int y :: .int x :: rest)) := by
  subst hp
  exact k.back fun _ kt => XS.ishl X.here hx rfl hd rfl kt
theorem Run.ishr (X : Stand p l e R s m args below meth c T locs cells slots) (hx : p.tables.exec = Jvm.exec) {x : Int32} {y : Int32} (hd : decode c.code pc = .ok (.ishr, 1)) (hp : pc + 1 = pc') (k : Run p.tables e below Φ T (mkF m pc' Ls (.int (x >>> (y &&& 31)) :: rest))) : Run p.tables e below Φ T (mkF m pc Ls (.int y :: .int x :: rest)) := by
  subst hp
  exact k.back fun _ kt => XS.ishr X.here hx rfl hd rfl kt
theorem Run.iushr (X : Stand p l e R s m args below meth c T locs cells slots) (hx : p.tables.exec = Jvm.exec) {x : Int32} {y : Int32} (hd : decode c.code pc = .ok (.iushr, 1)) (hp : pc + 1 = pc') (k : Run p.tables e below Φ T (mkF m pc' Ls (.int ((x.toUInt32 >>> (y &&& 31).toUInt32).toInt32) :: rest))) : Run p.tables e below Φ T (mkF m pc Ls (.int y :: .int x :: rest)) := by
  subst hp
  exact k.back fun _ kt => XS.iushr X.here hx rfl hd rfl kt
theorem Run.lshl (X : Stand p l e R s m args below meth c T locs cells slots) (hx : p.tables.exec = Jvm.exec) {x : Int64} {y : Int32} (hd : decode c.code pc = .ok (.lshl, 1)) (hp : pc + 1 = pc') (k : Run p.tables e below Φ T (mkF m pc' Ls (.long (x <<< (y &&& 0x3f).toInt64) :: rest))) : Run p.tables e below Φ T (mkF m pc Ls (.int y :: .long x :: rest)) := by
  subst hp
  exact k.back fun _ kt => XS.lshl X.here hx rfl hd rfl kt
theorem Run.lshr (X : Stand p l e R s m args below meth c T locs cells slots) (hx : p.tables.exec = Jvm.exec) {x : Int64} {y : Int32} (hd : decode c.code pc = .ok (.lshr, 1)) (hp : pc + 1 = pc') (k : Run p.tables e below Φ T (mkF m pc' Ls (.long (x >>> (y &&& 0x3f).toInt64) :: rest))) : Run p.tables e below Φ T (mkF m pc Ls (.int y :: .long x :: rest)) := by
  subst hp
  exact k.back fun _ kt => XS.lshr X.here hx rfl hd rfl kt
theorem Run.lushr (X : Stand p l e R s m args below meth c T locs cells slots) (hx : p.tables.exec = Jvm.exec) {x : Int64} {y : Int32} (hd : decode c.code pc = .ok (.lushr, 1)) (hp : pc + 1 = pc') (k : Run p.tables e below Φ T (mkF m pc' Ls (.long ((x.toUInt64 >>> (y &&& 0x3f).toInt64.toUInt64).toInt64) :: rest))) : Run p.tables e below Φ T (mkF m pc Ls (.int y :: .long x :: rest)) := by
  subst hp
  exact k.back fun _ kt => XS.lushr X.here hx rfl hd rfl kt
theorem Run.i2l (X : Stand p l e R s m args below meth c T locs cells slots) (hx : p.tables.exec = Jvm.exec) {x : Int32} (hd : decode c.code pc = .ok (.i2l, 1)) (hp : pc + 1 = pc') (k : Run p.tables e below Φ T (mkF m pc' Ls (.long (x.toInt64) :: rest))) : Run p.tables e below Φ T (mkF m pc Ls (.int x :: rest)) := by
  subst hp
  exact k.back fun _ kt => XS.i2l X.here hx rfl hd rfl kt
theorem Run.l2i (X : Stand p l e R s m args below meth c T locs cells slots) (hx : p.tables.exec = Jvm.exec) {x : Int64} (hd : decode c.code pc = .ok (.l2i, 1)) (hp : pc + 1 = pc') (k : Run p.tables e below Φ T (mkF m pc' Ls (.int (x.toInt32) :: rest))) : Run p.tables e below Φ T (mkF m pc Ls (.long x :: rest)) := by
  subst hp
  exact k.back fun _ kt => XS.l2i X.here hx rfl hd rfl kt
theorem Run.i2b (X : Stand p l e R s m args below meth c T locs cells slots) (hx : p.tables.exec = Jvm.exec) {x : Int32} (hd : decode c.code pc = .ok (.i2b, 1)) (hp : pc + 1 = pc') (k : Run p.tables e below Φ T (mkF m pc' Ls (.int (x.toInt8.toInt32) :: rest))) : Run p.tables e below Φ T (mkF m pc Ls (.int x :: rest)) := by
  subst hp
  exact k.back fun _ kt => XS.i2b X.here hx rfl hd rfl kt
theorem Run.i2s (X : Stand p l e R s m args below meth c T locs cells slots) (hx : p.tables.exec = Jvm.exec) {x : Int32} (hd : decode c.code pc = .ok (.i2s, 1)) (hp : pc + 1 = pc') (k : Run p.tables e below Φ T (mkF m pc' Ls (.int (x.toInt16.toInt32) :: rest))) : Run p.tables e below Φ T (mkF m pc Ls (.int x :: rest)) := by
  subst hp
  exact k.back fun _ kt => XS.i2s X.here hx rfl hd rfl kt
theorem Run.i2c (X : Stand p l e R s m args below meth c T locs cells slots) (hx : p.tables.exec = Jvm.exec) {x : Int32} (hd : decode c.code pc = .ok (.i2c, 1)) (hp : pc + 1 = pc') (k : Run p.tables e below Φ T (mkF m pc' Ls (.int (x.toUInt32.toUInt16.toUInt32.toInt32) :: rest))) : Run p.tables e below Φ T (mkF m pc Ls (.int x :: rest)) := by
  subst hp
  exact k.back fun _ kt => XS.i2c X.here hx rfl hd rfl kt
theorem Run.ineg (X : Stand p l e R s m args below meth c T locs cells slots) (hx : p.tables.exec = Jvm.exec) {x : Int32} (hd : decode c.code pc = .ok (.ineg, 1)) (hp : pc + 1 = pc') (k : Run p.tables e below Φ T (mkF m pc' Ls (.int (-x) :: rest))) : Run p.tables e below Φ T (mkF m pc Ls (.int x :: rest)) := by
  subst hp
  exact k.back fun _ kt => XS.ineg X.here hx rfl hd rfl kt
theorem Run.lcmp (X : Stand p l e R s m args below meth c T locs cells slots) (hx : p.tables.exec = Jvm.exec) {x y : Int64} (hd : decode c.code pc = .ok (.lcmp, 1)) (hp : pc + 1 = pc') (k : Run p.tables e below Φ T (mkF m pc' Ls (.int (lcmpW x y) :: rest))) : Run p.tables e below Φ T (mkF m pc Ls (.long y :: .long x :: rest)) := by
  subst hp
  exact k.back fun _ kt => XS.lcmp X.here hx rfl hd rfl kt
theorem Run.dup (X : Stand p l e R s m args below meth c T locs cells slots) (hx : p.tables.exec = Jvm.exec) {x : Value} (hd : decode c.code pc = .ok (.dup, 1)) (hc : x.category = 1) (hp : pc + 1 = pc') (k : Run p.tables e below Φ T (mkF m pc' Ls (x :: x :: rest))) : Run p.tables e below Φ T (mkF m pc Ls (x :: rest)) := by
  subst hp
  exact k.back fun _ kt => XS.dup X.here hx rfl hd rfl hc kt
theorem Run.dupX1 (X : Stand p l e R s m args below meth c T locs cells slots) (hx : p.tables.exec = Jvm.exec) {x y : Value} (hd : decode c.code pc = .ok (.dup_x1, 1)) (hc : x.category = 1) (hc2 : y.category = 1) (hp : pc + 1 = pc') (k : Run p.tables e below Φ T (mkF m pc' Ls (x :: y :: x :: rest))) : Run p.tables e below Φ T (mkF m pc Ls (x :: y :: rest)) := by
  subst hp
  exact k.back fun _ kt => XS.dupX1 X.here hx rfl hd rfl hc hc2 kt
theorem Run.pop (X : Stand p l e R s m args below meth c T locs cells slots) (hx : p.tables.exec = Jvm.exec) {x : Value} (hd : decode c.code pc = .ok (.pop, 1)) (hc : x.category = 1) (hp : pc + 1 = pc') (k : Run p.tables e below Φ T (mkF m pc' Ls rest)) : Run p.tables e below Φ T (mkF m pc Ls (x :: rest)) := by
  subst hp
  exact k.back fun _ kt => XS.pop X.here hx rfl hd rfl hc kt
theorem Run.iinc (X : Stand p l e R s m args below meth c T locs cells slots) (hx : p.tables.exec = Jvm.exec) {n : Nat} {i : Int} {v w : Int32} {l' : Array Slot} (hd : decode c.code pc = .ok (.iinc n i, 3)) (hl : Ls[n]? = some (.val (.int v))) (hv : Int32.ofInt i = w) (hl' : storeLocals Ls n (.int (v + w)) = some l') (hp : pc + 3 = pc') (k : Run p.tables e below Φ T (mkF m pc' l' rest)) : Run p.tables e below Φ T (mkF m pc Ls rest) := by
  subst hp
  exact k.back fun _ kt => XS.iinc X.here hx rfl hd hl (by rw [hv]; exact hl') kt
theorem Run.goto (X : Stand p l e R s m args below meth c T locs cells slots) (hx : p.tables.exec = Jvm.exec) {o : Int} (hd : decode c.code pc = .ok (.goto o, 3)) (ho : 0 ≤ (pc : Int) + o) (hp : ((pc : Int) + o).toNat = pc') (k : Run p.tables e below Φ T (mkF m pc' Ls rest)) : Run p.tables e below Φ T (mkF m pc Ls rest) := k.back fun _ kt => XS.goto X.here hx rfl rfl hd ho hp kt
theorem Run.ifYes (X : Stand p l e R s m args below meth c T locs cells slots) (hx : p.tables.exec = Jvm.exec) {cd : ClassFile.Cond} {o : Int} {x : Int32} (hd : decode c.code pc = .ok (.ifCond cd o, 3)) (hc : ifCond.holds cd x = true) (ho : 0 ≤ (pc : Int) + o) (hp : ((pc : Int) + o).toNat = pc') (k : Run p.tables e below Φ T (mkF m pc' Ls rest)) : Run p.tables e below Φ T (mkF m pc Ls (.int x :: rest)) := k.back fun _ kt => XS.ifYes X.here hx rfl rfl hd rfl hc ho hp kt
theorem Run.ifNo (X : Stand p l e R s m args below meth c T locs cells slots) (hx : p.tables.exec = Jvm.exec) {cd : ClassFile.Cond} {o : Int} {x : Int32} (hd : decode c.code pc = .ok (.ifCond cd o, 3)) (hc : ifCond.holds cd x = false) (hp : pc + 3 = pc') (k : Run p.tables e below Φ T (mkF m pc' Ls rest)) : Run p.tables e below Φ T (mkF m pc Ls (.int x :: rest)) := by
  subst hp
  exact k.back fun _ kt => XS.ifNo X.here hx rfl hd rfl hc kt
theorem Run.icmpYes (X : Stand p l e R s m args below meth c T locs cells slots) (hx : p.tables.exec = Jvm.exec) {cd : ClassFile.Cond} {o : Int} {x y : Int32} (hd : decode c.code pc = .ok (.if_icmp cd o, 3)) (hc : if_icmp.holds cd x y = true) (ho : 0 ≤ (pc : Int) + o) (hp : ((pc : Int) + o).toNat = pc') (k : Run p.tables e below Φ T (mkF m pc' Ls rest)) : Run p.tables e below Φ T (mkF m pc Ls (.int y :: .int x :: rest)) := k.back fun _ kt => XS.icmpYes X.here hx rfl rfl hd rfl hc ho hp kt
theorem Run.icmpNo (X : Stand p l e R s m args below meth c T locs cells slots) (hx : p.tables.exec = Jvm.exec) {cd : ClassFile.Cond} {o : Int} {x y : Int32} (hd : decode c.code pc = .ok (.if_icmp cd o, 3)) (hc : if_icmp.holds cd x y = false) (hp : pc + 3 = pc') (k : Run p.tables e below Φ T (mkF m pc' Ls rest)) : Run p.tables e below Φ T (mkF m pc Ls (.int y :: .int x :: rest)) := by
  subst hp
  exact k.back fun _ kt => XS.icmpNo X.here hx rfl hd rfl hc kt
theorem Run.acmpYes (X : Stand p l e R s m args below meth c T locs cells slots) (hx : p.tables.exec = Jvm.exec) {cd : ACond} {o : Int} {a b : Addr} (hd : decode c.code pc = .ok (.if_acmp cd o, 3)) (hc : if_acmp.holds cd (some a) (some b) = true) (ho : 0 ≤ (pc : Int) + o) (hp : ((pc : Int) + o).toNat = pc') (k : Run p.tables e below Φ T (mkF m pc' Ls rest)) : Run p.tables e below Φ T (mkF m pc Ls (.ref b :: .ref a :: rest)) := k.back fun _ kt => XS.acmpYes X.here hx rfl rfl hd rfl hc ho hp kt
theorem Run.acmpNo (X : Stand p l e R s m args below meth c T locs cells slots) (hx : p.tables.exec = Jvm.exec) {cd : ACond} {o : Int} {a b : Addr} (hd : decode c.code pc = .ok (.if_acmp cd o, 3)) (hc : if_acmp.holds cd (some a) (some b) = false) (hp : pc + 3 = pc') (k : Run p.tables e below Φ T (mkF m pc' Ls rest)) : Run p.tables e below Φ T (mkF m pc Ls (.ref b :: .ref a :: rest)) := by
  subst hp
  exact k.back fun _ kt => XS.acmpNo X.here hx rfl hd rfl hc kt
theorem own_acmpEqT {a b : Addr} (h : a = b) : if_acmp.holds .eq (some a) (some b) = true := by subst h; simp [if_acmp.holds]
theorem own_acmpEqF {a b : Addr} (h : ¬ a = b) : if_acmp.holds .eq (some a) (some b) = false := by simp [if_acmp.holds, h]
theorem own_acmpNeT {a b : Addr} (h : a = b) : if_acmp.holds .ne (some a) (some b) = false := by subst h; simp [if_acmp.holds]
theorem own_acmpNeF {a b : Addr} (h : ¬ a = b) : if_acmp.holds .ne (some a) (some b) = true := by simp [if_acmp.holds, h]
theorem Run.ldcInt (X : Stand p l e R s m args below meth c T locs cells slots) (hx : p.tables.exec = Jvm.exec) {own : String} {index : Nat} {v : Int32} (hown : s.vm.findClass own = some m.cls) (hconst : (Cond.constant own index v).before args s = true) (hd : decode c.code pc = .ok (.ldc index, 2)) (hp : pc + 2 = pc') (k : Run p.tables e below Φ T (mkF m pc' Ls (.int v :: rest))) : Run p.tables e below Φ T (mkF m pc Ls rest) := by
  subst hp
  exact k.back fun _ kt => X.ldcInt hx hown hconst (g := mkF m pc Ls rest) rfl hd _ kt
theorem Run.ldc2Long (X : Stand p l e R s m args below meth c T locs cells slots) (hx : p.tables.exec = Jvm.exec) {own : String} {index : Nat} {v : Int64} (hown : s.vm.findClass own = some m.cls) (hconst : (Cond.constantLong own index v).before args s = true) (hd : decode c.code pc = .ok (.ldc2_w index, 3)) (hp : pc + 3 = pc') (k : Run p.tables e below Φ T (mkF m pc' Ls (.long v :: rest))) : Run p.tables e below Φ T (mkF m pc Ls rest) := by
  subst hp
  exact k.back fun _ kt => X.ldc2Long hx hown hconst (g := mkF m pc Ls rest) rfl hd _ kt
theorem Run.switchHit (X : Stand p l e R s m args below meth c T locs cells slots) (hx : p.tables.exec = Jvm.exec) {default : Int} {pairs : Array (Int × Int)} {len : Nat} {a off : Int} {z : Int32} (hd : decode c.code pc = .ok (.lookupswitch default pairs, len)) (hs : (pairs.toList.zip (pairs.toList.drop 1)).all (fun (a, next) => a.1 < next.1) = true) (hf : pairs.find? (·.1 == z.toInt) = some (a, off)) (ho : 0 ≤ (pc : Int) + off) (hp : ((pc : Int) + off).toNat = pc') (k : Run p.tables e below Φ T (mkF m pc' Ls rest)) : Run p.tables e below Φ T (mkF m pc Ls (.int z :: rest)) := by
  subst hp
  exact k.back fun _ kt => X.lookupswitchHit hx (g := mkF m pc Ls (.int z :: rest)) rfl rfl hd hs hf ho _ kt
theorem Run.switchMiss (X : Stand p l e R s m args below meth c T locs cells slots) (hx : p.tables.exec = Jvm.exec) {default : Int} {pairs : Array (Int × Int)} {len : Nat} {z : Int32} (hd : decode c.code pc = .ok (.lookupswitch default pairs, len)) (hs : (pairs.toList.zip (pairs.toList.drop 1)).all (fun (a, next) => a.1 < next.1) = true) (hf : pairs.find? (·.1 == z.toInt) = none) (ho : 0 ≤ (pc : Int) + default) (hp : ((pc : Int) + default).toNat = pc') (k : Run p.tables e below Φ T (mkF m pc' Ls rest)) : Run p.tables e below Φ T (mkF m pc Ls (.int z :: rest)) := by
  subst hp
  exact k.back fun _ kt => X.lookupswitchMiss hx (g := mkF m pc Ls (.int z :: rest)) rfl rfl hd hs hf ho _ kt
/-- a body that writes nothing returns r -/
abbrev QPure (n0 : Nat) (h0 : Heap) (r : Value) : Option Value → Heap → List Loc → Prop := fun v h L => v = some r ∧ Fr n0 L ∧ h = h0
theorem Run.retInt (X : Stand p l e R s m args below meth c T locs cells slots) (hx : p.tables.exec = Jvm.exec) {K N : Nat} {Q : Option Value → Heap → List Loc → Prop} {z : Int32} (hlk : meth.locks = false) (hret : meth.sig.returnType = some .int) (hd : decode c.code pc = .ok (.ireturn, 1)) (hQ : Q (some (.int z)) T.heap locs) (hc : cells ≤ K) (hn : slots ≤ N) : Run p.tables e below (FinR s K N Q) T (mkF m pc Ls (.int z :: rest)) := by
  obtain ⟨fs, hr, hrun, hended, hW, hsame⟩ := X.leave (v := (some (.int z))) (fun h => by rw [hret] at h; cases h) hlk
  exact ⟨_, _, retOut X hx hret rfl (Or.inl ⟨rfl, Or.inl rfl, z, rfl⟩) hd hr, hrun, hended, _, _, rfl, hQ, ⟨_, rfl⟩, hW, hsame.mono hc hn⟩
theorem Run.retLong (X : Stand p l e R s m args below meth c T locs cells slots) (hx : p.tables.exec = Jvm.exec) {K N : Nat} {Q : Option Value → Heap → List Loc → Prop} {z : Int64} (hlk : meth.locks = false) (hret : meth.sig.returnType = some .long) (hd : decode c.code pc = .ok (.lreturn, 1)) (hQ : Q (some (.long z)) T.heap locs) (hc : cells ≤ K) (hn : slots ≤ N) : Run p.tables e below (FinR s K N Q) T (mkF m pc Ls (.long z :: rest)) := by
  obtain ⟨fs, hr, hrun, hended, hW, hsame⟩ := X.leave (v := (some (.long z))) (fun h => by rw [hret] at h; cases h) hlk
  exact ⟨_, _, retOut X hx hret rfl (Or.inr (Or.inl ⟨rfl, rfl, z, rfl⟩)) hd hr, hrun, hended, _, _, rfl, hQ, ⟨_, rfl⟩, hW, hsame.mono hc hn⟩
theorem Run.retRef (X : Stand p l e R s m args below meth c T locs cells slots) (hx : p.tables.exec = Jvm.exec) {K N : Nat} {Q : Option Value → Heap → List Loc → Prop} {z : Addr} {t : FieldType} (hlk : meth.locks = false) (hret : meth.sig.returnType = some t) (ht : t.isReference = true) (hnr : narrow t (.ref z) = .ref z) (hd : decode c.code pc = .ok (.areturn, 1)) (hQ : Q (some (.ref z)) T.heap locs) (hc : cells ≤ K) (hn : slots ≤ N) : Run p.tables e below (FinR s K N Q) T (mkF m pc Ls (.ref z :: rest)) := by
  obtain ⟨fs, hr, hrun, hended, hW, hsame⟩ := X.leave (v := (some (.ref z))) (fun h => by rw [hret] at h; cases h) hlk
  exact ⟨_, _, retOut X hx hret hnr (Or.inr (Or.inr (Or.inr (Or.inr ⟨rfl, ht, rfl⟩)))) hd hr, hrun, hended, _, _, rfl, hQ, ⟨_, rfl⟩, hW, hsame.mono hc hn⟩
theorem Run.retSmall (X : Stand p l e R s m args below meth c T locs cells slots) (hx : p.tables.exec = Jvm.exec) {K N : Nat} {Q : Option Value → Heap → List Loc → Prop} {z z' : Int32} {t : FieldType} (hlk : meth.locks = false) (hret : meth.sig.returnType = some t) (ht : t = .boolean ∨ t = .byte ∨ t = .char ∨ t = .short) (hz : nar t z = z') (hd : decode c.code pc = .ok (.ireturn, 1)) (hQ : Q (some (.int z')) T.heap locs) (hc : cells ≤ K) (hn : slots ≤ N) : Run p.tables e below (FinR s K N Q) T (mkF m pc Ls (.int z :: rest)) := by
  obtain ⟨fs, hr, hrun, hended, hW, hsame⟩ := X.leave (v := (some (.int z'))) (fun h => by rw [hret] at h; cases h) hlk
  exact ⟨_, _, RoadKit.retN X hx hret ht hd (by rw [hz]; exact hr), hrun, hended, _, _, rfl, hQ, ⟨_, rfl⟩, hW, hsame.mono hc hn⟩
theorem Run.retVoid (X : Stand p l e R s m args below meth c T locs cells slots) (hx : p.tables.exec = Jvm.exec) {K N : Nat} {Q : Option Value → Heap → List Loc → Prop} (hlk : meth.locks = false) (hret : meth.sig.returnType = none) (hd : decode c.code pc = .ok (.return_, 1)) (hQ : Q none T.heap locs) (hc : cells ≤ K) (hn : slots ≤ N) : Run p.tables e below (FinR s K N Q) T (mkF m pc Ls []) := by
  obtain ⟨fs, hr, hrun, hended, hW, hsame⟩ := X.leave (v := none) (fun _ => rfl) hlk
  exact ⟨_, _, X.returnOut hx hret hd hr, hrun, hended, _, _, rfl, hQ, ⟨_, rfl⟩, hW, hsame.mono hc hn⟩
theorem callStatic (X : Stand p l e R s m args below meth c T locs cells slots) (hx : p.tables.exec = Jvm.exec) {a0 : Array Value} {Z : State} {h : Heap} {own : String} {index : Nat} {bytes : ByteArray} {maxL : Nat} {ret : Option FieldType} {rm : Room} {W : Nat} {Qc : Option Value → Heap → List Loc → Prop} {y : MethodName} {argsL : List Value} (hZ : Z.Warmed39 s.vm) (hown : s.vm.findClass own = some m.cls) (w1 : (Cond.methodLink own index y).before a0 Z = true) (w2 : (Cond.static y).before a0 Z = true) (w3 : (Cond.initialized y.cls).before a0 Z = true) (w4 : (Cond.code y bytes maxL ret).before a0 Z = true) (hy : y.cls ≠ "java/lang/invoke/MethodHandle" ∧ y.cls ≠ "java/lang/invoke/VarHandle") (eT : T.heap = h) (hM : MetFree l y (head1 [Cond.code y bytes maxL ret] rm) (fun av U => av = argsL.toArray ∧ Z.Warmed39 U.vm ∧ U.heap = h) (fun _ _ _ _ _ => True) (fun _ U o U' => ∃ v L, o = .returned v ∧ Qc v U'.heap L ∧ FrameEnd U o U' L rm.cells rm.slots)) (hd : decode c.code pc = .ok (.invokestatic index, 3)) (hlen : ∀ sig, parseMethodDescriptor y.desc = some sig → argsL.length = sig.parameters.length) (hf : rm.frames + 1 ≤ R.frames) (hl : W + (maxL + 11) + rm.locals ≤ R.locals) (hsize : Ls.size = c.maxLocals) (hW : (rest.map fun v => v.category).sum ≤ W) (hcs : cells + rm.cells ≤ R.cells) (hss : slots + rm.slots ≤ R.slots) :
    ∃ (T' : State) (L : List Loc) (v : Option Value), Stand p l e R s m args below meth c T' (locs ++ L) (cells + rm.cells) (slots + rm.slots) ∧ Qc v T'.heap L ∧ ∀ t, Steps p.tables e below (T'.setTop (mkF m (pc + 3) Ls (v.toList ++ rest))) t → Steps p.tables e below (T.setTop (mkF m pc Ls (argsL.reverse ++ rest))) t := by
  obtain ⟨v, vm, ⟨T', L', k', n'⟩, -, X', ⟨L, hQ, l1, l2, l3⟩, st⟩ := Jvm.LawKit.callS X hx (y := y) hown (mvT hZ w1) (mvT hZ w2) (mvT hZ w3) (mvT hZ w4) hy (backOf (W := W) hM hZ w4 w3 hf hl) (g := mkF m pc Ls (argsL.reverse ++ rest)) rfl hsize (argsL := argsL) (rest := rest) hlen rfl (by show 2 * 0 + _ ≤ _; omega) hd (fun _ _ => ⟨rfl, eT, hcs, hss⟩)
  dsimp only [Pt.U, Pt.locs, Pt.cells, Pt.slots] at X' hQ l1 l2 l3 st
  subst l1 l2 l3
  exact ⟨T', L, v, X', hQ, st⟩
theorem callSpecial (X : Stand p l e R s m args below meth c T locs cells slots) (hx : p.tables.exec = Jvm.exec) {a0 : Array Value} {Z : State} {h : Heap} {own : String} {index : Nat} {bytes : ByteArray} {maxL : Nat} {ret : Option FieldType} {rm : Room} {W : Nat} {Qc : Option Value → Heap → List Loc → Prop} {y : MethodName} {a : Addr} {argsL : List Value} (hy1 : y.name = "<init>") (hZ : Z.Warmed39 s.vm) (hown : s.vm.findClass own = some m.cls) (w1 : (Cond.methodLink own index y).before a0 Z = true) (w2 : (Cond.instanceMethod y).before a0 Z = true) (w3 : (Cond.initialized y.cls).before a0 Z = true) (w4 : (Cond.code y bytes maxL none).before a0 Z = true) (hy : y.cls ≠ "java/lang/invoke/MethodHandle" ∧ y.cls ≠ "java/lang/invoke/VarHandle") (eT : T.heap = h) (hM : MetFree l y (head1 [Cond.code y bytes maxL none] rm) (fun av U => av = (.ref a :: argsL).toArray ∧ Z.Warmed39 U.vm ∧ U.heap = h) (fun _ _ _ _ _ => True) (fun _ U o U' => ∃ v L, o = .returned v ∧ Qc v U'.heap L ∧ FrameEnd U o U' L rm.cells rm.slots)) (hd : decode c.code pc = .ok (.invokespecial index, 3)) (hlen : ∀ sig, parseMethodDescriptor y.desc = some sig → argsL.length = sig.parameters.length) (hf : rm.frames + 1 ≤ R.frames) (hl : W + (maxL + 11) + rm.locals ≤ R.locals) (hsize : Ls.size = c.maxLocals) (hW : (rest.map fun v => v.category).sum ≤ W) (hcs : cells + rm.cells ≤ R.cells) (hss : slots + rm.slots ≤ R.slots) :
    ∃ (T' : State) (L : List Loc) (v : Option Value), Stand p l e R s m args below meth c T' (locs ++ L) (cells + rm.cells) (slots + rm.slots) ∧ Qc v T'.heap L ∧ ∀ t, Steps p.tables e below (T'.setTop (mkF m (pc + 3) Ls (v.toList ++ rest))) t → Steps p.tables e below (T.setTop (mkF m pc Ls (argsL.reverse ++ .ref a :: rest))) t := by
  obtain ⟨v, vm, ⟨T', L', k', n'⟩, -, X', ⟨L, hQ, l1, l2, l3⟩, st⟩ := X.specialBack hx (y := y) hy1 hown (mvT hZ w1) (mvT hZ w2) (mvT hZ w4) hy (backOf (W := W) hM hZ w4 w3 hf hl) (g := mkF m pc Ls (argsL.reverse ++ .ref a :: rest)) rfl hsize (Steps.refl _) (a := a) (argsL := argsL) (rest := rest) hlen rfl (by show 2 * 0 + _ ≤ _; omega) hd (fun _ _ => ⟨rfl, eT, hcs, hss⟩)
  dsimp only [Pt.U, Pt.locs, Pt.cells, Pt.slots] at X' hQ l1 l2 l3 st
  subst l1 l2 l3
  exact ⟨T', L, v, X', hQ, fun t kt => st.trans kt⟩
theorem callVirtual (X : Stand p l e R s m args below meth c T locs cells slots) (hx : p.tables.exec = Jvm.exec) {a0 : Array Value} {Z : State} {h : Heap} {own : String} {index : Nat} {bytes : ByteArray} {maxL : Nat} {ret : Option FieldType} {rm : Room} {W : Nat} {Qc : Option Value → Heap → List Loc → Prop} {y z : MethodName} {C : String} {a : Addr} {argsL : List Value} (hZ : Z.Warmed39 s.vm) (hown : s.vm.findClass own = some m.cls) (w1 : (Cond.methodLink own index y).before a0 Z = true) (w2 : (Cond.declares y).before a0 Z = true) (hnf : NotFace s y) (w5 : (Cond.selects C y z).before a0 Z = true) (w6 : (Cond.instanceMethod z).before a0 Z = true) (w3 : (Cond.initialized z.cls).before a0 Z = true) (w4 : (Cond.code z bytes maxL ret).before a0 Z = true) (hy : y.cls ≠ "java/lang/invoke/MethodHandle" ∧ y.cls ≠ "java/lang/invoke/VarHandle") (eT : T.heap = h) (E : Exa Z h a C) (hM : MetFree l z (head1 [Cond.code z bytes maxL ret] rm) (fun av U => av = (.ref a :: argsL).toArray ∧ Z.Warmed39 U.vm ∧ U.heap = h) (fun _ _ _ _ _ => True) (fun _ U o U' => ∃ v L, o = .returned v ∧ Qc v U'.heap L ∧ FrameEnd U o U' L rm.cells rm.slots)) (hd : decode c.code pc = .ok (.invokevirtual index, 3)) (hlen : ∀ sig, parseMethodDescriptor y.desc = some sig → argsL.length = sig.parameters.length) (hf : rm.frames + 1 ≤ R.frames) (hl : W + (maxL + 11) + rm.locals ≤ R.locals) (hsize : Ls.size = c.maxLocals) (hW : (rest.map fun v => v.category).sum ≤ W) (hcs : cells + rm.cells ≤ R.cells) (hss : slots + rm.slots ≤ R.slots) :
    ∃ (T' : State) (L : List Loc) (v : Option Value), Stand p l e R s m args below meth c T' (locs ++ L) (cells + rm.cells) (slots + rm.slots) ∧ Qc v T'.heap L ∧ ∀ t, Steps p.tables e below (T'.setTop (mkF m (pc + 3) Ls (v.toList ++ rest))) t → Steps p.tables e below (T.setTop (mkF m pc Ls (argsL.reverse ++ .ref a :: rest))) t := by
  obtain ⟨cB, kB, qa, -, qc⟩ := isOf hZ eT E
  obtain ⟨v, vm, ⟨T', L', k', n'⟩, -, X', ⟨L, hQ, l1, l2, l3⟩, st⟩ := X.virtualBack hx (y := y) (z := z) hown (mvT hZ w1) (mvT hZ w2) hnf (mvT hZ w5) (mvT hZ w6) hy (backOf (W := W) hM hZ w4 w3 hf hl) qa qc (g := mkF m pc Ls (argsL.reverse ++ .ref a :: rest)) rfl hsize (Steps.refl _) (argsL := argsL) (rest := rest) hlen rfl (by show 2 * 0 + _ ≤ _; omega) hd (fun _ _ => ⟨rfl, eT, hcs, hss⟩)
  dsimp only [Pt.U, Pt.locs, Pt.cells, Pt.slots] at X' hQ l1 l2 l3 st
  subst l1 l2 l3
  exact ⟨T', L, v, X', hQ, fun t kt => st.trans kt⟩
end Steps
section Arrays
variable {Z : State} {h h' : Heap} {a b : Addr} {ty : FieldType} {n : Int32} {f : Int32 → Int32} {sl : Nat} {v : Value} {ws : List Addr}
/-- the array at a: of kind ty, n places, the place j holds the int f j -/
def Ints (Z : State) (h : Heap) (a : Addr) (ty : FieldType) (n : Int32) (f : Int32 → Int32) : Prop := ∃ cl : Cell, Arr Z h a cl ty ∧ cl.slots.size = n.toNatClampNeg ∧ ¬ n < 0 ∧ ∀ j : Int32, ¬ j < 0 → j < n → cl.slots[j.toNatClampNeg]? = some (.int (f j))
theorem Ints.lt (F : Ints Z h a ty n f) : a < h.size := by obtain ⟨_, A, -⟩ := F; exact A.lt
theorem Ints.ext (E : Ext h h') (F : Ints Z h a ty n f) : Ints Z h' a ty n f := by obtain ⟨c, A, r⟩ := F; exact ⟨c, A.ext E, r⟩
theorem Ints.other (W : Wr h h' b sl v) (F : Ints Z h a ty n f) (q : a ≠ b) : Ints Z h' a ty n f := by obtain ⟨c, A, r⟩ := F; exact ⟨c, A.other W q, r⟩
theorem Ints.keep (F : Ints Z h a ty n f) (K : Keep h h' ws) (q : a ∉ ws) : Ints Z h' a ty n f := by obtain ⟨c, A, r⟩ := F; exact ⟨c, ⟨K.2.1 a c A.1 q, A.2⟩, r⟩
theorem Ints.inb {cl : Cell} (S : cl.slots.size = n.toNatClampNeg) {j : Int32} (h1 : ¬ j < 0) (h2 : j < n) : ¬ (j < 0 ∨ cl.slots.size ≤ j.toNatClampNeg) := inb_of S ⟨h1, h2⟩
theorem nat_inj {i j : Int32} (hi : ¬ i < 0) (hj : ¬ j < 0) (q : i.toNatClampNeg = j.toNatClampNeg) : i = j := Int32.toInt_inj.mp (by rw [nat_of hi, nat_of hj, q])
theorem Ints.set {j : Int32} {x : Int32} {cl : Cell} (A : Arr Z h a cl ty) (S : cl.slots.size = n.toNatClampNeg) (hn : ¬ n < 0) (H : ∀ j : Int32, ¬ j < 0 → j < n → cl.slots[j.toNatClampNeg]? = some (.int (f j))) (h1 : ¬ j < 0) (h2 : j < n) (W : Wr h h' a j.toNatClampNeg (.int x)) : Ints Z h' a ty n (fun i => if i = j then x else f i) := by
  refine ⟨_, A.same W, by rw [← S]; simp [Cell.setSlot], hn, fun i hi hi2 => ?_⟩
  have hlt : i.toNatClampNeg < cl.slots.size := Nat.lt_of_not_le fun q => inb_of S ⟨hi, hi2⟩ (Or.inr q)
  by_cases e : i = j
  · subst e; simp [Cell.setSlot, hlt]
  · have hne : j.toNatClampNeg ≠ i.toNatClampNeg := fun q => e (nat_inj hi h1 q.symm)
    simp only [if_neg e]
    rw [← H i hi hi2]
    simp [Cell.setSlot, Array.getElem?_setIfInBounds_ne hne]
theorem Ints.new {k : ClassId} (A : Arr Z h a (newA k ty n) ty) (hn : ¬ n < 0) (hd : defaultValue ty = .int 0) : Ints Z h a ty n (fun _ => 0) := by
  obtain ⟨cl, A', -, S, -, H, -⟩ := Arv.new A hn
  exact ⟨cl, A', S, hn, fun j h1 h2 => by rw [H _ (Nat.lt_of_not_le fun q => inb_of S ⟨h1, h2⟩ (Or.inr q))]; simp [hd]⟩
theorem Ints.congr {g : Int32 → Int32} (F : Ints Z h a ty n f) (q : ∀ j : Int32, ¬ j < 0 → j < n → f j = g j) : Ints Z h a ty n g := by
  obtain ⟨cl, A, S, hn, H⟩ := F
  exact ⟨cl, A, S, hn, fun j h1 h2 => by rw [← q j h1 h2]; exact H j h1 h2⟩
end Arrays
section ArraySteps
variable {p : Program} {l : Launch} {e : Env} {R : Room} {s : State} {m : MethodId} {args : Array Value} {below : List Frame} {meth : Method} {c : Code} {T : State} {locs : List Loc} {cells slots : Nat} {Φ : Outcome → State → Prop} {pc pc' : Nat} {Ls : Array Slot} {rest : List Value} {Z : State} {h : Heap} {a : Addr} {n j : Int32} {f : Int32 → Int32}
theorem Run.iaload (X : Stand p l e R s m args below meth c T locs cells slots) (hx : p.tables.exec = Jvm.exec) (hZ : Z.Warmed39 s.vm) (eT : T.heap = h) (F : Ints Z h a .int n f) (h1 : ¬ j < 0) (h2 : j < n) (hd : decode c.code pc = .ok (.iaload, 1)) (hp : pc + 1 = pc') (k : Run p.tables e below Φ T (mkF m pc' Ls (.int (f j) :: rest))) : Run p.tables e below Φ T (mkF m pc Ls (.int j :: .ref a :: rest)) := by
  subst hp
  obtain ⟨cl, A, S, hn, H⟩ := F
  exact k.back fun _ kt => X.iaload hx (by rw [eT]; exact A.1) (State.isArrayOf_alike hZ.alike A.2.1) A.2.2 (inb_of S ⟨h1, h2⟩) (H j h1 h2) (g := mkF m pc Ls (.int j :: .ref a :: rest)) rfl rfl hd _ kt
theorem Run.baload (X : Stand p l e R s m args below meth c T locs cells slots) (hx : p.tables.exec = Jvm.exec) (hZ : Z.Warmed39 s.vm) (eT : T.heap = h) (F : Ints Z h a .byte n f) (h1 : ¬ j < 0) (h2 : j < n) (hd : decode c.code pc = .ok (.baload, 1)) (hp : pc + 1 = pc') (k : Run p.tables e below Φ T (mkF m pc' Ls (.int (f j) :: rest))) : Run p.tables e below Φ T (mkF m pc Ls (.int j :: .ref a :: rest)) := by
  subst hp
  obtain ⟨cl, A, S, hn, H⟩ := F
  exact k.back fun _ kt => X.baloadBytes hx (by rw [eT]; exact A.1) (State.isArrayOf_alike hZ.alike A.2.1) A.2.2 (inb_of S ⟨h1, h2⟩) (H j h1 h2) (g := mkF m pc Ls (.int j :: .ref a :: rest)) rfl rfl hd _ kt
theorem Run.zaload (X : Stand p l e R s m args below meth c T locs cells slots) (hx : p.tables.exec = Jvm.exec) (hZ : Z.Warmed39 s.vm) (eT : T.heap = h) (F : Ints Z h a .boolean n f) (h1 : ¬ j < 0) (h2 : j < n) (hd : decode c.code pc = .ok (.baload, 1)) (hp : pc + 1 = pc') (k : Run p.tables e below Φ T (mkF m pc' Ls (.int (f j) :: rest))) : Run p.tables e below Φ T (mkF m pc Ls (.int j :: .ref a :: rest)) := by
  subst hp
  obtain ⟨cl, A, S, hn, H⟩ := F
  exact k.back fun _ kt => X.baloadBooleans hx (by rw [eT]; exact A.1) (State.isArrayOf_alike hZ.alike A.2.1) A.2.2 (inb_of S ⟨h1, h2⟩) (H j h1 h2) (g := mkF m pc Ls (.int j :: .ref a :: rest)) rfl rfl hd _ kt
theorem Run.arraylength (X : Stand p l e R s m args below meth c T locs cells slots) (hx : p.tables.exec = Jvm.exec) {ty : FieldType} (hZ : Z.Warmed39 s.vm) (eT : T.heap = h) (F : Ints Z h a ty n f) (hd : decode c.code pc = .ok (.arraylength, 1)) (hp : pc + 1 = pc') (k : Run p.tables e below Φ T (mkF m pc' Ls (.int n :: rest))) : Run p.tables e below Φ T (mkF m pc Ls (.ref a :: rest)) := by
  subst hp
  obtain ⟨cl, A, S, hn, H⟩ := F
  rw [← len_of S hn] at k
  exact k.back fun _ kt => X.arraylength hx (by rw [eT]; exact A.1) (State.isArrayOf_alike hZ.alike A.2.1) (g := mkF m pc Ls (.ref a :: rest)) rfl rfl hd _ kt
theorem st_iastore (X : Stand p l e R s m args below meth c T locs cells slots) (hx : p.tables.exec = Jvm.exec) {x : Int32} (hZ : Z.Warmed39 s.vm) (eT : T.heap = h) (F : Ints Z h a .int n f) (h1 : ¬ j < 0) (h2 : j < n) (hd : decode c.code pc = .ok (.iastore, 1)) : ∃ T' h' sl v, Stand p l e R s m args below meth c T' (locs ++ [⟨a, sl⟩]) cells slots ∧ T'.heap = h' ∧ Wr h h' a sl v ∧ Ints Z h' a .int n (fun i => if i = j then x else f i) ∧ ∀ t, Steps p.tables e below (T'.setTop (mkF m (pc + 1) Ls rest)) t → Steps p.tables e below (T.setTop (mkF m pc Ls (.int x :: .int j :: .ref a :: rest))) t := by
  obtain ⟨cl, A, S, hn, H⟩ := F
  obtain ⟨T', h', X', e', W, st⟩ := stI X hx hZ eT A (j := j) (x := x) (inb_of S ⟨h1, h2⟩) (g := mkF m pc Ls (.int x :: .int j :: .ref a :: rest)) rfl rfl hd
  exact ⟨T', h', _, _, X', e', W, Ints.set A S hn H h1 h2 W, st⟩
theorem st_bastore (X : Stand p l e R s m args below meth c T locs cells slots) (hx : p.tables.exec = Jvm.exec) {x : Int32} (hZ : Z.Warmed39 s.vm) (eT : T.heap = h) (F : Ints Z h a .byte n f) (h1 : ¬ j < 0) (h2 : j < n) (hd : decode c.code pc = .ok (.bastore, 1)) : ∃ T' h' sl v, Stand p l e R s m args below meth c T' (locs ++ [⟨a, sl⟩]) cells slots ∧ T'.heap = h' ∧ Wr h h' a sl v ∧ Ints Z h' a .byte n (fun i => if i = j then x.toInt8.toInt32 else f i) ∧ ∀ t, Steps p.tables e below (T'.setTop (mkF m (pc + 1) Ls rest)) t → Steps p.tables e below (T.setTop (mkF m pc Ls (.int x :: .int j :: .ref a :: rest))) t := by
  obtain ⟨cl, A, S, hn, H⟩ := F
  obtain ⟨T', h', X', e', W, st⟩ := stB X hx hZ eT A (j := j) (x := x) (inb_of S ⟨h1, h2⟩) (g := mkF m pc Ls (.int x :: .int j :: .ref a :: rest)) rfl rfl hd
  exact ⟨T', h', _, _, X', e', W, Ints.set A S hn H h1 h2 W, st⟩
theorem st_zastore (X : Stand p l e R s m args below meth c T locs cells slots) (hx : p.tables.exec = Jvm.exec) {x : Int32} (hZ : Z.Warmed39 s.vm) (eT : T.heap = h) (F : Ints Z h a .boolean n f) (h1 : ¬ j < 0) (h2 : j < n) (hd : decode c.code pc = .ok (.bastore, 1)) : ∃ T' h' sl v, Stand p l e R s m args below meth c T' (locs ++ [⟨a, sl⟩]) cells slots ∧ T'.heap = h' ∧ Wr h h' a sl v ∧ Ints Z h' a .boolean n (fun i => if i = j then x &&& 1 else f i) ∧ ∀ t, Steps p.tables e below (T'.setTop (mkF m (pc + 1) Ls rest)) t → Steps p.tables e below (T.setTop (mkF m pc Ls (.int x :: .int j :: .ref a :: rest))) t := by
  obtain ⟨cl, A, S, hn, H⟩ := F
  obtain ⟨T', h', X', e', W, st⟩ := stZ X hx hZ eT A (j := j) (x := x) (inb_of S ⟨h1, h2⟩) (g := mkF m pc Ls (.int x :: .int j :: .ref a :: rest)) rfl rfl hd
  exact ⟨T', h', _, _, X', e', W, Ints.set A S hn H h1 h2 W, st⟩
theorem st_newarray (X : Stand p l e R s m args below meth c T locs cells slots) (hx : p.tables.exec = Jvm.exec) {aty : ArrayType} {a0 : Array Value} (hZ : Z.Warmed39 s.vm) (w : (Cond.arrayClass (newarray.typeOf aty)).before a0 Z = true) (eT : T.heap = h) (hd : decode c.code pc = .ok (.newarray aty, 2)) (hn : ¬ n < 0) {cap : Nat} (hcap : n.toNatClampNeg ≤ cap) (hb : cap * 8 ≤ 536870912) (hc : cells + 1 ≤ R.cells) (hl : slots + cap ≤ R.slots) (hdef : defaultValue (newarray.typeOf aty) = .int 0) : ∃ T' h' b, Stand p l e R s m args below meth c T' locs (cells + 1) (slots + cap) ∧ T'.heap = h' ∧ Ext h h' ∧ b = h.size ∧ Ints Z h' b (newarray.typeOf aty) n (fun _ => 0) ∧ ∀ t, Steps p.tables e below (T'.setTop (mkF m (pc + 2) Ls (.ref b :: rest))) t → Steps p.tables e below (T.setTop (mkF m pc Ls (.int n :: rest))) t := by
  obtain ⟨T', h', cA, X', e', E, A, st⟩ := newP X hx hZ w eT (g := mkF m pc Ls (.int n :: rest)) rfl hd rfl hn hcap hb hc hl
  exact ⟨T', h', _, X', e', E, rfl, Ints.new A hn hdef, st⟩
end ArraySteps
section Table
variable {Z : State} {args : Array Value} {t : Term} {a : Addr} {c : Cell} {ty : FieldType} {n j : Int32}
theorem tab_ints {h : Heap} (F : Tab Z h a c ty n) : Ints Z h a ty n (atv c) := ⟨c, F.1, F.2.1, F.2.2.1, fun j h1 h2 => F.2.2.2 j (inb_of F.2.1 ⟨h1, h2⟩)⟩
theorem tab_all {q : Jvm.Cond} (et : ∀ idx, t.eval args Z none idx Z = some (.ref a)) (F : Tab Z Z.heap a c ty n) (h : (Jvm.Cond.all t q).value args Z none Z [] = some true) (h1 : ¬ j < 0) (h2 : j < n) : q.value args Z none Z [j.toNatClampNeg] = some true :=
  Jvm.Cond.all_elim (et []) (F.1.fin (Vm.Alike.refl _)) h _ (Nat.lt_of_not_le fun y => inb_of F.2.1 ⟨h1, h2⟩ (Or.inr y))
theorem tab_elem (et : ∀ idx, t.eval args Z none idx Z = some (.ref a)) (F : Tab Z Z.heap a c ty n) (h1 : ¬ j < 0) (h2 : j < n) : (Term.elem t (.index 0)).eval args Z none [j.toNatClampNeg] Z = some (.int (atv c j)) :=
  (elem_f (et _) (idx_at h1) (F.1.fin (Vm.Alike.refl _)) h1).trans (F.2.2.2 j (inb_of F.2.1 ⟨h1, h2⟩))
theorem tab_le {x v : Int32} (et : ∀ idx, t.eval args Z none idx Z = some (.ref a)) (F : Tab Z Z.heap a c ty n) (h : (Jvm.Cond.all t (.or (.le (.int x) (.index 0)) (.eq (.elem t (.index 0)) (.int v)))).value args Z none Z [] = some true) (j : Int32) (h1 : ¬ j < 0) (h2 : j < n) : x ≤ j ∨ atv c j = v :=
  or_e2 (Jvm.Cond.le_ints (Term.int_eval x) (idx_at h1)) (Jvm.Cond.eq_ints (tab_elem et F h1 h2) (Term.int_eval v)) (tab_all et F h h1 h2)
theorem tab_in {x y v : Int32} (et : ∀ idx, t.eval args Z none idx Z = some (.ref a)) (F : Tab Z Z.heap a c ty n) (h : (Jvm.Cond.all t (.or (.lt (.index 0) (.int x)) (.or (.le (.int y) (.index 0)) (.eq (.elem t (.index 0)) (.int v))))).value args Z none Z [] = some true) (j : Int32) (h1 : ¬ j < 0) (h2 : j < n) : j < x ∨ ¬ j < y ∨ atv c j = v :=
  or3 (tab_all et F h h1 h2) (Jvm.Cond.lt_ints (idx_at h1) (Term.int_eval x)) (Jvm.Cond.le_ints (Term.int_eval y) (idx_at h1)) (Jvm.Cond.eq_ints (tab_elem et F h1 h2) (Term.int_eval v))
theorem tab_one {k v : Int32} (et : ∀ idx, t.eval args Z none idx Z = some (.ref a)) (F : Tab Z Z.heap a c ty n) (h1 : ¬ k < 0) (h2 : k < n) (h : (Jvm.Cond.eq (.elem t (.int k)) (.int v)).value args Z none Z [] = some true) : atv c k = v := by
  have e := (elem_f (et []) (Term.int_eval (args := args) (first := Z) (o := none) (idx := []) (s := Z) k) (F.1.fin (Vm.Alike.refl _)) h1).trans (F.2.2.2 k (inb_of F.2.1 ⟨h1, h2⟩))
  have q := (Jvm.Cond.eq_ints e (Term.int_eval v)).symm.trans h
  simpa using q
theorem tab_ge {x v : Int32} (et : ∀ idx, t.eval args Z none idx Z = some (.ref a)) (F : Tab Z Z.heap a c ty n) (h : (Jvm.Cond.all t (.or (.lt (.index 0) (.int x)) (.eq (.elem t (.index 0)) (.int v)))).value args Z none Z [] = some true) (j : Int32) (h1 : ¬ j < 0) (h2 : j < n) : j < x ∨ atv c j = v :=
  or_e2 (Jvm.Cond.lt_ints (idx_at h1) (Term.int_eval x)) (Jvm.Cond.eq_ints (tab_elem et F h1 h2) (Term.int_eval v)) (tab_all et F h h1 h2)
theorem tab_start (hf : Fit Z) (et : t.eval args Z none [] Z = some (.ref a)) (A : Arr Z Z.heap a c ty) (hl : (Jvm.Cond.eq (Term.length t) (.int n)).value args Z none Z [] = some true) (ht : ty = .int ∨ ty = .boolean ∨ ty = .byte ∨ ty = .char ∨ ty = .short) (hn : ¬ n < 0) : Tab Z Z.heap a c ty n := by
  have e := eqv_i (Term.int_eval n) hl
  have ha : Z.arrayAt? a = some c := A.fin (Vm.Alike.refl _)
  by_cases q : c.slots.size < 2 ^ 31
  · have e2 := len_f et ha q
    exact Tab.start hf A ht q (by simpa using Option.some.inj (e2.symm.trans e)) hn
  · simp [Term.eval, et, ha, q] at e
theorem small_int (N : Nat) (hN : N < 2147483648) (P : Int32 → Prop) (H : ∀ k : Fin N, P (Int32.ofNat k.val)) (c : Int32) (h1 : ¬ c < 0) (h2 : c < Int32.ofNat N) : P c := by
  have e : c.toInt = (c.toNatClampNeg : Int) := nat_of h1
  have hc : Int32.ofNat c.toNatClampNeg = c := by
    apply Int32.toInt_inj.mp
    rw [Int32.toInt_ofNat_of_lt (by have := c.toInt_lt; omega), e]
  have h3 : c.toInt < (Int32.ofNat N).toInt := Int32.lt_iff_toInt_lt.mp h2
  rw [Int32.toInt_ofNat_of_lt (by omega)] at h3
  rw [← hc]
  exact H ⟨c.toNatClampNeg, by omega⟩
end Table
end Jvm.OwnRun

namespace Jvm.Pilot.@@N@@
open Jvm Jvm.ClassFile Sem Op Lib Jvm.Free Jvm.Stand Jvm.LawKit Jvm.RoadKit Jvm.OwnRun Bundle Jvm.Pilot.@@N@@.Jvm.D
theorem own_pd0 : parseMethodDescriptor "(I)Lcom/example/portcullis/portcullis/Outcome;" = some ⟨[.int], some (.object "com/example/portcullis/portcullis/Outcome")⟩ := by decide +kernel
theorem own_pd1 : parseMethodDescriptor "()Z" = some ⟨[], some .boolean⟩ := by decide +kernel
theorem own_pd2 : parseMethodDescriptor "()I" = some ⟨[], some .int⟩ := by decide +kernel
theorem own_pn0 : plainName "com/example/portcullis/portcullis/OutcomeAllowsPinLaw" = true := by first | (simp [plainName, overriddenIn]; done) | decide +kernel
theorem own_pn1 : plainName "com/example/portcullis/portcullis/Outcome" = true := by first | (simp [plainName, overriddenIn]; done) | decide +kernel
def own_F1 (p0 : Int32) (a_ALLOW : Addr) (a_ALLOW_LOG : Addr) (a_DENY : Addr) (a_DENY_LOG : Addr) (a_DEFER : Addr) : Addr := (if p0 = (0 : Int32) then a_ALLOW else (if p0 = (1 : Int32) then a_ALLOW_LOG else (if p0 = (2 : Int32) then a_DENY else (if p0 = (3 : Int32) then a_DENY_LOG else a_DEFER))))
theorem own_d1_0 : decode method_3_code 0 = .ok (.iload_n 0, 1) := by decide +kernel
theorem own_d1_1 : decode method_3_code 1 = .ok (.ifCond .ne 7, 3) := by decide +kernel
theorem own_d1_4 : decode method_3_code 4 = .ok (.getstatic 27, 3) := by decide +kernel
theorem own_d1_7 : decode method_3_code 7 = .ok (.areturn, 1) := by decide +kernel
theorem own_d1_8 : decode method_3_code 8 = .ok (.iload_n 0, 1) := by decide +kernel
theorem own_d1_9 : decode method_3_code 9 = .ok (.iconst 1, 1) := by decide +kernel
theorem own_d1_10 : decode method_3_code 10 = .ok (.if_icmp .ne 7, 3) := by decide +kernel
theorem own_d1_13 : decode method_3_code 13 = .ok (.getstatic 31, 3) := by decide +kernel
theorem own_d1_16 : decode method_3_code 16 = .ok (.areturn, 1) := by decide +kernel
theorem own_d1_17 : decode method_3_code 17 = .ok (.iload_n 0, 1) := by decide +kernel
theorem own_d1_18 : decode method_3_code 18 = .ok (.iconst 2, 1) := by decide +kernel
theorem own_d1_19 : decode method_3_code 19 = .ok (.if_icmp .ne 7, 3) := by decide +kernel
theorem own_d1_22 : decode method_3_code 22 = .ok (.getstatic 34, 3) := by decide +kernel
theorem own_d1_25 : decode method_3_code 25 = .ok (.areturn, 1) := by decide +kernel
theorem own_d1_26 : decode method_3_code 26 = .ok (.iload_n 0, 1) := by decide +kernel
theorem own_d1_27 : decode method_3_code 27 = .ok (.iconst 3, 1) := by decide +kernel
theorem own_d1_28 : decode method_3_code 28 = .ok (.if_icmp .ne 7, 3) := by decide +kernel
theorem own_d1_31 : decode method_3_code 31 = .ok (.getstatic 37, 3) := by decide +kernel
theorem own_d1_34 : decode method_3_code 34 = .ok (.areturn, 1) := by decide +kernel
theorem own_d1_35 : decode method_3_code 35 = .ok (.getstatic 40, 3) := by decide +kernel
theorem own_d1_38 : decode method_3_code 38 = .ok (.areturn, 1) := by decide +kernel
theorem own_ef1 (m : MethodId) (x0 : Int32) : entryFrame m #[(.int x0)] 1 = mkF m 0 #[.val (.int x0)] [] := by first | (simp [entryFrame, mkF, argsToLocals, Value.category]; done) | rfl
set_option maxRecDepth 65536 in
set_option maxHeartbeats 40000000 in
theorem rm1 (l : Launch) (Z : State) (a0 : Array Value) (hw : ∀ d ∈ tables_1, d.before a0 Z = true) (ws : List Jvm.Cond) (p0 : Int32) (a_ALLOW : Addr) (a_ALLOW_LOG : Addr) (a_DENY : Addr) (a_DENY_LOG : Addr) (a_DEFER : Addr) (h0 : Heap) (n0 : Nat) (Z0 : n0 ≤ h0.size) (S_ALLOW : Sta Z h0 "com/example/portcullis/portcullis/Outcome" "ALLOW" "Lcom/example/portcullis/portcullis/Outcome;" (.ref a_ALLOW)) (S_ALLOW_LOG : Sta Z h0 "com/example/portcullis/portcullis/Outcome" "ALLOW_LOG" "Lcom/example/portcullis/portcullis/Outcome;" (.ref a_ALLOW_LOG)) (S_DENY : Sta Z h0 "com/example/portcullis/portcullis/Outcome" "DENY" "Lcom/example/portcullis/portcullis/Outcome;" (.ref a_DENY)) (S_DENY_LOG : Sta Z h0 "com/example/portcullis/portcullis/Outcome" "DENY_LOG" "Lcom/example/portcullis/portcullis/Outcome;" (.ref a_DENY_LOG)) (S_DEFER : Sta Z h0 "com/example/portcullis/portcullis/Outcome" "DEFER" "Lcom/example/portcullis/portcullis/Outcome;" (.ref a_DEFER)) :
    MetFree l (⟨"com/example/portcullis/portcullis/OutcomeAllowsPinLaw", "pick", "(I)Lcom/example/portcullis/portcullis/Outcome;"⟩ : MethodName) (head1 (Jvm.Cond.code (⟨"com/example/portcullis/portcullis/OutcomeAllowsPinLaw", "pick", "(I)Lcom/example/portcullis/portcullis/Outcome;"⟩ : MethodName) method_3_code 1 (some (.object "com/example/portcullis/portcullis/Outcome")) :: ws) ({ frames := 0, cells := 0, slots := 0, locals := 0 } : Room)) (fun a U => a = #[(.int p0)] ∧ Z.Warmed39 U.vm ∧ U.heap = h0) (fun _ _ _ _ _ => True) (fun _ U o U' => ∃ v L, o = .returned v ∧ (QPure n0 h0 (.ref (own_F1 p0 a_ALLOW a_ALLOW_LOG a_DENY a_DENY_LOG a_DEFER))) v U'.heap L ∧ FrameEnd U o U' L ({ frames := 0, cells := 0, slots := 0, locals := 0 } : Room).cells ({ frames := 0, cells := 0, slots := 0, locals := 0 } : Room).slots) := by
  refine MetFree.of_bodySF (plainFor_of_name own_pn0) hisR ?_
  intro p e s m args below meth c s₁ Bd hml0 hP hK
  obtain ⟨rfl, hZ, hh⟩ := hP
  have hx := Bd.exec
  have hby := Bd.bytes
  have hml : c.maxLocals = 1 := hml0
  have hown : s.vm.findClass "com/example/portcullis/portcullis/OutcomeAllowsPinLaw" = some m.cls := findClass_of_methodNamed Bd.named
  have hnm := (name_of_methodNamed Bd.named Bd.method).1
  have X0 : Stand p l e ({ frames := 0, cells := 0, slots := 0, locals := 0 } : Room) s m #[(.int p0)] below meth c s₁ [] 0 0 := Stand.of_body Bd
  have e0 : s₁.heap = h0 := by rw [← hh, Bd.state]; rfl
  have N0 := Fr.nil n0
  suffices H : Run p.tables e below (FinR s ({ frames := 0, cells := 0, slots := 0, locals := 0 } : Room).cells ({ frames := 0, cells := 0, slots := 0, locals := 0 } : Room).slots (QPure n0 h0 (.ref (own_F1 p0 a_ALLOW a_ALLOW_LOG a_DENY a_DENY_LOG a_DEFER)))) s₁ (mkF m 0 #[.val (.int p0)] []) by
    obtain ⟨s₂, o, k1, k2, k3, k4⟩ := H
    exact ⟨s₂, o, castTop (own_ef1 m p0) k1, k2, k3, k4⟩
  obtain ⟨r, hr⟩ : ∃ r, r = own_F1 p0 a_ALLOW a_ALLOW_LOG a_DENY a_DENY_LOG a_DEFER := ⟨_, rfl⟩
  rw [← hr]
  rw [own_F1] at hr
  refine Run.iloadN (pc' := 1) X0 hx (hb hby own_d1_0) rfl rfl ?_
  by_cases hc1 : p0 = (0 : Int32)
  · rw [if_pos hc1] at hr
    refine Run.ifNo (pc' := 4) X0 hx (hb hby own_d1_1) ((if0 _ _).trans (teq hc1).2) rfl ?_
    obtain ⟨T1, X1, e1, st1⟩ := getS2 X0 hx hZ hown (host := "") (Or.inl (hw _ (List.mem_of_getElem? (i := 5) rfl))) Via.refl e0 S_ALLOW (g := (mkF m 4 #[.val (.int p0)] [])) rfl (hb hby own_d1_4)
    refine Run.back (g' := (mkF m 7 #[.val (.int p0)] [(.ref a_ALLOW)])) st1 ?_
    exact Run.retRef X1 hx Bd.notSynchronized Bd.returns rfl rfl (hb hby own_d1_7) ⟨by rw [hr], N0, e1⟩ (by decide) (by decide)
  · rw [if_neg hc1] at hr
    refine Run.ifYes (pc' := 8) X0 hx (hb hby own_d1_1) ((if0 _ _).trans (feq hc1).2) (by decide) (by decide) ?_
    refine Run.iloadN (pc' := 9) X0 hx (hb hby own_d1_8) rfl rfl ?_
    refine Run.iconst (pc' := 10) (v := (1 : Int32)) X0 hx (hb hby own_d1_9) rfl rfl ?_
    by_cases hc10 : p0 = (1 : Int32)
    · rw [if_pos hc10] at hr
      refine Run.icmpNo (pc' := 13) X0 hx (hb hby own_d1_10) (teq hc10).2 rfl ?_
      obtain ⟨T2, X2, e2, st2⟩ := getS2 X0 hx hZ hown (host := "") (Or.inl (hw _ (List.mem_of_getElem? (i := 32) rfl))) Via.refl e0 S_ALLOW_LOG (g := (mkF m 13 #[.val (.int p0)] [])) rfl (hb hby own_d1_13)
      refine Run.back (g' := (mkF m 16 #[.val (.int p0)] [(.ref a_ALLOW_LOG)])) st2 ?_
      exact Run.retRef X2 hx Bd.notSynchronized Bd.returns rfl rfl (hb hby own_d1_16) ⟨by rw [hr], N0, e2⟩ (by decide) (by decide)
    · rw [if_neg hc10] at hr
      refine Run.icmpYes (pc' := 17) X0 hx (hb hby own_d1_10) (feq hc10).2 (by decide) (by decide) ?_
      refine Run.iloadN (pc' := 18) X0 hx (hb hby own_d1_17) rfl rfl ?_
      refine Run.iconst (pc' := 19) (v := (2 : Int32)) X0 hx (hb hby own_d1_18) rfl rfl ?_
      by_cases hc19 : p0 = (2 : Int32)
      · rw [if_pos hc19] at hr
        refine Run.icmpNo (pc' := 22) X0 hx (hb hby own_d1_19) (teq hc19).2 rfl ?_
        obtain ⟨T3, X3, e3, st3⟩ := getS2 X0 hx hZ hown (host := "") (Or.inl (hw _ (List.mem_of_getElem? (i := 34) rfl))) Via.refl e0 S_DENY (g := (mkF m 22 #[.val (.int p0)] [])) rfl (hb hby own_d1_22)
        refine Run.back (g' := (mkF m 25 #[.val (.int p0)] [(.ref a_DENY)])) st3 ?_
        exact Run.retRef X3 hx Bd.notSynchronized Bd.returns rfl rfl (hb hby own_d1_25) ⟨by rw [hr], N0, e3⟩ (by decide) (by decide)
      · rw [if_neg hc19] at hr
        refine Run.icmpYes (pc' := 26) X0 hx (hb hby own_d1_19) (feq hc19).2 (by decide) (by decide) ?_
        refine Run.iloadN (pc' := 27) X0 hx (hb hby own_d1_26) rfl rfl ?_
        refine Run.iconst (pc' := 28) (v := (3 : Int32)) X0 hx (hb hby own_d1_27) rfl rfl ?_
        by_cases hc28 : p0 = (3 : Int32)
        · rw [if_pos hc28] at hr
          refine Run.icmpNo (pc' := 31) X0 hx (hb hby own_d1_28) (teq hc28).2 rfl ?_
          obtain ⟨T4, X4, e4, st4⟩ := getS2 X0 hx hZ hown (host := "") (Or.inl (hw _ (List.mem_of_getElem? (i := 28) rfl))) Via.refl e0 S_DENY_LOG (g := (mkF m 31 #[.val (.int p0)] [])) rfl (hb hby own_d1_31)
          refine Run.back (g' := (mkF m 34 #[.val (.int p0)] [(.ref a_DENY_LOG)])) st4 ?_
          exact Run.retRef X4 hx Bd.notSynchronized Bd.returns rfl rfl (hb hby own_d1_34) ⟨by rw [hr], N0, e4⟩ (by decide) (by decide)
        · rw [if_neg hc28] at hr
          refine Run.icmpYes (pc' := 35) X0 hx (hb hby own_d1_28) (feq hc28).2 (by decide) (by decide) ?_
          obtain ⟨T5, X5, e5, st5⟩ := getS2 X0 hx hZ hown (host := "") (Or.inl (hw _ (List.mem_of_getElem? (i := 33) rfl))) Via.refl e0 S_DEFER (g := (mkF m 35 #[.val (.int p0)] [])) rfl (hb hby own_d1_35)
          refine Run.back (g' := (mkF m 38 #[.val (.int p0)] [(.ref a_DEFER)])) st5 ?_
          exact Run.retRef X5 hx Bd.notSynchronized Bd.returns rfl rfl (hb hby own_d1_38) ⟨by rw [hr], N0, e5⟩ (by decide) (by decide)
def own_f2_19 (o0 : Addr) (a_ALLOW : Addr) (a_ALLOW_LOG : Addr) (y19_0 : Int32) : Int32 := (y19_0 &&& 1)
def own_f2_14 (o0 : Addr) (a_ALLOW : Addr) (a_ALLOW_LOG : Addr) : Int32 := (own_f2_19 o0 a_ALLOW a_ALLOW_LOG (1 : Int32))
def own_F2 (o0 : Addr) (a_ALLOW : Addr) (a_ALLOW_LOG : Addr) : Int32 := (if o0 = a_ALLOW then (own_f2_14 o0 a_ALLOW a_ALLOW_LOG) else (if o0 = a_ALLOW_LOG then (own_f2_14 o0 a_ALLOW a_ALLOW_LOG) else (own_f2_19 o0 a_ALLOW a_ALLOW_LOG (0 : Int32))))
theorem own_d2_0 : decode prog_9_method_7_code 0 = .ok (.aload_n 0, 1) := by decide +kernel
theorem own_d2_1 : decode prog_9_method_7_code 1 = .ok (.getstatic 3, 3) := by decide +kernel
theorem own_d2_4 : decode prog_9_method_7_code 4 = .ok (.if_acmp .eq 10, 3) := by decide +kernel
theorem own_d2_7 : decode prog_9_method_7_code 7 = .ok (.aload_n 0, 1) := by decide +kernel
theorem own_d2_8 : decode prog_9_method_7_code 8 = .ok (.getstatic 7, 3) := by decide +kernel
theorem own_d2_11 : decode prog_9_method_7_code 11 = .ok (.if_acmp .ne 7, 3) := by decide +kernel
theorem own_d2_14 : decode prog_9_method_7_code 14 = .ok (.iconst 1, 1) := by decide +kernel
theorem own_d2_15 : decode prog_9_method_7_code 15 = .ok (.goto 4, 3) := by decide +kernel
theorem own_d2_18 : decode prog_9_method_7_code 18 = .ok (.iconst 0, 1) := by decide +kernel
theorem own_d2_19 : decode prog_9_method_7_code 19 = .ok (.ireturn, 1) := by decide +kernel
theorem own_ef2 (m : MethodId) (x0 : Addr) : entryFrame m #[(.ref x0)] 1 = mkF m 0 #[.val (.ref x0)] [] := by first | (simp [entryFrame, mkF, argsToLocals, Value.category]; done) | rfl
set_option maxRecDepth 65536 in
set_option maxHeartbeats 40000000 in
theorem rm2 (l : Launch) (Z : State) (a0 : Array Value) (hw : ∀ d ∈ tables_1, d.before a0 Z = true) (ws : List Jvm.Cond) (o0 : Addr) (a_ALLOW : Addr) (a_ALLOW_LOG : Addr) (h0 : Heap) (n0 : Nat) (Z0 : n0 ≤ h0.size) (S_ALLOW : Sta Z h0 "com/example/portcullis/portcullis/Outcome" "ALLOW" "Lcom/example/portcullis/portcullis/Outcome;" (.ref a_ALLOW)) (S_ALLOW_LOG : Sta Z h0 "com/example/portcullis/portcullis/Outcome" "ALLOW_LOG" "Lcom/example/portcullis/portcullis/Outcome;" (.ref a_ALLOW_LOG)) :
    MetFree l (⟨"com/example/portcullis/portcullis/Outcome", "allows", "()Z"⟩ : MethodName) (head1 (Jvm.Cond.code (⟨"com/example/portcullis/portcullis/Outcome", "allows", "()Z"⟩ : MethodName) prog_9_method_7_code 1 (some .boolean) :: ws) ({ frames := 0, cells := 0, slots := 0, locals := 0 } : Room)) (fun a U => a = #[(.ref o0)] ∧ Z.Warmed39 U.vm ∧ U.heap = h0) (fun _ _ _ _ _ => True) (fun _ U o U' => ∃ v L, o = .returned v ∧ (QPure n0 h0 (.int (own_F2 o0 a_ALLOW a_ALLOW_LOG))) v U'.heap L ∧ FrameEnd U o U' L ({ frames := 0, cells := 0, slots := 0, locals := 0 } : Room).cells ({ frames := 0, cells := 0, slots := 0, locals := 0 } : Room).slots) := by
  refine MetFree.of_bodySF (plainFor_of_name own_pn1) hisR ?_
  intro p e s m args below meth c s₁ Bd hml0 hP hK
  obtain ⟨rfl, hZ, hh⟩ := hP
  have hx := Bd.exec
  have hby := Bd.bytes
  have hml : c.maxLocals = 1 := hml0
  have hown : s.vm.findClass "com/example/portcullis/portcullis/Outcome" = some m.cls := findClass_of_methodNamed Bd.named
  have hnm := (name_of_methodNamed Bd.named Bd.method).1
  have X0 : Stand p l e ({ frames := 0, cells := 0, slots := 0, locals := 0 } : Room) s m #[(.ref o0)] below meth c s₁ [] 0 0 := Stand.of_body Bd
  have e0 : s₁.heap = h0 := by rw [← hh, Bd.state]; rfl
  have N0 := Fr.nil n0
  suffices H : Run p.tables e below (FinR s ({ frames := 0, cells := 0, slots := 0, locals := 0 } : Room).cells ({ frames := 0, cells := 0, slots := 0, locals := 0 } : Room).slots (QPure n0 h0 (.int (own_F2 o0 a_ALLOW a_ALLOW_LOG)))) s₁ (mkF m 0 #[.val (.ref o0)] []) by
    obtain ⟨s₂, o, k1, k2, k3, k4⟩ := H
    exact ⟨s₂, o, castTop (own_ef2 m o0) k1, k2, k3, k4⟩
  obtain ⟨r, hr⟩ : ∃ r, r = own_F2 o0 a_ALLOW a_ALLOW_LOG := ⟨_, rfl⟩
  rw [← hr]
  have J19 : ∀ (y19_0 : Int32) (r : Int32), r = (own_f2_19 o0 a_ALLOW a_ALLOW_LOG y19_0) → ∀ (T : State) (locs : List Loc), Stand p l e ({ frames := 0, cells := 0, slots := 0, locals := 0 } : Room) s m #[(.ref o0)] below meth c T locs 0 0 → T.heap = h0 → Fr n0 locs → Run p.tables e below (FinR s ({ frames := 0, cells := 0, slots := 0, locals := 0 } : Room).cells ({ frames := 0, cells := 0, slots := 0, locals := 0 } : Room).slots (QPure n0 h0 (.int r))) T (mkF m 19 #[.val (.ref o0)] [(.int y19_0)]) := by
    clear hr
    intro y19_0 r hr T locs X eT N
    rw [own_f2_19] at hr
    exact Run.retSmall X hx (t := .boolean) (z' := (y19_0 &&& 1)) Bd.notSynchronized Bd.returns (by simp) rfl (hb hby own_d2_19) ⟨by rw [hr], N, eT⟩ (by decide) (by decide)
  have J14 : ∀  (r : Int32), r = (own_f2_14 o0 a_ALLOW a_ALLOW_LOG) → ∀ (T : State) (locs : List Loc), Stand p l e ({ frames := 0, cells := 0, slots := 0, locals := 0 } : Room) s m #[(.ref o0)] below meth c T locs 0 0 → T.heap = h0 → Fr n0 locs → Run p.tables e below (FinR s ({ frames := 0, cells := 0, slots := 0, locals := 0 } : Room).cells ({ frames := 0, cells := 0, slots := 0, locals := 0 } : Room).slots (QPure n0 h0 (.int r))) T (mkF m 14 #[.val (.ref o0)] []) := by
    clear hr
    intro  r hr T locs X eT N
    rw [own_f2_14] at hr
    refine Run.iconst (pc' := 15) (v := (1 : Int32)) X hx (hb hby own_d2_14) rfl rfl ?_
    refine Run.goto (pc' := 19) X hx (hb hby own_d2_15) (by decide) (by decide) ?_
    exact J19 (1 : Int32) _ hr _ _ X eT N
  rw [own_F2] at hr
  refine Run.aloadN (pc' := 1) X0 hx (hb hby own_d2_0) rfl rfl ?_
  obtain ⟨T1, X1, e1, st1⟩ := getS2 X0 hx hZ hown (host := "") (Or.inl (hw _ (List.mem_of_getElem? (i := 13) rfl))) Via.refl e0 S_ALLOW (g := (mkF m 1 #[.val (.ref o0)] [(.ref o0)])) rfl (hb hby own_d2_1)
  refine Run.back (g' := (mkF m 4 #[.val (.ref o0)] [(.ref a_ALLOW), (.ref o0)])) st1 ?_
  by_cases hc4 : o0 = a_ALLOW
  · rw [if_pos hc4] at hr
    refine Run.acmpYes (pc' := 14) X1 hx (hb hby own_d2_4) (own_acmpEqT hc4) (by decide) (by decide) ?_
    exact J14  _ hr _ _ X1 e1 N0
  · rw [if_neg hc4] at hr
    refine Run.acmpNo (pc' := 7) X1 hx (hb hby own_d2_4) (own_acmpEqF hc4) rfl ?_
    refine Run.aloadN (pc' := 8) X1 hx (hb hby own_d2_7) rfl rfl ?_
    obtain ⟨T2, X2, e2, st2⟩ := getS2 X1 hx hZ hown (host := "") (Or.inl (hw _ (List.mem_of_getElem? (i := 30) rfl))) Via.refl e1 S_ALLOW_LOG (g := (mkF m 8 #[.val (.ref o0)] [(.ref o0)])) rfl (hb hby own_d2_8)
    refine Run.back (g' := (mkF m 11 #[.val (.ref o0)] [(.ref a_ALLOW_LOG), (.ref o0)])) st2 ?_
    by_cases hc11 : o0 = a_ALLOW_LOG
    · rw [if_pos hc11] at hr
      refine Run.acmpNo (pc' := 14) X2 hx (hb hby own_d2_11) (own_acmpNeT hc11) rfl ?_
      exact J14  _ hr _ _ X2 e2 N0
    · rw [if_neg hc11] at hr
      refine Run.acmpYes (pc' := 18) X2 hx (hb hby own_d2_11) (own_acmpNeF hc11) (by decide) (by decide) ?_
      refine Run.iconst (pc' := 19) (v := (0 : Int32)) X2 hx (hb hby own_d2_18) rfl rfl ?_
      exact J19 (0 : Int32) _ hr _ _ X2 e2 N0
def own_F3 (o0 : Addr) (w : Int32) : Int32 := w
theorem own_d3_0 : decode prog_9_method_9_code 0 = .ok (.aload_n 0, 1) := by decide +kernel
theorem own_d3_1 : decode prog_9_method_9_code 1 = .ok (.getfield 42, 3) := by decide +kernel
theorem own_d3_4 : decode prog_9_method_9_code 4 = .ok (.ireturn, 1) := by decide +kernel
theorem own_ef3 (m : MethodId) (x0 : Addr) : entryFrame m #[(.ref x0)] 1 = mkF m 0 #[.val (.ref x0)] [] := by first | (simp [entryFrame, mkF, argsToLocals, Value.category]; done) | rfl
set_option maxRecDepth 65536 in
set_option maxHeartbeats 40000000 in
theorem rm3 (l : Launch) (Z : State) (a0 : Array Value) (hw : ∀ d ∈ tables_1, d.before a0 Z = true) (ws : List Jvm.Cond) (o0 : Addr) (w : Int32) (h0 : Heap) (n0 : Nat) (Z0 : n0 ≤ h0.size) (F_o : Fld Z h0 o0 "com/example/portcullis/portcullis/Outcome" "exitStatus" "I" (.int w)) :
    MetFree l (⟨"com/example/portcullis/portcullis/Outcome", "exitStatus", "()I"⟩ : MethodName) (head1 (Jvm.Cond.code (⟨"com/example/portcullis/portcullis/Outcome", "exitStatus", "()I"⟩ : MethodName) prog_9_method_9_code 1 (some .int) :: ws) ({ frames := 0, cells := 0, slots := 0, locals := 0 } : Room)) (fun a U => a = #[(.ref o0)] ∧ Z.Warmed39 U.vm ∧ U.heap = h0) (fun _ _ _ _ _ => True) (fun _ U o U' => ∃ v L, o = .returned v ∧ (QPure n0 h0 (.int (own_F3 o0 w))) v U'.heap L ∧ FrameEnd U o U' L ({ frames := 0, cells := 0, slots := 0, locals := 0 } : Room).cells ({ frames := 0, cells := 0, slots := 0, locals := 0 } : Room).slots) := by
  refine MetFree.of_bodySF (plainFor_of_name own_pn1) hisR ?_
  intro p e s m args below meth c s₁ Bd hml0 hP hK
  obtain ⟨rfl, hZ, hh⟩ := hP
  have hx := Bd.exec
  have hby := Bd.bytes
  have hml : c.maxLocals = 1 := hml0
  have hown : s.vm.findClass "com/example/portcullis/portcullis/Outcome" = some m.cls := findClass_of_methodNamed Bd.named
  have hnm := (name_of_methodNamed Bd.named Bd.method).1
  have X0 : Stand p l e ({ frames := 0, cells := 0, slots := 0, locals := 0 } : Room) s m #[(.ref o0)] below meth c s₁ [] 0 0 := Stand.of_body Bd
  have e0 : s₁.heap = h0 := by rw [← hh, Bd.state]; rfl
  have N0 := Fr.nil n0
  suffices H : Run p.tables e below (FinR s ({ frames := 0, cells := 0, slots := 0, locals := 0 } : Room).cells ({ frames := 0, cells := 0, slots := 0, locals := 0 } : Room).slots (QPure n0 h0 (.int (own_F3 o0 w)))) s₁ (mkF m 0 #[.val (.ref o0)] []) by
    obtain ⟨s₂, o, k1, k2, k3, k4⟩ := H
    exact ⟨s₂, o, castTop (own_ef3 m o0) k1, k2, k3, k4⟩
  obtain ⟨r, hr⟩ : ∃ r, r = own_F3 o0 w := ⟨_, rfl⟩
  rw [← hr]
  rw [own_F3] at hr
  refine Run.aloadN (pc' := 1) X0 hx (hb hby own_d3_0) rfl rfl ?_
  obtain ⟨T1, X1, e1, st1⟩ := getF X0 hx hZ hown (host := "") (Or.inl (hw _ (List.mem_of_getElem? (i := 19) rfl))) Via.refl e0 F_o (g := (mkF m 1 #[.val (.ref o0)] [(.ref o0)])) rfl rfl (hb hby own_d3_1)
  refine Run.back (g' := (mkF m 4 #[.val (.ref o0)] [(.int w)])) st1 ?_
  exact Run.retInt X1 hx Bd.notSynchronized Bd.returns (hb hby own_d3_4) ⟨by rw [hr], N0, e1⟩ (by decide) (by decide)
def own_f4_12 (o0 : Addr) (a_DEFER : Addr) (y12_0 : Int32) : Int32 := (y12_0 &&& 1)
def own_F4 (o0 : Addr) (a_DEFER : Addr) : Int32 := (if o0 = a_DEFER then (own_f4_12 o0 a_DEFER (0 : Int32)) else (own_f4_12 o0 a_DEFER (1 : Int32)))
theorem own_d4_0 : decode prog_9_method_6_code 0 = .ok (.aload_n 0, 1) := by decide +kernel
theorem own_d4_1 : decode prog_9_method_6_code 1 = .ok (.getstatic 16, 3) := by decide +kernel
theorem own_d4_4 : decode prog_9_method_6_code 4 = .ok (.if_acmp .eq 7, 3) := by decide +kernel
theorem own_d4_7 : decode prog_9_method_6_code 7 = .ok (.iconst 1, 1) := by decide +kernel
theorem own_d4_8 : decode prog_9_method_6_code 8 = .ok (.goto 4, 3) := by decide +kernel
theorem own_d4_11 : decode prog_9_method_6_code 11 = .ok (.iconst 0, 1) := by decide +kernel
theorem own_d4_12 : decode prog_9_method_6_code 12 = .ok (.ireturn, 1) := by decide +kernel
theorem own_ef4 (m : MethodId) (x0 : Addr) : entryFrame m #[(.ref x0)] 1 = mkF m 0 #[.val (.ref x0)] [] := by first | (simp [entryFrame, mkF, argsToLocals, Value.category]; done) | rfl
set_option maxRecDepth 65536 in
set_option maxHeartbeats 40000000 in
theorem rm4 (l : Launch) (Z : State) (a0 : Array Value) (hw : ∀ d ∈ tables_1, d.before a0 Z = true) (ws : List Jvm.Cond) (o0 : Addr) (a_DEFER : Addr) (h0 : Heap) (n0 : Nat) (Z0 : n0 ≤ h0.size) (S_DEFER : Sta Z h0 "com/example/portcullis/portcullis/Outcome" "DEFER" "Lcom/example/portcullis/portcullis/Outcome;" (.ref a_DEFER)) :
    MetFree l (⟨"com/example/portcullis/portcullis/Outcome", "isPermission", "()Z"⟩ : MethodName) (head1 (Jvm.Cond.code (⟨"com/example/portcullis/portcullis/Outcome", "isPermission", "()Z"⟩ : MethodName) prog_9_method_6_code 1 (some .boolean) :: ws) ({ frames := 0, cells := 0, slots := 0, locals := 0 } : Room)) (fun a U => a = #[(.ref o0)] ∧ Z.Warmed39 U.vm ∧ U.heap = h0) (fun _ _ _ _ _ => True) (fun _ U o U' => ∃ v L, o = .returned v ∧ (QPure n0 h0 (.int (own_F4 o0 a_DEFER))) v U'.heap L ∧ FrameEnd U o U' L ({ frames := 0, cells := 0, slots := 0, locals := 0 } : Room).cells ({ frames := 0, cells := 0, slots := 0, locals := 0 } : Room).slots) := by
  refine MetFree.of_bodySF (plainFor_of_name own_pn1) hisR ?_
  intro p e s m args below meth c s₁ Bd hml0 hP hK
  obtain ⟨rfl, hZ, hh⟩ := hP
  have hx := Bd.exec
  have hby := Bd.bytes
  have hml : c.maxLocals = 1 := hml0
  have hown : s.vm.findClass "com/example/portcullis/portcullis/Outcome" = some m.cls := findClass_of_methodNamed Bd.named
  have hnm := (name_of_methodNamed Bd.named Bd.method).1
  have X0 : Stand p l e ({ frames := 0, cells := 0, slots := 0, locals := 0 } : Room) s m #[(.ref o0)] below meth c s₁ [] 0 0 := Stand.of_body Bd
  have e0 : s₁.heap = h0 := by rw [← hh, Bd.state]; rfl
  have N0 := Fr.nil n0
  suffices H : Run p.tables e below (FinR s ({ frames := 0, cells := 0, slots := 0, locals := 0 } : Room).cells ({ frames := 0, cells := 0, slots := 0, locals := 0 } : Room).slots (QPure n0 h0 (.int (own_F4 o0 a_DEFER)))) s₁ (mkF m 0 #[.val (.ref o0)] []) by
    obtain ⟨s₂, o, k1, k2, k3, k4⟩ := H
    exact ⟨s₂, o, castTop (own_ef4 m o0) k1, k2, k3, k4⟩
  obtain ⟨r, hr⟩ : ∃ r, r = own_F4 o0 a_DEFER := ⟨_, rfl⟩
  rw [← hr]
  have J12 : ∀ (y12_0 : Int32) (r : Int32), r = (own_f4_12 o0 a_DEFER y12_0) → ∀ (T : State) (locs : List Loc), Stand p l e ({ frames := 0, cells := 0, slots := 0, locals := 0 } : Room) s m #[(.ref o0)] below meth c T locs 0 0 → T.heap = h0 → Fr n0 locs → Run p.tables e below (FinR s ({ frames := 0, cells := 0, slots := 0, locals := 0 } : Room).cells ({ frames := 0, cells := 0, slots := 0, locals := 0 } : Room).slots (QPure n0 h0 (.int r))) T (mkF m 12 #[.val (.ref o0)] [(.int y12_0)]) := by
    clear hr
    intro y12_0 r hr T locs X eT N
    rw [own_f4_12] at hr
    exact Run.retSmall X hx (t := .boolean) (z' := (y12_0 &&& 1)) Bd.notSynchronized Bd.returns (by simp) rfl (hb hby own_d4_12) ⟨by rw [hr], N, eT⟩ (by decide) (by decide)
  rw [own_F4] at hr
  refine Run.aloadN (pc' := 1) X0 hx (hb hby own_d4_0) rfl rfl ?_
  obtain ⟨T1, X1, e1, st1⟩ := getS2 X0 hx hZ hown (host := "") (Or.inl (hw _ (List.mem_of_getElem? (i := 26) rfl))) Via.refl e0 S_DEFER (g := (mkF m 1 #[.val (.ref o0)] [(.ref o0)])) rfl (hb hby own_d4_1)
  refine Run.back (g' := (mkF m 4 #[.val (.ref o0)] [(.ref a_DEFER), (.ref o0)])) st1 ?_
  by_cases hc4 : o0 = a_DEFER
  · rw [if_pos hc4] at hr
    refine Run.acmpYes (pc' := 11) X1 hx (hb hby own_d4_4) (own_acmpEqT hc4) (by decide) (by decide) ?_
    refine Run.iconst (pc' := 12) (v := (0 : Int32)) X1 hx (hb hby own_d4_11) rfl rfl ?_
    exact J12 (0 : Int32) _ hr _ _ X1 e1 N0
  · rw [if_neg hc4] at hr
    refine Run.acmpNo (pc' := 7) X1 hx (hb hby own_d4_4) (own_acmpEqF hc4) rfl ?_
    refine Run.iconst (pc' := 8) (v := (1 : Int32)) X1 hx (hb hby own_d4_7) rfl rfl ?_
    refine Run.goto (pc' := 12) X1 hx (hb hby own_d4_8) (by decide) (by decide) ?_
    exact J12 (1 : Int32) _ hr _ _ X1 e1 N0
theorem own_k5 (p0 : Int32) : ((p0 &&& (2147483647 : Int32)) % (5 : Int32)) = 0 ∨ ((p0 &&& (2147483647 : Int32)) % (5 : Int32)) = 1 ∨ ((p0 &&& (2147483647 : Int32)) % (5 : Int32)) = 2 ∨ ((p0 &&& (2147483647 : Int32)) % (5 : Int32)) = 3 ∨ ((p0 &&& (2147483647 : Int32)) % (5 : Int32)) = 4 := by
  have h1 := c_and p0 2147483647 (by decide)
  have h2 := (c_irem (p0 &&& 2147483647) 5 5 (by decide)).1 h1.1
  simp only [← Int32.toInt_inj]
  have e0 : (0 : Int32).toInt = 0 := rfl
  have e1 : (1 : Int32).toInt = 1 := rfl
  have e2 : (2 : Int32).toInt = 2 := rfl
  have e3 : (3 : Int32).toInt = 3 := rfl
  have e4 : (4 : Int32).toInt = 4 := rfl
  omega

theorem own_ef0 (m : MethodId) (x0 : Int32) : entryFrame m #[(.int x0)] maxLocals = mkF m 0 #[.val (.int x0), .unset, .unset, .unset, .unset, .unset, .unset] [] := by first | (simp [entryFrame, mkF, argsToLocals, Value.category, maxLocals]; done) | rfl
set_option maxRecDepth 65536 in
set_option maxHeartbeats 40000000 in
theorem rm0 (l : Launch) (Z : State) (a0 : Array Value) (hw : ∀ d ∈ tables_1, d.before a0 Z = true) (ws : List Jvm.Cond) (p0 : Int32) (a_ALLOW : Addr) (a_ALLOW_LOG : Addr) (a_DENY : Addr) (a_DENY_LOG : Addr) (a_DEFER : Addr) (h0 : Heap) (n0 : Nat) (Z0 : n0 ≤ h0.size) (S_ALLOW : Sta Z h0 "com/example/portcullis/portcullis/Outcome" "ALLOW" "Lcom/example/portcullis/portcullis/Outcome;" (.ref a_ALLOW)) (S_ALLOW_LOG : Sta Z h0 "com/example/portcullis/portcullis/Outcome" "ALLOW_LOG" "Lcom/example/portcullis/portcullis/Outcome;" (.ref a_ALLOW_LOG)) (S_DENY : Sta Z h0 "com/example/portcullis/portcullis/Outcome" "DENY" "Lcom/example/portcullis/portcullis/Outcome;" (.ref a_DENY)) (S_DENY_LOG : Sta Z h0 "com/example/portcullis/portcullis/Outcome" "DENY_LOG" "Lcom/example/portcullis/portcullis/Outcome;" (.ref a_DENY_LOG)) (S_DEFER : Sta Z h0 "com/example/portcullis/portcullis/Outcome" "DEFER" "Lcom/example/portcullis/portcullis/Outcome;" (.ref a_DEFER)) (E_ALLOW : Exa Z h0 a_ALLOW "com/example/portcullis/portcullis/Outcome") (E_ALLOW_LOG : Exa Z h0 a_ALLOW_LOG "com/example/portcullis/portcullis/Outcome") (E_DENY : Exa Z h0 a_DENY "com/example/portcullis/portcullis/Outcome") (E_DENY_LOG : Exa Z h0 a_DENY_LOG "com/example/portcullis/portcullis/Outcome") (E_DEFER : Exa Z h0 a_DEFER "com/example/portcullis/portcullis/Outcome") (F_ALLOW_exitStatus : Fld Z h0 a_ALLOW "com/example/portcullis/portcullis/Outcome" "exitStatus" "I" (.int (0 : Int32))) (F_ALLOW_LOG_exitStatus : Fld Z h0 a_ALLOW_LOG "com/example/portcullis/portcullis/Outcome" "exitStatus" "I" (.int (0 : Int32))) (F_DENY_exitStatus : Fld Z h0 a_DENY "com/example/portcullis/portcullis/Outcome" "exitStatus" "I" (.int (1 : Int32))) (F_DENY_LOG_exitStatus : Fld Z h0 a_DENY_LOG "com/example/portcullis/portcullis/Outcome" "exitStatus" "I" (.int (1 : Int32))) (F_DEFER_exitStatus : Fld Z h0 a_DEFER "com/example/portcullis/portcullis/Outcome" "exitStatus" "I" (.int (3 : Int32))) (ne_ALLOW_ALLOW_LOG : ¬ a_ALLOW = a_ALLOW_LOG) (ne_ALLOW_DENY : ¬ a_ALLOW = a_DENY) (ne_ALLOW_DENY_LOG : ¬ a_ALLOW = a_DENY_LOG) (ne_ALLOW_DEFER : ¬ a_ALLOW = a_DEFER) (ne_ALLOW_LOG_ALLOW : ¬ a_ALLOW_LOG = a_ALLOW) (ne_ALLOW_LOG_DENY : ¬ a_ALLOW_LOG = a_DENY) (ne_ALLOW_LOG_DENY_LOG : ¬ a_ALLOW_LOG = a_DENY_LOG) (ne_ALLOW_LOG_DEFER : ¬ a_ALLOW_LOG = a_DEFER) (ne_DENY_ALLOW : ¬ a_DENY = a_ALLOW) (ne_DENY_ALLOW_LOG : ¬ a_DENY = a_ALLOW_LOG) (ne_DENY_DENY_LOG : ¬ a_DENY = a_DENY_LOG) (ne_DENY_DEFER : ¬ a_DENY = a_DEFER) (ne_DENY_LOG_ALLOW : ¬ a_DENY_LOG = a_ALLOW) (ne_DENY_LOG_ALLOW_LOG : ¬ a_DENY_LOG = a_ALLOW_LOG) (ne_DENY_LOG_DENY : ¬ a_DENY_LOG = a_DENY) (ne_DENY_LOG_DEFER : ¬ a_DENY_LOG = a_DEFER) (ne_DEFER_ALLOW : ¬ a_DEFER = a_ALLOW) (ne_DEFER_ALLOW_LOG : ¬ a_DEFER = a_ALLOW_LOG) (ne_DEFER_DENY : ¬ a_DEFER = a_DENY) (ne_DEFER_DENY_LOG : ¬ a_DEFER = a_DENY_LOG) :
    MetFree l x (head1 (Jvm.Cond.code x code maxLocals ret :: ws) room_1) (fun a U => a = #[(.int p0)] ∧ Z.Warmed39 U.vm ∧ U.heap = h0) (fun _ _ _ _ _ => True) (fun _ U o U' => ∃ v L, o = .returned v ∧ (fun v h L => v = some (.int 1) ∧ Fr n0 L) v U'.heap L ∧ FrameEnd U o U' L room_1.cells room_1.slots) := by
  refine MetFree.of_bodySF (plainFor_of_name own_pn0) hisR ?_
  intro p e s m args below meth c s₁ Bd hml0 hP hK
  obtain ⟨rfl, hZ, hh⟩ := hP
  have hx := Bd.exec
  have hby := Bd.bytes
  have hml : c.maxLocals = 7 := hml0
  have hown : s.vm.findClass "com/example/portcullis/portcullis/OutcomeAllowsPinLaw" = some m.cls := findClass_of_methodNamed Bd.named
  have hnm := (name_of_methodNamed Bd.named Bd.method).1
  have X0 : Stand p l e room_1 s m #[(.int p0)] below meth c s₁ [] 0 0 := Stand.of_body Bd
  have e0 : s₁.heap = h0 := by rw [← hh, Bd.state]; rfl
  have N0 := Fr.nil n0
  suffices H : Run p.tables e below (FinR s room_1.cells room_1.slots (fun v h L => v = some (.int 1) ∧ Fr n0 L)) s₁ (mkF m 0 #[.val (.int p0), .unset, .unset, .unset, .unset, .unset, .unset] []) by
    obtain ⟨s₂, o, k1, k2, k3, k4⟩ := H
    exact ⟨s₂, o, castTop (own_ef0 m p0) k1, k2, k3, k4⟩
  refine Run.iloadN (pc' := 1) X0 hx (hb hby at_0) rfl rfl ?_
  refine Run.ldcInt (pc' := 3) (v := (2147483647 : Int32)) X0 hx hown (mvT hZ (hw _ (List.mem_of_getElem? (i := 0) rfl))) (hb hby at_1) rfl ?_
  refine Run.iand (pc' := 4) X0 hx (hb hby at_3) rfl ?_
  refine Run.iconst (pc' := 5) (v := (5 : Int32)) X0 hx (hb hby at_4) rfl rfl ?_
  refine Run.irem (pc' := 6) X0 hx (hb hby at_5) (by decide) rfl ?_
  refine Run.istoreN (pc' := 7) X0 hx (l' := #[.val (.int p0), .val (.int ((p0 &&& (2147483647 : Int32)) % (5 : Int32))), .unset, .unset, .unset, .unset, .unset]) (hb hby at_6) rfl rfl ?_
  rcases own_k5 p0 with hk | hk | hk | hk | hk
  · rw [hk]
    refine Run.iloadN (pc' := 8) X0 hx (hb hby at_7) rfl rfl ?_
    obtain ⟨T1, L1, v1, X1, Q1, st1⟩ := callStatic X0 hx (y := (⟨"com/example/portcullis/portcullis/OutcomeAllowsPinLaw", "pick", "(I)Lcom/example/portcullis/portcullis/Outcome;"⟩ : MethodName)) (Ls := #[.val (.int p0), .val (.int (0 : Int32)), .unset, .unset, .unset, .unset, .unset]) (rest := []) (W := 0) (argsL := [(.int (0 : Int32))]) hZ hown (hw _ (List.mem_of_getElem? (i := 1) rfl)) (hw _ (List.mem_of_getElem? (i := 2) rfl)) (hw _ (List.mem_of_getElem? (i := 3) rfl)) (hw _ (List.mem_of_getElem? (i := 4) rfl)) (by decide) e0 (rm1 l Z a0 hw [] (0 : Int32) a_ALLOW a_ALLOW_LOG a_DENY a_DENY_LOG a_DEFER h0 n0 Z0 S_ALLOW S_ALLOW_LOG S_DENY S_DENY_LOG S_DEFER) (hb hby at_8) (lenOf own_pd0 rfl) (by decide) (by decide) (by rw [hml]; rfl) (Nat.le_of_eq rfl) (by decide) (by decide)
    obtain ⟨hv1, M1, e1⟩ := Q1
    rw [show (own_F1 (0 : Int32) a_ALLOW a_ALLOW_LOG a_DENY a_DENY_LOG a_DEFER) = a_ALLOW from rfl] at hv1
    subst hv1
    have N1 := Fr.app N0 M1
    refine Run.back (g' := (mkF m 11 #[.val (.int p0), .val (.int (0 : Int32)), .unset, .unset, .unset, .unset, .unset] [(.ref a_ALLOW)])) st1 ?_
    refine Run.astoreN (pc' := 12) X1 hx (l' := #[.val (.int p0), .val (.int (0 : Int32)), .val (.ref a_ALLOW), .unset, .unset, .unset, .unset]) (hb hby at_11) rfl rfl ?_
    refine Run.aloadN (pc' := 13) X1 hx (hb hby at_12) rfl rfl ?_
    obtain ⟨T2, L2, v2, X2, Q2, st2⟩ := callVirtual X1 hx (y := (⟨"com/example/portcullis/portcullis/Outcome", "allows", "()Z"⟩ : MethodName)) (z := (⟨"com/example/portcullis/portcullis/Outcome", "allows", "()Z"⟩ : MethodName)) (C := "com/example/portcullis/portcullis/Outcome") (a := a_ALLOW) (Ls := #[.val (.int p0), .val (.int (0 : Int32)), .val (.ref a_ALLOW), .unset, .unset, .unset, .unset]) (rest := []) (W := 0) (argsL := []) hZ hown (hw _ (List.mem_of_getElem? (i := 8) rfl)) (hw _ (List.mem_of_getElem? (i := 9) rfl)) (notFace_of_selects (args := #[]) (mvT hZ (hw _ (List.mem_of_getElem? (i := 11) rfl)))) (hw _ (List.mem_of_getElem? (i := 11) rfl)) (hw _ (List.mem_of_getElem? (i := 10) rfl)) (hw _ (List.mem_of_getElem? (i := 6) rfl)) (hw _ (List.mem_of_getElem? (i := 12) rfl)) (by decide) e1 E_ALLOW (rm2 l Z a0 hw [] a_ALLOW a_ALLOW a_ALLOW_LOG h0 n0 Z0 S_ALLOW S_ALLOW_LOG) (hb hby at_13) (lenOf own_pd1 rfl) (by decide) (by decide) (by rw [hml]; rfl) (Nat.le_of_eq rfl) (by decide) (by decide)
    obtain ⟨hv2, M2, e2⟩ := Q2
    rw [show (own_F2 a_ALLOW a_ALLOW a_ALLOW_LOG) = (1 : Int32) from (by simp [own_f2_19, own_f2_14, own_F2, ne_ALLOW_ALLOW_LOG, ne_ALLOW_DENY, ne_ALLOW_DENY_LOG, ne_ALLOW_DEFER, ne_ALLOW_LOG_ALLOW, ne_ALLOW_LOG_DENY, ne_ALLOW_LOG_DENY_LOG, ne_ALLOW_LOG_DEFER, ne_DENY_ALLOW, ne_DENY_ALLOW_LOG, ne_DENY_DENY_LOG, ne_DENY_DEFER, ne_DENY_LOG_ALLOW, ne_DENY_LOG_ALLOW_LOG, ne_DENY_LOG_DENY, ne_DENY_LOG_DEFER, ne_DEFER_ALLOW, ne_DEFER_ALLOW_LOG, ne_DEFER_DENY, ne_DEFER_DENY_LOG])] at hv2
    subst hv2
    have N2 := Fr.app N1 M2
    refine Run.back (g' := (mkF m 16 #[.val (.int p0), .val (.int (0 : Int32)), .val (.ref a_ALLOW), .unset, .unset, .unset, .unset] [(.int (1 : Int32))])) st2 ?_
    refine Run.istoreN (pc' := 17) X2 hx (l' := #[.val (.int p0), .val (.int (0 : Int32)), .val (.ref a_ALLOW), .val (.int (1 : Int32)), .unset, .unset, .unset]) (hb hby at_16) rfl rfl ?_
    refine Run.iloadN (pc' := 18) X2 hx (hb hby at_17) rfl rfl ?_
    refine Run.iconst (pc' := 19) (v := (2 : Int32)) X2 hx (hb hby at_18) rfl rfl ?_
    refine Run.icmpNo (pc' := 22) X2 hx (hb hby at_19) (tlt (by decide : (0 : Int32) < (2 : Int32))).2.1 rfl ?_
    refine Run.iconst (pc' := 23) (v := (1 : Int32)) X2 hx (hb hby at_22) rfl rfl ?_
    refine Run.goto (pc' := 27) X2 hx (hb hby at_23) (by decide) (by decide) ?_
    refine Run.istore (pc' := 29) X2 hx (l' := #[.val (.int p0), .val (.int (0 : Int32)), .val (.ref a_ALLOW), .val (.int (1 : Int32)), .val (.int (1 : Int32)), .unset, .unset]) (hb hby at_27) rfl rfl ?_
    refine Run.iloadN (pc' := 30) X2 hx (hb hby at_29) rfl rfl ?_
    refine Run.aloadN (pc' := 31) X2 hx (hb hby at_30) rfl rfl ?_
    obtain ⟨T3, L3, v3, X3, Q3, st3⟩ := callVirtual X2 hx (y := (⟨"com/example/portcullis/portcullis/Outcome", "exitStatus", "()I"⟩ : MethodName)) (z := (⟨"com/example/portcullis/portcullis/Outcome", "exitStatus", "()I"⟩ : MethodName)) (C := "com/example/portcullis/portcullis/Outcome") (a := a_ALLOW) (Ls := #[.val (.int p0), .val (.int (0 : Int32)), .val (.ref a_ALLOW), .val (.int (1 : Int32)), .val (.int (1 : Int32)), .unset, .unset]) (rest := [(.int (1 : Int32))]) (W := 1) (argsL := []) hZ hown (hw _ (List.mem_of_getElem? (i := 14) rfl)) (hw _ (List.mem_of_getElem? (i := 15) rfl)) (notFace_of_selects (args := #[]) (mvT hZ (hw _ (List.mem_of_getElem? (i := 17) rfl)))) (hw _ (List.mem_of_getElem? (i := 17) rfl)) (hw _ (List.mem_of_getElem? (i := 16) rfl)) (hw _ (List.mem_of_getElem? (i := 6) rfl)) (hw _ (List.mem_of_getElem? (i := 18) rfl)) (by decide) e2 E_ALLOW (rm3 l Z a0 hw [] a_ALLOW (0 : Int32) h0 n0 Z0 F_ALLOW_exitStatus) (hb hby at_31) (lenOf own_pd2 rfl) (by decide) (by decide) (by rw [hml]; rfl) (Nat.le_of_eq rfl) (by decide) (by decide)
    obtain ⟨hv3, M3, e3⟩ := Q3
    rw [show (own_F3 a_ALLOW (0 : Int32)) = (0 : Int32) from rfl] at hv3
    subst hv3
    have N3 := Fr.app N2 M3
    refine Run.back (g' := (mkF m 34 #[.val (.int p0), .val (.int (0 : Int32)), .val (.ref a_ALLOW), .val (.int (1 : Int32)), .val (.int (1 : Int32)), .unset, .unset] [(.int (0 : Int32)), (.int (1 : Int32))])) st3 ?_
    refine Run.ifNo (pc' := 37) X3 hx (hb hby at_34) ((if0 _ _).trans (teq (by decide : (0 : Int32) = (0 : Int32))).2) rfl ?_
    refine Run.iconst (pc' := 38) (v := (1 : Int32)) X3 hx (hb hby at_37) rfl rfl ?_
    refine Run.goto (pc' := 42) X3 hx (hb hby at_38) (by decide) (by decide) ?_
    refine Run.icmpNo (pc' := 45) X3 hx (hb hby at_42) (teq (by decide : (1 : Int32) = (1 : Int32))).2 rfl ?_
    refine Run.iconst (pc' := 46) (v := (1 : Int32)) X3 hx (hb hby at_45) rfl rfl ?_
    refine Run.goto (pc' := 50) X3 hx (hb hby at_46) (by decide) (by decide) ?_
    refine Run.istore (pc' := 52) X3 hx (l' := #[.val (.int p0), .val (.int (0 : Int32)), .val (.ref a_ALLOW), .val (.int (1 : Int32)), .val (.int (1 : Int32)), .val (.int (1 : Int32)), .unset]) (hb hby at_50) rfl rfl ?_
    refine Run.iloadN (pc' := 53) X3 hx (hb hby at_52) rfl rfl ?_
    refine Run.ifNo (pc' := 56) X3 hx (hb hby at_53) ((if0 _ _).trans (feq (by decide : ¬ ((1 : Int32) = (0 : Int32)))).1) rfl ?_
    refine Run.aloadN (pc' := 57) X3 hx (hb hby at_56) rfl rfl ?_
    obtain ⟨T4, L4, v4, X4, Q4, st4⟩ := callVirtual X3 hx (y := (⟨"com/example/portcullis/portcullis/Outcome", "isPermission", "()Z"⟩ : MethodName)) (z := (⟨"com/example/portcullis/portcullis/Outcome", "isPermission", "()Z"⟩ : MethodName)) (C := "com/example/portcullis/portcullis/Outcome") (a := a_ALLOW) (Ls := #[.val (.int p0), .val (.int (0 : Int32)), .val (.ref a_ALLOW), .val (.int (1 : Int32)), .val (.int (1 : Int32)), .val (.int (1 : Int32)), .unset]) (rest := []) (W := 0) (argsL := []) hZ hown (hw _ (List.mem_of_getElem? (i := 21) rfl)) (hw _ (List.mem_of_getElem? (i := 22) rfl)) (notFace_of_selects (args := #[]) (mvT hZ (hw _ (List.mem_of_getElem? (i := 24) rfl)))) (hw _ (List.mem_of_getElem? (i := 24) rfl)) (hw _ (List.mem_of_getElem? (i := 23) rfl)) (hw _ (List.mem_of_getElem? (i := 6) rfl)) (hw _ (List.mem_of_getElem? (i := 25) rfl)) (by decide) e3 E_ALLOW (rm4 l Z a0 hw [] a_ALLOW a_DEFER h0 n0 Z0 S_DEFER) (hb hby at_57) (lenOf own_pd1 rfl) (by decide) (by decide) (by rw [hml]; rfl) (Nat.le_of_eq rfl) (by decide) (by decide)
    obtain ⟨hv4, M4, e4⟩ := Q4
    rw [show (own_F4 a_ALLOW a_DEFER) = (1 : Int32) from (by simp [own_f4_12, own_F4, ne_ALLOW_ALLOW_LOG, ne_ALLOW_DENY, ne_ALLOW_DENY_LOG, ne_ALLOW_DEFER, ne_ALLOW_LOG_ALLOW, ne_ALLOW_LOG_DENY, ne_ALLOW_LOG_DENY_LOG, ne_ALLOW_LOG_DEFER, ne_DENY_ALLOW, ne_DENY_ALLOW_LOG, ne_DENY_DENY_LOG, ne_DENY_DEFER, ne_DENY_LOG_ALLOW, ne_DENY_LOG_ALLOW_LOG, ne_DENY_LOG_DENY, ne_DENY_LOG_DEFER, ne_DEFER_ALLOW, ne_DEFER_ALLOW_LOG, ne_DEFER_DENY, ne_DEFER_DENY_LOG])] at hv4
    subst hv4
    have N4 := Fr.app N3 M4
    refine Run.back (g' := (mkF m 60 #[.val (.int p0), .val (.int (0 : Int32)), .val (.ref a_ALLOW), .val (.int (1 : Int32)), .val (.int (1 : Int32)), .val (.int (1 : Int32)), .unset] [(.int (1 : Int32))])) st4 ?_
    refine Run.ifNo (pc' := 63) X4 hx (hb hby at_60) ((if0 _ _).trans (feq (by decide : ¬ ((1 : Int32) = (0 : Int32)))).1) rfl ?_
    refine Run.iconst (pc' := 64) (v := (1 : Int32)) X4 hx (hb hby at_63) rfl rfl ?_
    refine Run.goto (pc' := 68) X4 hx (hb hby at_64) (by decide) (by decide) ?_
    refine Run.istore (pc' := 70) X4 hx (l' := #[.val (.int p0), .val (.int (0 : Int32)), .val (.ref a_ALLOW), .val (.int (1 : Int32)), .val (.int (1 : Int32)), .val (.int (1 : Int32)), .val (.int (1 : Int32))]) (hb hby at_68) rfl rfl ?_
    refine Run.iloadN (pc' := 71) X4 hx (hb hby at_70) rfl rfl ?_
    refine Run.iload (pc' := 73) X4 hx (hb hby at_71) rfl rfl ?_
    refine Run.icmpNo (pc' := 76) X4 hx (hb hby at_73) (teq (by decide : (1 : Int32) = (1 : Int32))).2 rfl ?_
    refine Run.iload (pc' := 78) X4 hx (hb hby at_76) rfl rfl ?_
    refine Run.ifNo (pc' := 81) X4 hx (hb hby at_78) ((if0 _ _).trans (feq (by decide : ¬ ((1 : Int32) = (0 : Int32)))).1) rfl ?_
    refine Run.iload (pc' := 83) X4 hx (hb hby at_81) rfl rfl ?_
    refine Run.ifNo (pc' := 86) X4 hx (hb hby at_83) ((if0 _ _).trans (feq (by decide : ¬ ((1 : Int32) = (0 : Int32)))).1) rfl ?_
    refine Run.iconst (pc' := 87) (v := (1 : Int32)) X4 hx (hb hby at_86) rfl rfl ?_
    refine Run.goto (pc' := 91) X4 hx (hb hby at_87) (by decide) (by decide) ?_
    exact Run.retSmall X4 hx (t := .boolean) (z' := (1 : Int32)) Bd.notSynchronized Bd.returns (by simp) rfl (hb hby at_91) ⟨rfl, N4⟩ (by decide) (by decide)
  · rw [hk]
    refine Run.iloadN (pc' := 8) X0 hx (hb hby at_7) rfl rfl ?_
    obtain ⟨T5, L5, v5, X5, Q5, st5⟩ := callStatic X0 hx (y := (⟨"com/example/portcullis/portcullis/OutcomeAllowsPinLaw", "pick", "(I)Lcom/example/portcullis/portcullis/Outcome;"⟩ : MethodName)) (Ls := #[.val (.int p0), .val (.int (1 : Int32)), .unset, .unset, .unset, .unset, .unset]) (rest := []) (W := 0) (argsL := [(.int (1 : Int32))]) hZ hown (hw _ (List.mem_of_getElem? (i := 1) rfl)) (hw _ (List.mem_of_getElem? (i := 2) rfl)) (hw _ (List.mem_of_getElem? (i := 3) rfl)) (hw _ (List.mem_of_getElem? (i := 4) rfl)) (by decide) e0 (rm1 l Z a0 hw [] (1 : Int32) a_ALLOW a_ALLOW_LOG a_DENY a_DENY_LOG a_DEFER h0 n0 Z0 S_ALLOW S_ALLOW_LOG S_DENY S_DENY_LOG S_DEFER) (hb hby at_8) (lenOf own_pd0 rfl) (by decide) (by decide) (by rw [hml]; rfl) (Nat.le_of_eq rfl) (by decide) (by decide)
    obtain ⟨hv5, M5, e5⟩ := Q5
    rw [show (own_F1 (1 : Int32) a_ALLOW a_ALLOW_LOG a_DENY a_DENY_LOG a_DEFER) = a_ALLOW_LOG from rfl] at hv5
    subst hv5
    have N5 := Fr.app N0 M5
    refine Run.back (g' := (mkF m 11 #[.val (.int p0), .val (.int (1 : Int32)), .unset, .unset, .unset, .unset, .unset] [(.ref a_ALLOW_LOG)])) st5 ?_
    refine Run.astoreN (pc' := 12) X5 hx (l' := #[.val (.int p0), .val (.int (1 : Int32)), .val (.ref a_ALLOW_LOG), .unset, .unset, .unset, .unset]) (hb hby at_11) rfl rfl ?_
    refine Run.aloadN (pc' := 13) X5 hx (hb hby at_12) rfl rfl ?_
    obtain ⟨T6, L6, v6, X6, Q6, st6⟩ := callVirtual X5 hx (y := (⟨"com/example/portcullis/portcullis/Outcome", "allows", "()Z"⟩ : MethodName)) (z := (⟨"com/example/portcullis/portcullis/Outcome", "allows", "()Z"⟩ : MethodName)) (C := "com/example/portcullis/portcullis/Outcome") (a := a_ALLOW_LOG) (Ls := #[.val (.int p0), .val (.int (1 : Int32)), .val (.ref a_ALLOW_LOG), .unset, .unset, .unset, .unset]) (rest := []) (W := 0) (argsL := []) hZ hown (hw _ (List.mem_of_getElem? (i := 8) rfl)) (hw _ (List.mem_of_getElem? (i := 9) rfl)) (notFace_of_selects (args := #[]) (mvT hZ (hw _ (List.mem_of_getElem? (i := 11) rfl)))) (hw _ (List.mem_of_getElem? (i := 11) rfl)) (hw _ (List.mem_of_getElem? (i := 10) rfl)) (hw _ (List.mem_of_getElem? (i := 6) rfl)) (hw _ (List.mem_of_getElem? (i := 12) rfl)) (by decide) e5 E_ALLOW_LOG (rm2 l Z a0 hw [] a_ALLOW_LOG a_ALLOW a_ALLOW_LOG h0 n0 Z0 S_ALLOW S_ALLOW_LOG) (hb hby at_13) (lenOf own_pd1 rfl) (by decide) (by decide) (by rw [hml]; rfl) (Nat.le_of_eq rfl) (by decide) (by decide)
    obtain ⟨hv6, M6, e6⟩ := Q6
    rw [show (own_F2 a_ALLOW_LOG a_ALLOW a_ALLOW_LOG) = (1 : Int32) from (by simp [own_f2_19, own_f2_14, own_F2, ne_ALLOW_ALLOW_LOG, ne_ALLOW_DENY, ne_ALLOW_DENY_LOG, ne_ALLOW_DEFER, ne_ALLOW_LOG_ALLOW, ne_ALLOW_LOG_DENY, ne_ALLOW_LOG_DENY_LOG, ne_ALLOW_LOG_DEFER, ne_DENY_ALLOW, ne_DENY_ALLOW_LOG, ne_DENY_DENY_LOG, ne_DENY_DEFER, ne_DENY_LOG_ALLOW, ne_DENY_LOG_ALLOW_LOG, ne_DENY_LOG_DENY, ne_DENY_LOG_DEFER, ne_DEFER_ALLOW, ne_DEFER_ALLOW_LOG, ne_DEFER_DENY, ne_DEFER_DENY_LOG])] at hv6
    subst hv6
    have N6 := Fr.app N5 M6
    refine Run.back (g' := (mkF m 16 #[.val (.int p0), .val (.int (1 : Int32)), .val (.ref a_ALLOW_LOG), .unset, .unset, .unset, .unset] [(.int (1 : Int32))])) st6 ?_
    refine Run.istoreN (pc' := 17) X6 hx (l' := #[.val (.int p0), .val (.int (1 : Int32)), .val (.ref a_ALLOW_LOG), .val (.int (1 : Int32)), .unset, .unset, .unset]) (hb hby at_16) rfl rfl ?_
    refine Run.iloadN (pc' := 18) X6 hx (hb hby at_17) rfl rfl ?_
    refine Run.iconst (pc' := 19) (v := (2 : Int32)) X6 hx (hb hby at_18) rfl rfl ?_
    refine Run.icmpNo (pc' := 22) X6 hx (hb hby at_19) (tlt (by decide : (1 : Int32) < (2 : Int32))).2.1 rfl ?_
    refine Run.iconst (pc' := 23) (v := (1 : Int32)) X6 hx (hb hby at_22) rfl rfl ?_
    refine Run.goto (pc' := 27) X6 hx (hb hby at_23) (by decide) (by decide) ?_
    refine Run.istore (pc' := 29) X6 hx (l' := #[.val (.int p0), .val (.int (1 : Int32)), .val (.ref a_ALLOW_LOG), .val (.int (1 : Int32)), .val (.int (1 : Int32)), .unset, .unset]) (hb hby at_27) rfl rfl ?_
    refine Run.iloadN (pc' := 30) X6 hx (hb hby at_29) rfl rfl ?_
    refine Run.aloadN (pc' := 31) X6 hx (hb hby at_30) rfl rfl ?_
    obtain ⟨T7, L7, v7, X7, Q7, st7⟩ := callVirtual X6 hx (y := (⟨"com/example/portcullis/portcullis/Outcome", "exitStatus", "()I"⟩ : MethodName)) (z := (⟨"com/example/portcullis/portcullis/Outcome", "exitStatus", "()I"⟩ : MethodName)) (C := "com/example/portcullis/portcullis/Outcome") (a := a_ALLOW_LOG) (Ls := #[.val (.int p0), .val (.int (1 : Int32)), .val (.ref a_ALLOW_LOG), .val (.int (1 : Int32)), .val (.int (1 : Int32)), .unset, .unset]) (rest := [(.int (1 : Int32))]) (W := 1) (argsL := []) hZ hown (hw _ (List.mem_of_getElem? (i := 14) rfl)) (hw _ (List.mem_of_getElem? (i := 15) rfl)) (notFace_of_selects (args := #[]) (mvT hZ (hw _ (List.mem_of_getElem? (i := 17) rfl)))) (hw _ (List.mem_of_getElem? (i := 17) rfl)) (hw _ (List.mem_of_getElem? (i := 16) rfl)) (hw _ (List.mem_of_getElem? (i := 6) rfl)) (hw _ (List.mem_of_getElem? (i := 18) rfl)) (by decide) e6 E_ALLOW_LOG (rm3 l Z a0 hw [] a_ALLOW_LOG (0 : Int32) h0 n0 Z0 F_ALLOW_LOG_exitStatus) (hb hby at_31) (lenOf own_pd2 rfl) (by decide) (by decide) (by rw [hml]; rfl) (Nat.le_of_eq rfl) (by decide) (by decide)
    obtain ⟨hv7, M7, e7⟩ := Q7
    rw [show (own_F3 a_ALLOW_LOG (0 : Int32)) = (0 : Int32) from rfl] at hv7
    subst hv7
    have N7 := Fr.app N6 M7
    refine Run.back (g' := (mkF m 34 #[.val (.int p0), .val (.int (1 : Int32)), .val (.ref a_ALLOW_LOG), .val (.int (1 : Int32)), .val (.int (1 : Int32)), .unset, .unset] [(.int (0 : Int32)), (.int (1 : Int32))])) st7 ?_
    refine Run.ifNo (pc' := 37) X7 hx (hb hby at_34) ((if0 _ _).trans (teq (by decide : (0 : Int32) = (0 : Int32))).2) rfl ?_
    refine Run.iconst (pc' := 38) (v := (1 : Int32)) X7 hx (hb hby at_37) rfl rfl ?_
    refine Run.goto (pc' := 42) X7 hx (hb hby at_38) (by decide) (by decide) ?_
    refine Run.icmpNo (pc' := 45) X7 hx (hb hby at_42) (teq (by decide : (1 : Int32) = (1 : Int32))).2 rfl ?_
    refine Run.iconst (pc' := 46) (v := (1 : Int32)) X7 hx (hb hby at_45) rfl rfl ?_
    refine Run.goto (pc' := 50) X7 hx (hb hby at_46) (by decide) (by decide) ?_
    refine Run.istore (pc' := 52) X7 hx (l' := #[.val (.int p0), .val (.int (1 : Int32)), .val (.ref a_ALLOW_LOG), .val (.int (1 : Int32)), .val (.int (1 : Int32)), .val (.int (1 : Int32)), .unset]) (hb hby at_50) rfl rfl ?_
    refine Run.iloadN (pc' := 53) X7 hx (hb hby at_52) rfl rfl ?_
    refine Run.ifNo (pc' := 56) X7 hx (hb hby at_53) ((if0 _ _).trans (feq (by decide : ¬ ((1 : Int32) = (0 : Int32)))).1) rfl ?_
    refine Run.aloadN (pc' := 57) X7 hx (hb hby at_56) rfl rfl ?_
    obtain ⟨T8, L8, v8, X8, Q8, st8⟩ := callVirtual X7 hx (y := (⟨"com/example/portcullis/portcullis/Outcome", "isPermission", "()Z"⟩ : MethodName)) (z := (⟨"com/example/portcullis/portcullis/Outcome", "isPermission", "()Z"⟩ : MethodName)) (C := "com/example/portcullis/portcullis/Outcome") (a := a_ALLOW_LOG) (Ls := #[.val (.int p0), .val (.int (1 : Int32)), .val (.ref a_ALLOW_LOG), .val (.int (1 : Int32)), .val (.int (1 : Int32)), .val (.int (1 : Int32)), .unset]) (rest := []) (W := 0) (argsL := []) hZ hown (hw _ (List.mem_of_getElem? (i := 21) rfl)) (hw _ (List.mem_of_getElem? (i := 22) rfl)) (notFace_of_selects (args := #[]) (mvT hZ (hw _ (List.mem_of_getElem? (i := 24) rfl)))) (hw _ (List.mem_of_getElem? (i := 24) rfl)) (hw _ (List.mem_of_getElem? (i := 23) rfl)) (hw _ (List.mem_of_getElem? (i := 6) rfl)) (hw _ (List.mem_of_getElem? (i := 25) rfl)) (by decide) e7 E_ALLOW_LOG (rm4 l Z a0 hw [] a_ALLOW_LOG a_DEFER h0 n0 Z0 S_DEFER) (hb hby at_57) (lenOf own_pd1 rfl) (by decide) (by decide) (by rw [hml]; rfl) (Nat.le_of_eq rfl) (by decide) (by decide)
    obtain ⟨hv8, M8, e8⟩ := Q8
    rw [show (own_F4 a_ALLOW_LOG a_DEFER) = (1 : Int32) from (by simp [own_f4_12, own_F4, ne_ALLOW_ALLOW_LOG, ne_ALLOW_DENY, ne_ALLOW_DENY_LOG, ne_ALLOW_DEFER, ne_ALLOW_LOG_ALLOW, ne_ALLOW_LOG_DENY, ne_ALLOW_LOG_DENY_LOG, ne_ALLOW_LOG_DEFER, ne_DENY_ALLOW, ne_DENY_ALLOW_LOG, ne_DENY_DENY_LOG, ne_DENY_DEFER, ne_DENY_LOG_ALLOW, ne_DENY_LOG_ALLOW_LOG, ne_DENY_LOG_DENY, ne_DENY_LOG_DEFER, ne_DEFER_ALLOW, ne_DEFER_ALLOW_LOG, ne_DEFER_DENY, ne_DEFER_DENY_LOG])] at hv8
    subst hv8
    have N8 := Fr.app N7 M8
    refine Run.back (g' := (mkF m 60 #[.val (.int p0), .val (.int (1 : Int32)), .val (.ref a_ALLOW_LOG), .val (.int (1 : Int32)), .val (.int (1 : Int32)), .val (.int (1 : Int32)), .unset] [(.int (1 : Int32))])) st8 ?_
    refine Run.ifNo (pc' := 63) X8 hx (hb hby at_60) ((if0 _ _).trans (feq (by decide : ¬ ((1 : Int32) = (0 : Int32)))).1) rfl ?_
    refine Run.iconst (pc' := 64) (v := (1 : Int32)) X8 hx (hb hby at_63) rfl rfl ?_
    refine Run.goto (pc' := 68) X8 hx (hb hby at_64) (by decide) (by decide) ?_
    refine Run.istore (pc' := 70) X8 hx (l' := #[.val (.int p0), .val (.int (1 : Int32)), .val (.ref a_ALLOW_LOG), .val (.int (1 : Int32)), .val (.int (1 : Int32)), .val (.int (1 : Int32)), .val (.int (1 : Int32))]) (hb hby at_68) rfl rfl ?_
    refine Run.iloadN (pc' := 71) X8 hx (hb hby at_70) rfl rfl ?_
    refine Run.iload (pc' := 73) X8 hx (hb hby at_71) rfl rfl ?_
    refine Run.icmpNo (pc' := 76) X8 hx (hb hby at_73) (teq (by decide : (1 : Int32) = (1 : Int32))).2 rfl ?_
    refine Run.iload (pc' := 78) X8 hx (hb hby at_76) rfl rfl ?_
    refine Run.ifNo (pc' := 81) X8 hx (hb hby at_78) ((if0 _ _).trans (feq (by decide : ¬ ((1 : Int32) = (0 : Int32)))).1) rfl ?_
    refine Run.iload (pc' := 83) X8 hx (hb hby at_81) rfl rfl ?_
    refine Run.ifNo (pc' := 86) X8 hx (hb hby at_83) ((if0 _ _).trans (feq (by decide : ¬ ((1 : Int32) = (0 : Int32)))).1) rfl ?_
    refine Run.iconst (pc' := 87) (v := (1 : Int32)) X8 hx (hb hby at_86) rfl rfl ?_
    refine Run.goto (pc' := 91) X8 hx (hb hby at_87) (by decide) (by decide) ?_
    exact Run.retSmall X8 hx (t := .boolean) (z' := (1 : Int32)) Bd.notSynchronized Bd.returns (by simp) rfl (hb hby at_91) ⟨rfl, N8⟩ (by decide) (by decide)
  · rw [hk]
    refine Run.iloadN (pc' := 8) X0 hx (hb hby at_7) rfl rfl ?_
    obtain ⟨T9, L9, v9, X9, Q9, st9⟩ := callStatic X0 hx (y := (⟨"com/example/portcullis/portcullis/OutcomeAllowsPinLaw", "pick", "(I)Lcom/example/portcullis/portcullis/Outcome;"⟩ : MethodName)) (Ls := #[.val (.int p0), .val (.int (2 : Int32)), .unset, .unset, .unset, .unset, .unset]) (rest := []) (W := 0) (argsL := [(.int (2 : Int32))]) hZ hown (hw _ (List.mem_of_getElem? (i := 1) rfl)) (hw _ (List.mem_of_getElem? (i := 2) rfl)) (hw _ (List.mem_of_getElem? (i := 3) rfl)) (hw _ (List.mem_of_getElem? (i := 4) rfl)) (by decide) e0 (rm1 l Z a0 hw [] (2 : Int32) a_ALLOW a_ALLOW_LOG a_DENY a_DENY_LOG a_DEFER h0 n0 Z0 S_ALLOW S_ALLOW_LOG S_DENY S_DENY_LOG S_DEFER) (hb hby at_8) (lenOf own_pd0 rfl) (by decide) (by decide) (by rw [hml]; rfl) (Nat.le_of_eq rfl) (by decide) (by decide)
    obtain ⟨hv9, M9, e9⟩ := Q9
    rw [show (own_F1 (2 : Int32) a_ALLOW a_ALLOW_LOG a_DENY a_DENY_LOG a_DEFER) = a_DENY from rfl] at hv9
    subst hv9
    have N9 := Fr.app N0 M9
    refine Run.back (g' := (mkF m 11 #[.val (.int p0), .val (.int (2 : Int32)), .unset, .unset, .unset, .unset, .unset] [(.ref a_DENY)])) st9 ?_
    refine Run.astoreN (pc' := 12) X9 hx (l' := #[.val (.int p0), .val (.int (2 : Int32)), .val (.ref a_DENY), .unset, .unset, .unset, .unset]) (hb hby at_11) rfl rfl ?_
    refine Run.aloadN (pc' := 13) X9 hx (hb hby at_12) rfl rfl ?_
    obtain ⟨T10, L10, v10, X10, Q10, st10⟩ := callVirtual X9 hx (y := (⟨"com/example/portcullis/portcullis/Outcome", "allows", "()Z"⟩ : MethodName)) (z := (⟨"com/example/portcullis/portcullis/Outcome", "allows", "()Z"⟩ : MethodName)) (C := "com/example/portcullis/portcullis/Outcome") (a := a_DENY) (Ls := #[.val (.int p0), .val (.int (2 : Int32)), .val (.ref a_DENY), .unset, .unset, .unset, .unset]) (rest := []) (W := 0) (argsL := []) hZ hown (hw _ (List.mem_of_getElem? (i := 8) rfl)) (hw _ (List.mem_of_getElem? (i := 9) rfl)) (notFace_of_selects (args := #[]) (mvT hZ (hw _ (List.mem_of_getElem? (i := 11) rfl)))) (hw _ (List.mem_of_getElem? (i := 11) rfl)) (hw _ (List.mem_of_getElem? (i := 10) rfl)) (hw _ (List.mem_of_getElem? (i := 6) rfl)) (hw _ (List.mem_of_getElem? (i := 12) rfl)) (by decide) e9 E_DENY (rm2 l Z a0 hw [] a_DENY a_ALLOW a_ALLOW_LOG h0 n0 Z0 S_ALLOW S_ALLOW_LOG) (hb hby at_13) (lenOf own_pd1 rfl) (by decide) (by decide) (by rw [hml]; rfl) (Nat.le_of_eq rfl) (by decide) (by decide)
    obtain ⟨hv10, M10, e10⟩ := Q10
    rw [show (own_F2 a_DENY a_ALLOW a_ALLOW_LOG) = (0 : Int32) from (by simp [own_f2_19, own_f2_14, own_F2, ne_ALLOW_ALLOW_LOG, ne_ALLOW_DENY, ne_ALLOW_DENY_LOG, ne_ALLOW_DEFER, ne_ALLOW_LOG_ALLOW, ne_ALLOW_LOG_DENY, ne_ALLOW_LOG_DENY_LOG, ne_ALLOW_LOG_DEFER, ne_DENY_ALLOW, ne_DENY_ALLOW_LOG, ne_DENY_DENY_LOG, ne_DENY_DEFER, ne_DENY_LOG_ALLOW, ne_DENY_LOG_ALLOW_LOG, ne_DENY_LOG_DENY, ne_DENY_LOG_DEFER, ne_DEFER_ALLOW, ne_DEFER_ALLOW_LOG, ne_DEFER_DENY, ne_DEFER_DENY_LOG])] at hv10
    subst hv10
    have N10 := Fr.app N9 M10
    refine Run.back (g' := (mkF m 16 #[.val (.int p0), .val (.int (2 : Int32)), .val (.ref a_DENY), .unset, .unset, .unset, .unset] [(.int (0 : Int32))])) st10 ?_
    refine Run.istoreN (pc' := 17) X10 hx (l' := #[.val (.int p0), .val (.int (2 : Int32)), .val (.ref a_DENY), .val (.int (0 : Int32)), .unset, .unset, .unset]) (hb hby at_16) rfl rfl ?_
    refine Run.iloadN (pc' := 18) X10 hx (hb hby at_17) rfl rfl ?_
    refine Run.iconst (pc' := 19) (v := (2 : Int32)) X10 hx (hb hby at_18) rfl rfl ?_
    refine Run.icmpYes (pc' := 26) X10 hx (hb hby at_19) (flt (by decide : ¬ ((2 : Int32) < (2 : Int32)))).2.1 (by decide) (by decide) ?_
    refine Run.iconst (pc' := 27) (v := (0 : Int32)) X10 hx (hb hby at_26) rfl rfl ?_
    refine Run.istore (pc' := 29) X10 hx (l' := #[.val (.int p0), .val (.int (2 : Int32)), .val (.ref a_DENY), .val (.int (0 : Int32)), .val (.int (0 : Int32)), .unset, .unset]) (hb hby at_27) rfl rfl ?_
    refine Run.iloadN (pc' := 30) X10 hx (hb hby at_29) rfl rfl ?_
    refine Run.aloadN (pc' := 31) X10 hx (hb hby at_30) rfl rfl ?_
    obtain ⟨T11, L11, v11, X11, Q11, st11⟩ := callVirtual X10 hx (y := (⟨"com/example/portcullis/portcullis/Outcome", "exitStatus", "()I"⟩ : MethodName)) (z := (⟨"com/example/portcullis/portcullis/Outcome", "exitStatus", "()I"⟩ : MethodName)) (C := "com/example/portcullis/portcullis/Outcome") (a := a_DENY) (Ls := #[.val (.int p0), .val (.int (2 : Int32)), .val (.ref a_DENY), .val (.int (0 : Int32)), .val (.int (0 : Int32)), .unset, .unset]) (rest := [(.int (0 : Int32))]) (W := 1) (argsL := []) hZ hown (hw _ (List.mem_of_getElem? (i := 14) rfl)) (hw _ (List.mem_of_getElem? (i := 15) rfl)) (notFace_of_selects (args := #[]) (mvT hZ (hw _ (List.mem_of_getElem? (i := 17) rfl)))) (hw _ (List.mem_of_getElem? (i := 17) rfl)) (hw _ (List.mem_of_getElem? (i := 16) rfl)) (hw _ (List.mem_of_getElem? (i := 6) rfl)) (hw _ (List.mem_of_getElem? (i := 18) rfl)) (by decide) e10 E_DENY (rm3 l Z a0 hw [] a_DENY (1 : Int32) h0 n0 Z0 F_DENY_exitStatus) (hb hby at_31) (lenOf own_pd2 rfl) (by decide) (by decide) (by rw [hml]; rfl) (Nat.le_of_eq rfl) (by decide) (by decide)
    obtain ⟨hv11, M11, e11⟩ := Q11
    rw [show (own_F3 a_DENY (1 : Int32)) = (1 : Int32) from rfl] at hv11
    subst hv11
    have N11 := Fr.app N10 M11
    refine Run.back (g' := (mkF m 34 #[.val (.int p0), .val (.int (2 : Int32)), .val (.ref a_DENY), .val (.int (0 : Int32)), .val (.int (0 : Int32)), .unset, .unset] [(.int (1 : Int32)), (.int (0 : Int32))])) st11 ?_
    refine Run.ifYes (pc' := 41) X11 hx (hb hby at_34) ((if0 _ _).trans (feq (by decide : ¬ ((1 : Int32) = (0 : Int32)))).2) (by decide) (by decide) ?_
    refine Run.iconst (pc' := 42) (v := (0 : Int32)) X11 hx (hb hby at_41) rfl rfl ?_
    refine Run.icmpNo (pc' := 45) X11 hx (hb hby at_42) (teq (by decide : (0 : Int32) = (0 : Int32))).2 rfl ?_
    refine Run.iconst (pc' := 46) (v := (1 : Int32)) X11 hx (hb hby at_45) rfl rfl ?_
    refine Run.goto (pc' := 50) X11 hx (hb hby at_46) (by decide) (by decide) ?_
    refine Run.istore (pc' := 52) X11 hx (l' := #[.val (.int p0), .val (.int (2 : Int32)), .val (.ref a_DENY), .val (.int (0 : Int32)), .val (.int (0 : Int32)), .val (.int (1 : Int32)), .unset]) (hb hby at_50) rfl rfl ?_
    refine Run.iloadN (pc' := 53) X11 hx (hb hby at_52) rfl rfl ?_
    refine Run.ifYes (pc' := 63) X11 hx (hb hby at_53) ((if0 _ _).trans (teq (by decide : (0 : Int32) = (0 : Int32))).1) (by decide) (by decide) ?_
    refine Run.iconst (pc' := 64) (v := (1 : Int32)) X11 hx (hb hby at_63) rfl rfl ?_
    refine Run.goto (pc' := 68) X11 hx (hb hby at_64) (by decide) (by decide) ?_
    refine Run.istore (pc' := 70) X11 hx (l' := #[.val (.int p0), .val (.int (2 : Int32)), .val (.ref a_DENY), .val (.int (0 : Int32)), .val (.int (0 : Int32)), .val (.int (1 : Int32)), .val (.int (1 : Int32))]) (hb hby at_68) rfl rfl ?_
    refine Run.iloadN (pc' := 71) X11 hx (hb hby at_70) rfl rfl ?_
    refine Run.iload (pc' := 73) X11 hx (hb hby at_71) rfl rfl ?_
    refine Run.icmpNo (pc' := 76) X11 hx (hb hby at_73) (teq (by decide : (0 : Int32) = (0 : Int32))).2 rfl ?_
    refine Run.iload (pc' := 78) X11 hx (hb hby at_76) rfl rfl ?_
    refine Run.ifNo (pc' := 81) X11 hx (hb hby at_78) ((if0 _ _).trans (feq (by decide : ¬ ((1 : Int32) = (0 : Int32)))).1) rfl ?_
    refine Run.iload (pc' := 83) X11 hx (hb hby at_81) rfl rfl ?_
    refine Run.ifNo (pc' := 86) X11 hx (hb hby at_83) ((if0 _ _).trans (feq (by decide : ¬ ((1 : Int32) = (0 : Int32)))).1) rfl ?_
    refine Run.iconst (pc' := 87) (v := (1 : Int32)) X11 hx (hb hby at_86) rfl rfl ?_
    refine Run.goto (pc' := 91) X11 hx (hb hby at_87) (by decide) (by decide) ?_
    exact Run.retSmall X11 hx (t := .boolean) (z' := (1 : Int32)) Bd.notSynchronized Bd.returns (by simp) rfl (hb hby at_91) ⟨rfl, N11⟩ (by decide) (by decide)
  · rw [hk]
    refine Run.iloadN (pc' := 8) X0 hx (hb hby at_7) rfl rfl ?_
    obtain ⟨T12, L12, v12, X12, Q12, st12⟩ := callStatic X0 hx (y := (⟨"com/example/portcullis/portcullis/OutcomeAllowsPinLaw", "pick", "(I)Lcom/example/portcullis/portcullis/Outcome;"⟩ : MethodName)) (Ls := #[.val (.int p0), .val (.int (3 : Int32)), .unset, .unset, .unset, .unset, .unset]) (rest := []) (W := 0) (argsL := [(.int (3 : Int32))]) hZ hown (hw _ (List.mem_of_getElem? (i := 1) rfl)) (hw _ (List.mem_of_getElem? (i := 2) rfl)) (hw _ (List.mem_of_getElem? (i := 3) rfl)) (hw _ (List.mem_of_getElem? (i := 4) rfl)) (by decide) e0 (rm1 l Z a0 hw [] (3 : Int32) a_ALLOW a_ALLOW_LOG a_DENY a_DENY_LOG a_DEFER h0 n0 Z0 S_ALLOW S_ALLOW_LOG S_DENY S_DENY_LOG S_DEFER) (hb hby at_8) (lenOf own_pd0 rfl) (by decide) (by decide) (by rw [hml]; rfl) (Nat.le_of_eq rfl) (by decide) (by decide)
    obtain ⟨hv12, M12, e12⟩ := Q12
    rw [show (own_F1 (3 : Int32) a_ALLOW a_ALLOW_LOG a_DENY a_DENY_LOG a_DEFER) = a_DENY_LOG from rfl] at hv12
    subst hv12
    have N12 := Fr.app N0 M12
    refine Run.back (g' := (mkF m 11 #[.val (.int p0), .val (.int (3 : Int32)), .unset, .unset, .unset, .unset, .unset] [(.ref a_DENY_LOG)])) st12 ?_
    refine Run.astoreN (pc' := 12) X12 hx (l' := #[.val (.int p0), .val (.int (3 : Int32)), .val (.ref a_DENY_LOG), .unset, .unset, .unset, .unset]) (hb hby at_11) rfl rfl ?_
    refine Run.aloadN (pc' := 13) X12 hx (hb hby at_12) rfl rfl ?_
    obtain ⟨T13, L13, v13, X13, Q13, st13⟩ := callVirtual X12 hx (y := (⟨"com/example/portcullis/portcullis/Outcome", "allows", "()Z"⟩ : MethodName)) (z := (⟨"com/example/portcullis/portcullis/Outcome", "allows", "()Z"⟩ : MethodName)) (C := "com/example/portcullis/portcullis/Outcome") (a := a_DENY_LOG) (Ls := #[.val (.int p0), .val (.int (3 : Int32)), .val (.ref a_DENY_LOG), .unset, .unset, .unset, .unset]) (rest := []) (W := 0) (argsL := []) hZ hown (hw _ (List.mem_of_getElem? (i := 8) rfl)) (hw _ (List.mem_of_getElem? (i := 9) rfl)) (notFace_of_selects (args := #[]) (mvT hZ (hw _ (List.mem_of_getElem? (i := 11) rfl)))) (hw _ (List.mem_of_getElem? (i := 11) rfl)) (hw _ (List.mem_of_getElem? (i := 10) rfl)) (hw _ (List.mem_of_getElem? (i := 6) rfl)) (hw _ (List.mem_of_getElem? (i := 12) rfl)) (by decide) e12 E_DENY_LOG (rm2 l Z a0 hw [] a_DENY_LOG a_ALLOW a_ALLOW_LOG h0 n0 Z0 S_ALLOW S_ALLOW_LOG) (hb hby at_13) (lenOf own_pd1 rfl) (by decide) (by decide) (by rw [hml]; rfl) (Nat.le_of_eq rfl) (by decide) (by decide)
    obtain ⟨hv13, M13, e13⟩ := Q13
    rw [show (own_F2 a_DENY_LOG a_ALLOW a_ALLOW_LOG) = (0 : Int32) from (by simp [own_f2_19, own_f2_14, own_F2, ne_ALLOW_ALLOW_LOG, ne_ALLOW_DENY, ne_ALLOW_DENY_LOG, ne_ALLOW_DEFER, ne_ALLOW_LOG_ALLOW, ne_ALLOW_LOG_DENY, ne_ALLOW_LOG_DENY_LOG, ne_ALLOW_LOG_DEFER, ne_DENY_ALLOW, ne_DENY_ALLOW_LOG, ne_DENY_DENY_LOG, ne_DENY_DEFER, ne_DENY_LOG_ALLOW, ne_DENY_LOG_ALLOW_LOG, ne_DENY_LOG_DENY, ne_DENY_LOG_DEFER, ne_DEFER_ALLOW, ne_DEFER_ALLOW_LOG, ne_DEFER_DENY, ne_DEFER_DENY_LOG])] at hv13
    subst hv13
    have N13 := Fr.app N12 M13
    refine Run.back (g' := (mkF m 16 #[.val (.int p0), .val (.int (3 : Int32)), .val (.ref a_DENY_LOG), .unset, .unset, .unset, .unset] [(.int (0 : Int32))])) st13 ?_
    refine Run.istoreN (pc' := 17) X13 hx (l' := #[.val (.int p0), .val (.int (3 : Int32)), .val (.ref a_DENY_LOG), .val (.int (0 : Int32)), .unset, .unset, .unset]) (hb hby at_16) rfl rfl ?_
    refine Run.iloadN (pc' := 18) X13 hx (hb hby at_17) rfl rfl ?_
    refine Run.iconst (pc' := 19) (v := (2 : Int32)) X13 hx (hb hby at_18) rfl rfl ?_
    refine Run.icmpYes (pc' := 26) X13 hx (hb hby at_19) (flt (by decide : ¬ ((3 : Int32) < (2 : Int32)))).2.1 (by decide) (by decide) ?_
    refine Run.iconst (pc' := 27) (v := (0 : Int32)) X13 hx (hb hby at_26) rfl rfl ?_
    refine Run.istore (pc' := 29) X13 hx (l' := #[.val (.int p0), .val (.int (3 : Int32)), .val (.ref a_DENY_LOG), .val (.int (0 : Int32)), .val (.int (0 : Int32)), .unset, .unset]) (hb hby at_27) rfl rfl ?_
    refine Run.iloadN (pc' := 30) X13 hx (hb hby at_29) rfl rfl ?_
    refine Run.aloadN (pc' := 31) X13 hx (hb hby at_30) rfl rfl ?_
    obtain ⟨T14, L14, v14, X14, Q14, st14⟩ := callVirtual X13 hx (y := (⟨"com/example/portcullis/portcullis/Outcome", "exitStatus", "()I"⟩ : MethodName)) (z := (⟨"com/example/portcullis/portcullis/Outcome", "exitStatus", "()I"⟩ : MethodName)) (C := "com/example/portcullis/portcullis/Outcome") (a := a_DENY_LOG) (Ls := #[.val (.int p0), .val (.int (3 : Int32)), .val (.ref a_DENY_LOG), .val (.int (0 : Int32)), .val (.int (0 : Int32)), .unset, .unset]) (rest := [(.int (0 : Int32))]) (W := 1) (argsL := []) hZ hown (hw _ (List.mem_of_getElem? (i := 14) rfl)) (hw _ (List.mem_of_getElem? (i := 15) rfl)) (notFace_of_selects (args := #[]) (mvT hZ (hw _ (List.mem_of_getElem? (i := 17) rfl)))) (hw _ (List.mem_of_getElem? (i := 17) rfl)) (hw _ (List.mem_of_getElem? (i := 16) rfl)) (hw _ (List.mem_of_getElem? (i := 6) rfl)) (hw _ (List.mem_of_getElem? (i := 18) rfl)) (by decide) e13 E_DENY_LOG (rm3 l Z a0 hw [] a_DENY_LOG (1 : Int32) h0 n0 Z0 F_DENY_LOG_exitStatus) (hb hby at_31) (lenOf own_pd2 rfl) (by decide) (by decide) (by rw [hml]; rfl) (Nat.le_of_eq rfl) (by decide) (by decide)
    obtain ⟨hv14, M14, e14⟩ := Q14
    rw [show (own_F3 a_DENY_LOG (1 : Int32)) = (1 : Int32) from rfl] at hv14
    subst hv14
    have N14 := Fr.app N13 M14
    refine Run.back (g' := (mkF m 34 #[.val (.int p0), .val (.int (3 : Int32)), .val (.ref a_DENY_LOG), .val (.int (0 : Int32)), .val (.int (0 : Int32)), .unset, .unset] [(.int (1 : Int32)), (.int (0 : Int32))])) st14 ?_
    refine Run.ifYes (pc' := 41) X14 hx (hb hby at_34) ((if0 _ _).trans (feq (by decide : ¬ ((1 : Int32) = (0 : Int32)))).2) (by decide) (by decide) ?_
    refine Run.iconst (pc' := 42) (v := (0 : Int32)) X14 hx (hb hby at_41) rfl rfl ?_
    refine Run.icmpNo (pc' := 45) X14 hx (hb hby at_42) (teq (by decide : (0 : Int32) = (0 : Int32))).2 rfl ?_
    refine Run.iconst (pc' := 46) (v := (1 : Int32)) X14 hx (hb hby at_45) rfl rfl ?_
    refine Run.goto (pc' := 50) X14 hx (hb hby at_46) (by decide) (by decide) ?_
    refine Run.istore (pc' := 52) X14 hx (l' := #[.val (.int p0), .val (.int (3 : Int32)), .val (.ref a_DENY_LOG), .val (.int (0 : Int32)), .val (.int (0 : Int32)), .val (.int (1 : Int32)), .unset]) (hb hby at_50) rfl rfl ?_
    refine Run.iloadN (pc' := 53) X14 hx (hb hby at_52) rfl rfl ?_
    refine Run.ifYes (pc' := 63) X14 hx (hb hby at_53) ((if0 _ _).trans (teq (by decide : (0 : Int32) = (0 : Int32))).1) (by decide) (by decide) ?_
    refine Run.iconst (pc' := 64) (v := (1 : Int32)) X14 hx (hb hby at_63) rfl rfl ?_
    refine Run.goto (pc' := 68) X14 hx (hb hby at_64) (by decide) (by decide) ?_
    refine Run.istore (pc' := 70) X14 hx (l' := #[.val (.int p0), .val (.int (3 : Int32)), .val (.ref a_DENY_LOG), .val (.int (0 : Int32)), .val (.int (0 : Int32)), .val (.int (1 : Int32)), .val (.int (1 : Int32))]) (hb hby at_68) rfl rfl ?_
    refine Run.iloadN (pc' := 71) X14 hx (hb hby at_70) rfl rfl ?_
    refine Run.iload (pc' := 73) X14 hx (hb hby at_71) rfl rfl ?_
    refine Run.icmpNo (pc' := 76) X14 hx (hb hby at_73) (teq (by decide : (0 : Int32) = (0 : Int32))).2 rfl ?_
    refine Run.iload (pc' := 78) X14 hx (hb hby at_76) rfl rfl ?_
    refine Run.ifNo (pc' := 81) X14 hx (hb hby at_78) ((if0 _ _).trans (feq (by decide : ¬ ((1 : Int32) = (0 : Int32)))).1) rfl ?_
    refine Run.iload (pc' := 83) X14 hx (hb hby at_81) rfl rfl ?_
    refine Run.ifNo (pc' := 86) X14 hx (hb hby at_83) ((if0 _ _).trans (feq (by decide : ¬ ((1 : Int32) = (0 : Int32)))).1) rfl ?_
    refine Run.iconst (pc' := 87) (v := (1 : Int32)) X14 hx (hb hby at_86) rfl rfl ?_
    refine Run.goto (pc' := 91) X14 hx (hb hby at_87) (by decide) (by decide) ?_
    exact Run.retSmall X14 hx (t := .boolean) (z' := (1 : Int32)) Bd.notSynchronized Bd.returns (by simp) rfl (hb hby at_91) ⟨rfl, N14⟩ (by decide) (by decide)
  · rw [hk]
    refine Run.iloadN (pc' := 8) X0 hx (hb hby at_7) rfl rfl ?_
    obtain ⟨T15, L15, v15, X15, Q15, st15⟩ := callStatic X0 hx (y := (⟨"com/example/portcullis/portcullis/OutcomeAllowsPinLaw", "pick", "(I)Lcom/example/portcullis/portcullis/Outcome;"⟩ : MethodName)) (Ls := #[.val (.int p0), .val (.int (4 : Int32)), .unset, .unset, .unset, .unset, .unset]) (rest := []) (W := 0) (argsL := [(.int (4 : Int32))]) hZ hown (hw _ (List.mem_of_getElem? (i := 1) rfl)) (hw _ (List.mem_of_getElem? (i := 2) rfl)) (hw _ (List.mem_of_getElem? (i := 3) rfl)) (hw _ (List.mem_of_getElem? (i := 4) rfl)) (by decide) e0 (rm1 l Z a0 hw [] (4 : Int32) a_ALLOW a_ALLOW_LOG a_DENY a_DENY_LOG a_DEFER h0 n0 Z0 S_ALLOW S_ALLOW_LOG S_DENY S_DENY_LOG S_DEFER) (hb hby at_8) (lenOf own_pd0 rfl) (by decide) (by decide) (by rw [hml]; rfl) (Nat.le_of_eq rfl) (by decide) (by decide)
    obtain ⟨hv15, M15, e15⟩ := Q15
    rw [show (own_F1 (4 : Int32) a_ALLOW a_ALLOW_LOG a_DENY a_DENY_LOG a_DEFER) = a_DEFER from rfl] at hv15
    subst hv15
    have N15 := Fr.app N0 M15
    refine Run.back (g' := (mkF m 11 #[.val (.int p0), .val (.int (4 : Int32)), .unset, .unset, .unset, .unset, .unset] [(.ref a_DEFER)])) st15 ?_
    refine Run.astoreN (pc' := 12) X15 hx (l' := #[.val (.int p0), .val (.int (4 : Int32)), .val (.ref a_DEFER), .unset, .unset, .unset, .unset]) (hb hby at_11) rfl rfl ?_
    refine Run.aloadN (pc' := 13) X15 hx (hb hby at_12) rfl rfl ?_
    obtain ⟨T16, L16, v16, X16, Q16, st16⟩ := callVirtual X15 hx (y := (⟨"com/example/portcullis/portcullis/Outcome", "allows", "()Z"⟩ : MethodName)) (z := (⟨"com/example/portcullis/portcullis/Outcome", "allows", "()Z"⟩ : MethodName)) (C := "com/example/portcullis/portcullis/Outcome") (a := a_DEFER) (Ls := #[.val (.int p0), .val (.int (4 : Int32)), .val (.ref a_DEFER), .unset, .unset, .unset, .unset]) (rest := []) (W := 0) (argsL := []) hZ hown (hw _ (List.mem_of_getElem? (i := 8) rfl)) (hw _ (List.mem_of_getElem? (i := 9) rfl)) (notFace_of_selects (args := #[]) (mvT hZ (hw _ (List.mem_of_getElem? (i := 11) rfl)))) (hw _ (List.mem_of_getElem? (i := 11) rfl)) (hw _ (List.mem_of_getElem? (i := 10) rfl)) (hw _ (List.mem_of_getElem? (i := 6) rfl)) (hw _ (List.mem_of_getElem? (i := 12) rfl)) (by decide) e15 E_DEFER (rm2 l Z a0 hw [] a_DEFER a_ALLOW a_ALLOW_LOG h0 n0 Z0 S_ALLOW S_ALLOW_LOG) (hb hby at_13) (lenOf own_pd1 rfl) (by decide) (by decide) (by rw [hml]; rfl) (Nat.le_of_eq rfl) (by decide) (by decide)
    obtain ⟨hv16, M16, e16⟩ := Q16
    rw [show (own_F2 a_DEFER a_ALLOW a_ALLOW_LOG) = (0 : Int32) from (by simp [own_f2_19, own_f2_14, own_F2, ne_ALLOW_ALLOW_LOG, ne_ALLOW_DENY, ne_ALLOW_DENY_LOG, ne_ALLOW_DEFER, ne_ALLOW_LOG_ALLOW, ne_ALLOW_LOG_DENY, ne_ALLOW_LOG_DENY_LOG, ne_ALLOW_LOG_DEFER, ne_DENY_ALLOW, ne_DENY_ALLOW_LOG, ne_DENY_DENY_LOG, ne_DENY_DEFER, ne_DENY_LOG_ALLOW, ne_DENY_LOG_ALLOW_LOG, ne_DENY_LOG_DENY, ne_DENY_LOG_DEFER, ne_DEFER_ALLOW, ne_DEFER_ALLOW_LOG, ne_DEFER_DENY, ne_DEFER_DENY_LOG])] at hv16
    subst hv16
    have N16 := Fr.app N15 M16
    refine Run.back (g' := (mkF m 16 #[.val (.int p0), .val (.int (4 : Int32)), .val (.ref a_DEFER), .unset, .unset, .unset, .unset] [(.int (0 : Int32))])) st16 ?_
    refine Run.istoreN (pc' := 17) X16 hx (l' := #[.val (.int p0), .val (.int (4 : Int32)), .val (.ref a_DEFER), .val (.int (0 : Int32)), .unset, .unset, .unset]) (hb hby at_16) rfl rfl ?_
    refine Run.iloadN (pc' := 18) X16 hx (hb hby at_17) rfl rfl ?_
    refine Run.iconst (pc' := 19) (v := (2 : Int32)) X16 hx (hb hby at_18) rfl rfl ?_
    refine Run.icmpYes (pc' := 26) X16 hx (hb hby at_19) (flt (by decide : ¬ ((4 : Int32) < (2 : Int32)))).2.1 (by decide) (by decide) ?_
    refine Run.iconst (pc' := 27) (v := (0 : Int32)) X16 hx (hb hby at_26) rfl rfl ?_
    refine Run.istore (pc' := 29) X16 hx (l' := #[.val (.int p0), .val (.int (4 : Int32)), .val (.ref a_DEFER), .val (.int (0 : Int32)), .val (.int (0 : Int32)), .unset, .unset]) (hb hby at_27) rfl rfl ?_
    refine Run.iloadN (pc' := 30) X16 hx (hb hby at_29) rfl rfl ?_
    refine Run.aloadN (pc' := 31) X16 hx (hb hby at_30) rfl rfl ?_
    obtain ⟨T17, L17, v17, X17, Q17, st17⟩ := callVirtual X16 hx (y := (⟨"com/example/portcullis/portcullis/Outcome", "exitStatus", "()I"⟩ : MethodName)) (z := (⟨"com/example/portcullis/portcullis/Outcome", "exitStatus", "()I"⟩ : MethodName)) (C := "com/example/portcullis/portcullis/Outcome") (a := a_DEFER) (Ls := #[.val (.int p0), .val (.int (4 : Int32)), .val (.ref a_DEFER), .val (.int (0 : Int32)), .val (.int (0 : Int32)), .unset, .unset]) (rest := [(.int (0 : Int32))]) (W := 1) (argsL := []) hZ hown (hw _ (List.mem_of_getElem? (i := 14) rfl)) (hw _ (List.mem_of_getElem? (i := 15) rfl)) (notFace_of_selects (args := #[]) (mvT hZ (hw _ (List.mem_of_getElem? (i := 17) rfl)))) (hw _ (List.mem_of_getElem? (i := 17) rfl)) (hw _ (List.mem_of_getElem? (i := 16) rfl)) (hw _ (List.mem_of_getElem? (i := 6) rfl)) (hw _ (List.mem_of_getElem? (i := 18) rfl)) (by decide) e16 E_DEFER (rm3 l Z a0 hw [] a_DEFER (3 : Int32) h0 n0 Z0 F_DEFER_exitStatus) (hb hby at_31) (lenOf own_pd2 rfl) (by decide) (by decide) (by rw [hml]; rfl) (Nat.le_of_eq rfl) (by decide) (by decide)
    obtain ⟨hv17, M17, e17⟩ := Q17
    rw [show (own_F3 a_DEFER (3 : Int32)) = (3 : Int32) from rfl] at hv17
    subst hv17
    have N17 := Fr.app N16 M17
    refine Run.back (g' := (mkF m 34 #[.val (.int p0), .val (.int (4 : Int32)), .val (.ref a_DEFER), .val (.int (0 : Int32)), .val (.int (0 : Int32)), .unset, .unset] [(.int (3 : Int32)), (.int (0 : Int32))])) st17 ?_
    refine Run.ifYes (pc' := 41) X17 hx (hb hby at_34) ((if0 _ _).trans (feq (by decide : ¬ ((3 : Int32) = (0 : Int32)))).2) (by decide) (by decide) ?_
    refine Run.iconst (pc' := 42) (v := (0 : Int32)) X17 hx (hb hby at_41) rfl rfl ?_
    refine Run.icmpNo (pc' := 45) X17 hx (hb hby at_42) (teq (by decide : (0 : Int32) = (0 : Int32))).2 rfl ?_
    refine Run.iconst (pc' := 46) (v := (1 : Int32)) X17 hx (hb hby at_45) rfl rfl ?_
    refine Run.goto (pc' := 50) X17 hx (hb hby at_46) (by decide) (by decide) ?_
    refine Run.istore (pc' := 52) X17 hx (l' := #[.val (.int p0), .val (.int (4 : Int32)), .val (.ref a_DEFER), .val (.int (0 : Int32)), .val (.int (0 : Int32)), .val (.int (1 : Int32)), .unset]) (hb hby at_50) rfl rfl ?_
    refine Run.iloadN (pc' := 53) X17 hx (hb hby at_52) rfl rfl ?_
    refine Run.ifYes (pc' := 63) X17 hx (hb hby at_53) ((if0 _ _).trans (teq (by decide : (0 : Int32) = (0 : Int32))).1) (by decide) (by decide) ?_
    refine Run.iconst (pc' := 64) (v := (1 : Int32)) X17 hx (hb hby at_63) rfl rfl ?_
    refine Run.goto (pc' := 68) X17 hx (hb hby at_64) (by decide) (by decide) ?_
    refine Run.istore (pc' := 70) X17 hx (l' := #[.val (.int p0), .val (.int (4 : Int32)), .val (.ref a_DEFER), .val (.int (0 : Int32)), .val (.int (0 : Int32)), .val (.int (1 : Int32)), .val (.int (1 : Int32))]) (hb hby at_68) rfl rfl ?_
    refine Run.iloadN (pc' := 71) X17 hx (hb hby at_70) rfl rfl ?_
    refine Run.iload (pc' := 73) X17 hx (hb hby at_71) rfl rfl ?_
    refine Run.icmpNo (pc' := 76) X17 hx (hb hby at_73) (teq (by decide : (0 : Int32) = (0 : Int32))).2 rfl ?_
    refine Run.iload (pc' := 78) X17 hx (hb hby at_76) rfl rfl ?_
    refine Run.ifNo (pc' := 81) X17 hx (hb hby at_78) ((if0 _ _).trans (feq (by decide : ¬ ((1 : Int32) = (0 : Int32)))).1) rfl ?_
    refine Run.iload (pc' := 83) X17 hx (hb hby at_81) rfl rfl ?_
    refine Run.ifNo (pc' := 86) X17 hx (hb hby at_83) ((if0 _ _).trans (feq (by decide : ¬ ((1 : Int32) = (0 : Int32)))).1) rfl ?_
    refine Run.iconst (pc' := 87) (v := (1 : Int32)) X17 hx (hb hby at_86) rfl rfl ?_
    refine Run.goto (pc' := 91) X17 hx (hb hby at_87) (by decide) (by decide) ?_
    exact Run.retSmall X17 hx (t := .boolean) (z' := (1 : Int32)) Bd.notSynchronized Bd.returns (by simp) rfl (hb hby at_91) ⟨rfl, N17⟩ (by decide) (by decide)
set_option maxRecDepth 65536 in
set_option maxHeartbeats 40000000 in
theorem comes_1 {Post : Tables → Env → Array Value → State → Outcome → State → Prop} (hpost : ∀ tb e args s v u, (limb_1_1.after args s (.returned v) u = true ∧ limb_1_2.after args s (.returned v) u = true ∧ True) → FrameEnd s (.returned v) u (Jvm.fieldLocs frame_1_writes args s ++ Jvm.arrayLocs frame_1_arrays args s ++ Jvm.staticLocs frame_1_statics s) 0 0 → Post tb e args s (.returned v) u) :
    ArmFor flags0 classFile x code maxLocals ret World_1 tables_1 room_1 Calls_1 rest_1 Pre_1 Post := by
  intro l hfl _ _ p e ha hc hk s m args below hf hA hF happ hP
  obtain ⟨hcalls, hrest, hpre⟩ := hP
  obtain ⟨-, -, -, hnamed, -, -, -, hat⟩ := (Spec.applies_iff hf).mp happ
  obtain ⟨hg, hn⟩ := and_e (Cond.before_iff.mp (show (Jvm.Cond.and given_1 narrow_1).before args s = true from hpre))
  obtain ⟨hcount, hg0⟩ := and_e hg
  obtain ⟨w0, rfl⟩ : ∃ w0 : Value, args = #[w0] := by
    have hs : args.size = 1 := by simpa [Cond.value, given_1] using hcount
    obtain ⟨L⟩ := args
    match L, hs with
    | [w0], _ => exact ⟨w0, rfl⟩
  have hw := fun d (hd : d ∈ tables_1) => atoms_spec (ws := Jvm.Cond.code x code maxLocals ret :: tables_1) hat d (List.mem_cons_of_mem _ hd)
  have hfit : Fit s := fun {y c} hc i hi => by
    obtain ⟨ha, rfl⟩ := Array.getElem?_eq_some_iff.mp hc
    have q := List.all_eq_true.mp ((Array.all_eq_true_iff_forall_mem.mp hF) _ (Array.getElem_mem ha)) i (List.mem_range.mpr hi)
    simpa [Array.getElem?_eq_getElem hi] using q
  obtain ⟨i0, ei0⟩ := is_v hg0
  obtain rfl : w0 = (.int i0) := Option.some.inj ei0
  obtain ⟨n0, nr0⟩ := and_e hn
  obtain ⟨n1, nr1⟩ := and_e nr0
  obtain ⟨n2, nr2⟩ := and_e nr1
  obtain ⟨n3, nr3⟩ := and_e nr2
  obtain ⟨n4, nr4⟩ := and_e nr3
  obtain ⟨n5, nr5⟩ := and_e nr4
  obtain ⟨n6, nr6⟩ := and_e nr5
  obtain ⟨n7, nr7⟩ := and_e nr6
  obtain ⟨n8, nr8⟩ := and_e nr7
  obtain ⟨n9, nr9⟩ := and_e nr8
  obtain ⟨n10, nr10⟩ := and_e nr9
  obtain ⟨n11, nr11⟩ := and_e nr10
  obtain ⟨n12, nr12⟩ := and_e nr11
  obtain ⟨n13, nr13⟩ := and_e nr12
  have n14 := nr13
  obtain ⟨a_ALLOW, e_ALLOW⟩ := exa_v n0
  have E_ALLOW : Exa s s.heap a_ALLOW "com/example/portcullis/portcullis/Outcome" := Exa.start e_ALLOW n0
  have S_ALLOW : Sta s s.heap "com/example/portcullis/portcullis/Outcome" "ALLOW" "Lcom/example/portcullis/portcullis/Outcome;" (.ref a_ALLOW) := Sta.start e_ALLOW (Or.inr ⟨(hw _ (List.mem_of_getElem? (i := 6) rfl)), (hw _ (List.mem_of_getElem? (i := 7) rfl))⟩)
  obtain ⟨a_DEFER, e_DEFER⟩ := exa_v n2
  have E_DEFER : Exa s s.heap a_DEFER "com/example/portcullis/portcullis/Outcome" := Exa.start e_DEFER n2
  have S_DEFER : Sta s s.heap "com/example/portcullis/portcullis/Outcome" "DEFER" "Lcom/example/portcullis/portcullis/Outcome;" (.ref a_DEFER) := Sta.start e_DEFER (Or.inr ⟨(hw _ (List.mem_of_getElem? (i := 6) rfl)), (hw _ (List.mem_of_getElem? (i := 27) rfl))⟩)
  obtain ⟨a_DENY_LOG, e_DENY_LOG⟩ := exa_v n5
  have E_DENY_LOG : Exa s s.heap a_DENY_LOG "com/example/portcullis/portcullis/Outcome" := Exa.start e_DENY_LOG n5
  have S_DENY_LOG : Sta s s.heap "com/example/portcullis/portcullis/Outcome" "DENY_LOG" "Lcom/example/portcullis/portcullis/Outcome;" (.ref a_DENY_LOG) := Sta.start e_DENY_LOG (Or.inr ⟨(hw _ (List.mem_of_getElem? (i := 6) rfl)), (hw _ (List.mem_of_getElem? (i := 29) rfl))⟩)
  obtain ⟨a_ALLOW_LOG, e_ALLOW_LOG⟩ := exa_v n7
  have E_ALLOW_LOG : Exa s s.heap a_ALLOW_LOG "com/example/portcullis/portcullis/Outcome" := Exa.start e_ALLOW_LOG n7
  have S_ALLOW_LOG : Sta s s.heap "com/example/portcullis/portcullis/Outcome" "ALLOW_LOG" "Lcom/example/portcullis/portcullis/Outcome;" (.ref a_ALLOW_LOG) := Sta.start e_ALLOW_LOG (Or.inr ⟨(hw _ (List.mem_of_getElem? (i := 6) rfl)), (hw _ (List.mem_of_getElem? (i := 31) rfl))⟩)
  obtain ⟨a_DENY, e_DENY⟩ := exa_v n12
  have E_DENY : Exa s s.heap a_DENY "com/example/portcullis/portcullis/Outcome" := Exa.start e_DENY n12
  have S_DENY : Sta s s.heap "com/example/portcullis/portcullis/Outcome" "DENY" "Lcom/example/portcullis/portcullis/Outcome;" (.ref a_DENY) := Sta.start e_DENY (Or.inr ⟨(hw _ (List.mem_of_getElem? (i := 6) rfl)), (hw _ (List.mem_of_getElem? (i := 35) rfl))⟩)
  have F_ALLOW_exitStatus : Fld s s.heap a_ALLOW "com/example/portcullis/portcullis/Outcome" "exitStatus" "I" (.int 0) := Fld.start ((fld_at e_ALLOW).symm.trans (eqv_i (Term.int_eval 0) n1))
  have F_ALLOW_ordinal : Fld s s.heap a_ALLOW "java/lang/Enum" "ordinal" "I" (.int 0) := Fld.start ((fld_at e_ALLOW).symm.trans (eqv_i (Term.int_eval 0) n3))
  have F_DEFER_ordinal : Fld s s.heap a_DEFER "java/lang/Enum" "ordinal" "I" (.int 4) := Fld.start ((fld_at e_DEFER).symm.trans (eqv_i (Term.int_eval 4) n4))
  have F_DENY_LOG_ordinal : Fld s s.heap a_DENY_LOG "java/lang/Enum" "ordinal" "I" (.int 3) := Fld.start ((fld_at e_DENY_LOG).symm.trans (eqv_i (Term.int_eval 3) n6))
  have F_ALLOW_LOG_ordinal : Fld s s.heap a_ALLOW_LOG "java/lang/Enum" "ordinal" "I" (.int 1) := Fld.start ((fld_at e_ALLOW_LOG).symm.trans (eqv_i (Term.int_eval 1) n8))
  have F_DENY_LOG_exitStatus : Fld s s.heap a_DENY_LOG "com/example/portcullis/portcullis/Outcome" "exitStatus" "I" (.int 1) := Fld.start ((fld_at e_DENY_LOG).symm.trans (eqv_i (Term.int_eval 1) n9))
  have F_ALLOW_LOG_exitStatus : Fld s s.heap a_ALLOW_LOG "com/example/portcullis/portcullis/Outcome" "exitStatus" "I" (.int 0) := Fld.start ((fld_at e_ALLOW_LOG).symm.trans (eqv_i (Term.int_eval 0) n10))
  have F_DEFER_exitStatus : Fld s s.heap a_DEFER "com/example/portcullis/portcullis/Outcome" "exitStatus" "I" (.int 3) := Fld.start ((fld_at e_DEFER).symm.trans (eqv_i (Term.int_eval 3) n11))
  have F_DENY_ordinal : Fld s s.heap a_DENY "java/lang/Enum" "ordinal" "I" (.int 2) := Fld.start ((fld_at e_DENY).symm.trans (eqv_i (Term.int_eval 2) n13))
  have F_DENY_exitStatus : Fld s s.heap a_DENY "com/example/portcullis/portcullis/Outcome" "exitStatus" "I" (.int 1) := Fld.start ((fld_at e_DENY).symm.trans (eqv_i (Term.int_eval 1) n14))
  have ne_ALLOW_ALLOW_LOG : ¬ a_ALLOW = a_ALLOW_LOG := Fld.ne F_ALLOW_ordinal F_ALLOW_LOG_ordinal (by decide)
  have ne_ALLOW_DENY : ¬ a_ALLOW = a_DENY := Fld.ne F_ALLOW_ordinal F_DENY_ordinal (by decide)
  have ne_ALLOW_DENY_LOG : ¬ a_ALLOW = a_DENY_LOG := Fld.ne F_ALLOW_ordinal F_DENY_LOG_ordinal (by decide)
  have ne_ALLOW_DEFER : ¬ a_ALLOW = a_DEFER := Fld.ne F_ALLOW_ordinal F_DEFER_ordinal (by decide)
  have ne_ALLOW_LOG_ALLOW : ¬ a_ALLOW_LOG = a_ALLOW := Fld.ne F_ALLOW_LOG_ordinal F_ALLOW_ordinal (by decide)
  have ne_ALLOW_LOG_DENY : ¬ a_ALLOW_LOG = a_DENY := Fld.ne F_ALLOW_LOG_ordinal F_DENY_ordinal (by decide)
  have ne_ALLOW_LOG_DENY_LOG : ¬ a_ALLOW_LOG = a_DENY_LOG := Fld.ne F_ALLOW_LOG_ordinal F_DENY_LOG_ordinal (by decide)
  have ne_ALLOW_LOG_DEFER : ¬ a_ALLOW_LOG = a_DEFER := Fld.ne F_ALLOW_LOG_ordinal F_DEFER_ordinal (by decide)
  have ne_DENY_ALLOW : ¬ a_DENY = a_ALLOW := Fld.ne F_DENY_ordinal F_ALLOW_ordinal (by decide)
  have ne_DENY_ALLOW_LOG : ¬ a_DENY = a_ALLOW_LOG := Fld.ne F_DENY_ordinal F_ALLOW_LOG_ordinal (by decide)
  have ne_DENY_DENY_LOG : ¬ a_DENY = a_DENY_LOG := Fld.ne F_DENY_ordinal F_DENY_LOG_ordinal (by decide)
  have ne_DENY_DEFER : ¬ a_DENY = a_DEFER := Fld.ne F_DENY_ordinal F_DEFER_ordinal (by decide)
  have ne_DENY_LOG_ALLOW : ¬ a_DENY_LOG = a_ALLOW := Fld.ne F_DENY_LOG_ordinal F_ALLOW_ordinal (by decide)
  have ne_DENY_LOG_ALLOW_LOG : ¬ a_DENY_LOG = a_ALLOW_LOG := Fld.ne F_DENY_LOG_ordinal F_ALLOW_LOG_ordinal (by decide)
  have ne_DENY_LOG_DENY : ¬ a_DENY_LOG = a_DENY := Fld.ne F_DENY_LOG_ordinal F_DENY_ordinal (by decide)
  have ne_DENY_LOG_DEFER : ¬ a_DENY_LOG = a_DEFER := Fld.ne F_DENY_LOG_ordinal F_DEFER_ordinal (by decide)
  have ne_DEFER_ALLOW : ¬ a_DEFER = a_ALLOW := Fld.ne F_DEFER_ordinal F_ALLOW_ordinal (by decide)
  have ne_DEFER_ALLOW_LOG : ¬ a_DEFER = a_ALLOW_LOG := Fld.ne F_DEFER_ordinal F_ALLOW_LOG_ordinal (by decide)
  have ne_DEFER_DENY : ¬ a_DEFER = a_DENY := Fld.ne F_DEFER_ordinal F_DENY_ordinal (by decide)
  have ne_DEFER_DENY_LOG : ¬ a_DEFER = a_DENY_LOG := Fld.ne F_DEFER_ordinal F_DENY_LOG_ordinal (by decide)
  obtain ⟨n, o, h1, h2, h3, _, L, rfl, ⟨rfl, N⟩, hq⟩ := rm0 l s _ hw tables_1 i0 a_ALLOW a_ALLOW_LOG a_DENY a_DENY_LOG a_DEFER s.heap s.heap.size (Nat.le_refl _) S_ALLOW S_ALLOW_LOG S_DENY S_DENY_LOG S_DEFER E_ALLOW E_ALLOW_LOG E_DENY E_DENY_LOG E_DEFER F_ALLOW_exitStatus F_ALLOW_LOG_exitStatus F_DENY_exitStatus F_DENY_LOG_exitStatus F_DEFER_exitStatus ne_ALLOW_ALLOW_LOG ne_ALLOW_DENY ne_ALLOW_DENY_LOG ne_ALLOW_DEFER ne_ALLOW_LOG_ALLOW ne_ALLOW_LOG_DENY ne_ALLOW_LOG_DENY_LOG ne_ALLOW_LOG_DEFER ne_DENY_ALLOW ne_DENY_ALLOW_LOG ne_DENY_DENY_LOG ne_DENY_DEFER ne_DENY_LOG_ALLOW ne_DENY_LOG_ALLOW_LOG ne_DENY_LOG_DENY ne_DENY_LOG_DEFER ne_DEFER_ALLOW ne_DEFER_ALLOW_LOG ne_DEFER_DENY ne_DEFER_DENY_LOG p e ha hc hk s m _ below hf ((Spec.applies_iff_loose hf).mp happ).1 ⟨rfl, State.Warmed39.refl s, rfl⟩ trivial
  refine ⟨n, _, h1, h2, h3, hpost _ _ _ _ _ _ ⟨Cond.after_iff.mpr rfl, Cond.after_iff.mpr (eq_i res_at (Term.int_eval (1)) rfl), trivial⟩ ⟨hq.1, hq.2.1, (hq.2.2.sift fun y hy => Or.inr (N y hy)).mono (by decide) (by decide)⟩⟩
theorem main_1_1 : Claimed_1_1 := comes_1 fun _ _ _ _ _ _ h hF => ⟨h.1, hF⟩
theorem main_1_2 : Claimed_1_2 := comes_1 fun _ _ _ _ _ _ h hF => ⟨h.2.1, hF⟩
end Jvm.Pilot.@@N@@
namespace Jvm.Pilot.@@N@@
open Jvm Jvm.ClassFile Sem Op Lib Jvm.Free Jvm.Stand Jvm.Pilot.@@N@@.Jvm.D
/-! MADE BY PROGRAM (witnessworld.py) out of the Statement's table words and the real class files: 12 classes; the members and pool entries that the words name. The judged class is class 1, her method 1. -/
namespace start1
open Jvm.ClassFile
def u (s : String) : CpInfo := .utf8 (stringToUtf16 s)
/-- a pool by its gaps: so many unusable entries, then the entry; so many at the end -/
def gap : Nat → List CpInfo → List CpInfo
  | 0, r => r
  | n + 1, r => .unusable :: gap n r
def poolList (es : List (Nat × CpInfo)) (last : Nat) : List CpInfo := es.foldr (fun e r => gap e.1 (e.2 :: r)) (gap last [])
def pool (es : List (Nat × CpInfo)) (last : Nat) : Array CpInfo := ⟨poolList es last⟩
def fileOf (pool : Array CpInfo) (this : Nat) (attrs : Array Attribute := #[]) (ms : Array MethodInfo := #[]) (fl : Nat := 33) (sup : Nat := 0) (ifs : Array Nat := #[]) (fds : Array FieldInfo := #[]) : ClassFile where
  minorVersion := 0
  majorVersion := 65
  constantPool := pool
  accessFlags := fl
  thisClass := this
  superClass := sup
  interfaces := ifs
  fields := fds
  methods := ms
  attributes := attrs
def plain (name : String) (sup : Option ClassId) : Class where
  name := name
  kind := .ordinary
  loader := none
  accessFlags := 33
  super := sup
  interfaces := #[]
  cf := none
  fields := #[]
  methods := #[]
  instanceTypes := #[]
  staticTypes := #[]
  resolved := #[]
  callSites := []
  init := .initialized
  statics := none
  mirror := none

def pool0 : Array CpInfo := pool [(5, u "<init>"), (0, u "()V"), (1, .class_ 10), (1, u "java/lang/Object")] 113

def k0m0 : Method := { name := "<init>", desc := "()V", sig := { parameters := [], returnType := none }, accessFlags := 1, code := none }
/-- java/lang/Object -/
def k0 : Class := { plain "java/lang/Object" none with
  accessFlags := 33
  interfaces := #[]
  cf := some (fileOf pool0 8 #[] #[{ accessFlags := 1, nameIndex := 5, descriptorIndex := 6, attributes := #[] }] 33 0 #[] #[])
  fields := #[]
  methods := #[k0m0]
  instanceTypes := #[]
  staticTypes := #[]
  resolved := Array.replicate 124 none
  statics := none }

def pool1 : Array CpInfo := pool [(2, .class_ 4), (1, u "java/lang/Object"), (0, u "<init>"), (0, u "()V"), (0, .integer 2147483647), (0, .methodref 9 10), (0, .class_ 11), (0, .nameAndType 12 13), (0, u "com/example/portcullis/portcullis/OutcomeAllowsPinLaw"), (0, u "pick"), (0, u "(I)Lcom/example/portcullis/portcullis/Outcome;"), (0, .methodref 15 16), (0, .class_ 17), (0, .nameAndType 18 19), (0, u "com/example/portcullis/portcullis/Outcome"), (0, u "allows"), (0, u "()Z"), (0, .methodref 15 21), (0, .nameAndType 22 23), (0, u "exitStatus"), (0, u "()I"), (0, .methodref 15 25), (0, .nameAndType 26 19), (0, u "isPermission"), (0, .fieldref 15 28), (0, .nameAndType 29 30), (0, u "ALLOW"), (0, u "Lcom/example/portcullis/portcullis/Outcome;"), (0, .fieldref 15 32), (0, .nameAndType 33 30), (0, u "ALLOW_LOG"), (0, .fieldref 15 35), (0, .nameAndType 36 30), (0, u "DENY"), (0, .fieldref 15 38), (0, .nameAndType 39 30), (0, u "DENY_LOG"), (0, .fieldref 15 41), (0, .nameAndType 42 30), (0, u "DEFER"), (2, u "law"), (0, u "(I)Z")] 3

def k1m0 : Method := { name := "<init>", desc := "()V", sig := { parameters := [], returnType := none }, accessFlags := 1, code := none }
def k1c1 : Code := { maxStack := 2, maxLocals := 7, code := code, exceptionTable := #[], attributes := #[] }
def k1m1 : Method := { name := "law", desc := "(I)Z", sig := { parameters := [.int], returnType := some .boolean }, accessFlags := 9, code := some k1c1 }
def k1c2 : Code := { maxStack := 2, maxLocals := 1, code := method_3_code, exceptionTable := #[], attributes := #[] }
def k1m2 : Method := { name := "pick", desc := "(I)Lcom/example/portcullis/portcullis/Outcome;", sig := { parameters := [.int], returnType := some (.object "com/example/portcullis/portcullis/Outcome") }, accessFlags := 10, code := some k1c2 }
/-- com/example/portcullis/portcullis/OutcomeAllowsPinLaw -/
def k1 : Class := { plain "com/example/portcullis/portcullis/OutcomeAllowsPinLaw" (some 0) with
  accessFlags := 49
  interfaces := #[]
  cf := some (fileOf pool1 9 #[] #[{ accessFlags := 1, nameIndex := 5, descriptorIndex := 6, attributes := #[] }, { accessFlags := 9, nameIndex := 45, descriptorIndex := 46, attributes := #[] }, { accessFlags := 10, nameIndex := 12, descriptorIndex := 13, attributes := #[] }] 49 2 #[] #[])
  fields := #[]
  methods := #[k1m0, k1m1, k1m2]
  instanceTypes := #[]
  staticTypes := #[]
  resolved := Array.replicate 50 none
  statics := none }

def pool2 : Array CpInfo := pool [(1, .class_ 2), (0, u "java/lang/constant/Constable"), (0, .class_ 4), (0, u "java/lang/Object")] 6

/-- java/lang/constant/Constable -/
def k2 : Class := { plain "java/lang/constant/Constable" (some 0) with
  accessFlags := 1537
  interfaces := #[]
  cf := some (fileOf pool2 1 #[] #[] 1537 3 #[] #[])
  fields := #[]
  methods := #[]
  instanceTypes := #[]
  staticTypes := #[]
  resolved := Array.replicate 11 none
  statics := none }

def pool3 : Array CpInfo := pool [(1, .class_ 2), (0, u "java/lang/Comparable"), (0, .class_ 4), (0, u "java/lang/Object")] 7

/-- java/lang/Comparable -/
def k3 : Class := { plain "java/lang/Comparable" (some 0) with
  accessFlags := 1537
  interfaces := #[]
  cf := some (fileOf pool3 1 #[] #[] 1537 3 #[] #[])
  fields := #[]
  methods := #[]
  instanceTypes := #[]
  staticTypes := #[]
  resolved := Array.replicate 12 none
  statics := none }

def pool4 : Array CpInfo := pool [(1, .class_ 2), (0, u "java/io/Serializable"), (0, .class_ 4), (0, u "java/lang/Object")] 2

/-- java/io/Serializable -/
def k4 : Class := { plain "java/io/Serializable" (some 0) with
  accessFlags := 1537
  interfaces := #[]
  cf := some (fileOf pool4 1 #[] #[] 1537 3 #[] #[])
  fields := #[]
  methods := #[]
  instanceTypes := #[]
  staticTypes := #[]
  resolved := Array.replicate 7 none
  statics := none }

def pool5 : Array CpInfo := pool [(2, .class_ 4), (1, u "java/lang/Enum"), (0, u "name"), (0, u "Ljava/lang/String;"), (2, u "ordinal"), (0, u "I"), (1, .class_ 14), (1, u "java/lang/Object"), (4, u "hash"), (86, .class_ 108), (1, u "java/lang/Enum$EnumDesc"), (2, .class_ 112), (0, u "java/lang/constant/Constable"), (0, .class_ 114), (0, u "java/lang/Comparable"), (0, .class_ 116), (0, u "java/io/Serializable")] 87

/-- java/lang/Enum -/
def k5 : Class := { plain "java/lang/Enum" (some 0) with
  accessFlags := 1057
  interfaces := #[2, 3, 4]
  cf := some (fileOf pool5 2 #[.nestMembers #[106]] #[] 1057 12 #[111, 113, 115] #[{ accessFlags := 18, nameIndex := 5, descriptorIndex := 6, attributes := #[] }, { accessFlags := 18, nameIndex := 9, descriptorIndex := 10, attributes := #[] }, { accessFlags := 2, nameIndex := 19, descriptorIndex := 10, attributes := #[] }])
  fields := #[{ name := "name", type := (.object "java/lang/String"), accessFlags := 18, slot := 0, constantValue := 0 }, { name := "ordinal", type := .int, accessFlags := 18, slot := 1, constantValue := 0 }, { name := "hash", type := .int, accessFlags := 2, slot := 2, constantValue := 0 }]
  methods := #[]
  instanceTypes := #[(.object "java/lang/String"), .int, .int]
  staticTypes := #[]
  resolved := Array.replicate 204 none
  statics := none }

def pool6 : Array CpInfo := pool [(1, .class_ 2), (0, u "com/example/portcullis/portcullis/Outcome"), (0, .fieldref 1 4), (0, .nameAndType 5 6), (0, u "ALLOW"), (0, u "Lcom/example/portcullis/portcullis/Outcome;"), (0, .fieldref 1 8), (0, .nameAndType 9 6), (0, u "ALLOW_LOG"), (2, u "DENY"), (2, u "DENY_LOG"), (0, .fieldref 1 17), (0, .nameAndType 18 6), (0, u "DEFER"), (2, u "$VALUES"), (0, u "[Lcom/example/portcullis/portcullis/Outcome;"), (6, .class_ 31), (1, u "java/lang/Enum"), (8, u "word"), (0, u "Ljava/lang/String;"), (0, .fieldref 1 43), (0, .nameAndType 44 45), (0, u "exitStatus"), (0, u "I"), (60, u "isPermission"), (0, u "()Z"), (1, u "allows"), (1, u "()I")] 27

def k6c0 : Code := { maxStack := 2, maxLocals := 1, code := prog_9_method_6_code, exceptionTable := #[], attributes := #[] }
def k6m0 : Method := { name := "isPermission", desc := "()Z", sig := { parameters := [], returnType := some .boolean }, accessFlags := 1, code := some k6c0 }
def k6c1 : Code := { maxStack := 2, maxLocals := 1, code := prog_9_method_7_code, exceptionTable := #[], attributes := #[] }
def k6m1 : Method := { name := "allows", desc := "()Z", sig := { parameters := [], returnType := some .boolean }, accessFlags := 1, code := some k6c1 }
def k6c2 : Code := { maxStack := 1, maxLocals := 1, code := prog_9_method_9_code, exceptionTable := #[], attributes := #[] }
def k6m2 : Method := { name := "exitStatus", desc := "()I", sig := { parameters := [], returnType := some .int }, accessFlags := 1, code := some k6c2 }
/-- com/example/portcullis/portcullis/Outcome -/
def k6 : Class := { plain "com/example/portcullis/portcullis/Outcome" (some 5) with
  accessFlags := 16433
  interfaces := #[]
  cf := some (fileOf pool6 1 #[] #[{ accessFlags := 1, nameIndex := 106, descriptorIndex := 107, attributes := #[] }, { accessFlags := 1, nameIndex := 109, descriptorIndex := 107, attributes := #[] }, { accessFlags := 1, nameIndex := 44, descriptorIndex := 111, attributes := #[] }] 16433 29 #[] #[{ accessFlags := 16409, nameIndex := 5, descriptorIndex := 6, attributes := #[] }, { accessFlags := 16409, nameIndex := 9, descriptorIndex := 6, attributes := #[] }, { accessFlags := 16409, nameIndex := 12, descriptorIndex := 6, attributes := #[] }, { accessFlags := 16409, nameIndex := 15, descriptorIndex := 6, attributes := #[] }, { accessFlags := 16409, nameIndex := 18, descriptorIndex := 6, attributes := #[] }, { accessFlags := 18, nameIndex := 40, descriptorIndex := 41, attributes := #[] }, { accessFlags := 18, nameIndex := 44, descriptorIndex := 45, attributes := #[] }, { accessFlags := 4122, nameIndex := 21, descriptorIndex := 22, attributes := #[] }])
  fields := #[{ name := "ALLOW", type := (.object "com/example/portcullis/portcullis/Outcome"), accessFlags := 16409, slot := 0, constantValue := 0 }, { name := "ALLOW_LOG", type := (.object "com/example/portcullis/portcullis/Outcome"), accessFlags := 16409, slot := 1, constantValue := 0 }, { name := "DENY", type := (.object "com/example/portcullis/portcullis/Outcome"), accessFlags := 16409, slot := 2, constantValue := 0 }, { name := "DENY_LOG", type := (.object "com/example/portcullis/portcullis/Outcome"), accessFlags := 16409, slot := 3, constantValue := 0 }, { name := "DEFER", type := (.object "com/example/portcullis/portcullis/Outcome"), accessFlags := 16409, slot := 4, constantValue := 0 }, { name := "word", type := (.object "java/lang/String"), accessFlags := 18, slot := 3, constantValue := 0 }, { name := "exitStatus", type := .int, accessFlags := 18, slot := 4, constantValue := 0 }, { name := "$VALUES", type := (.array (.object "com/example/portcullis/portcullis/Outcome")), accessFlags := 4122, slot := 5, constantValue := 0 }]
  methods := #[k6m0, k6m1, k6m2]
  instanceTypes := #[(.object "java/lang/String"), .int, .int, (.object "java/lang/String"), .int]
  staticTypes := #[(.object "com/example/portcullis/portcullis/Outcome"), (.object "com/example/portcullis/portcullis/Outcome"), (.object "com/example/portcullis/portcullis/Outcome"), (.object "com/example/portcullis/portcullis/Outcome"), (.object "com/example/portcullis/portcullis/Outcome"), (.array (.object "com/example/portcullis/portcullis/Outcome"))]
  resolved := Array.replicate 139 none
  statics := some 0 }

def pool7 : Array CpInfo := pool [(1, u "java/lang/Cloneable"), (0, .class_ 1), (0, u "java/lang/Object"), (0, .class_ 3)] 3

/-- java/lang/Cloneable -/
def k7 : Class := { plain "java/lang/Cloneable" (some 0) with
  accessFlags := 1537
  interfaces := #[]
  cf := some (fileOf pool7 2 #[] #[] 1537 4 #[] #[])
  fields := #[]
  methods := #[]
  instanceTypes := #[]
  staticTypes := #[]
  resolved := Array.replicate 8 none
  statics := none }

/-- the primitive byte -/
def k8 : Class := { plain "byte" none with kind := .primitive 'B', accessFlags := 0x411 }
/-- [B -/
def k9 : Class := { plain "[B" (some 0) with kind := .array 8 .byte, interfaces := #[7, 4], accessFlags := 1041 }

/-- the primitive int -/
def k10 : Class := { plain "int" none with kind := .primitive 'I', accessFlags := 0x411 }
/-- [I -/
def k11 : Class := { plain "[I" (some 0) with kind := .array 10 .int, interfaces := #[7, 4], accessFlags := 1041 }

def heap : Heap := #[{ cls := 6, slots := #[.ref 1, .ref 2, .ref 3, .ref 4, .ref 5, .null], vm := .statics 6 },
  { cls := 6, slots := #[.null, .int 0, .int 0, .null, .int 0], vm := .none },
  { cls := 6, slots := #[.null, .int 1, .int 0, .null, .int 0], vm := .none },
  { cls := 6, slots := #[.null, .int 2, .int 0, .null, .int 1], vm := .none },
  { cls := 6, slots := #[.null, .int 3, .int 0, .null, .int 1], vm := .none },
  { cls := 6, slots := #[.null, .int 4, .int 0, .null, .int 3], vm := .none }]
def classes : Array Class := #[k0, k1, k2, k3, k4, k5, k6, k7, k8, k9, k10, k11]
def interned : List (Array UInt16 × Addr) := []
def slotsUsed : Nat := 31
def theMethod : MethodId := ⟨1, 1⟩
def args0 : Array Value := #[.int 3]
def aboutOver (below : List Frame) : State where
  vm := { classes := classes, interned := interned.toArray }
  heap := heap
  slotsUsed := slotsUsed
  threads := #[{ frames := .invoking theMethod args0 :: below }]
def below0 : List Frame := [.native { method := ⟨0, 0⟩, args := #[] }]
def about1 : State := aboutOver below0
def p0 : Program := .bare "" "" ""
def e0 : Env := launch0.env 0 0 0
theorem w_frames : about1.frames = Frame.invoking theMethod args0 :: below0 := rfl
set_option maxRecDepth 65536 in
theorem w_args : argsFit about1.vm theMethod args0 = true := by decide +kernel
set_option maxRecDepth 65536 in
theorem w_heap : heapFits about1 = true := by decide +kernel
set_option maxRecDepth 65536 in
theorem w_runnable : about1.curStatus? = some .runnable := by decide +kernel
set_option maxRecDepth 65536 in
theorem w_alone : about1.alone = true := by decide +kernel
set_option maxRecDepth 65536 in
theorem w_named : about1.methodNamed? x = some theMethod := by decide +kernel
set_option maxRecDepth 65536 in
theorem w_hears : about1.hears theMethod below0 = true := by decide +kernel
set_option maxRecDepth 65536 in
theorem w_ripe : about1.ripe theMethod args0 below0 = true := by decide +kernel
theorem w_running : about1.status = .running := rfl
set_option maxRecDepth 65536 in
theorem w_room : about1.hasRoom e0.platform room_1 = true :=
  launch0.hasRoom_least _ room_1 (by decide +kernel) (by decide +kernel) (by decide +kernel) (by decide +kernel) (by decide +kernel) (by decide +kernel)
theorem allAtoms_all (ts : List Jvm.Cond) (a : Array Jvm.Value) (st : Jvm.State) : (allAtoms ts).before a st = ts.all (fun c => c.before a st) := by
  induction ts with
  | nil => rfl
  | cons c t ih =>
    show (Jvm.Cond.and c (allAtoms t)).before a st = _
    rw [Jvm.Cond.before_and, ih, List.all_cons]
def words1 : List Jvm.Cond := Jvm.Cond.code x code maxLocals ret :: tables_1
/-- a 'code' word, met by the world's own term for the bytes: nothing is compared byte by byte -/
theorem code_word {y : MethodName} {bytes : ByteArray} {mx : Nat} {rt : Option FieldType} {a : Array Value} {s : State} {m : MethodId} {meth : Method} {c : Code} (h1 : s.methodNamed? y = some m) (h2 : s.vm.method? m = some meth) (h3 : meth.code = some c) (h4 : c.code = bytes)
    (h5 : (c.maxLocals == mx && c.exceptionTable.isEmpty && decide (c.maxStack ≤ mostOperands) && decide (meth.sig.returnType = rt) && !meth.locks && decide (parseMethodDescriptor y.desc = some meth.sig)) = true) : (Jvm.Cond.code y bytes mx rt).before a s = true := by
  simp only [Bool.and_eq_true, beq_iff_eq, Bool.not_eq_true', decide_eq_true_eq] at h5
  obtain ⟨⟨⟨⟨⟨g1, g2⟩, g3⟩, g4⟩, g5⟩, g6⟩ := h5
  simp [Cond.before, Cond.holds, Cond.value, h1, h2, h3, h4, g1, g2, g3, g4, g5, g6]
def isCode : Jvm.Cond → Bool
  | .code _ _ _ _ => true
  | _ => false
theorem all_split {L : List Jvm.Cond} {P : Jvm.Cond → Bool} (h1 : L.all (fun c => isCode c || P c) = true) (h2 : ∀ c ∈ L.filter isCode, P c = true) : L.all P = true := by
  refine List.all_eq_true.mpr fun c hc => ?_
  have h := List.all_eq_true.mp h1 c hc
  rcases Bool.eq_false_or_eq_true (isCode c) with hi | hi
  · exact h2 c (List.mem_filter.mpr ⟨hc, hi⟩)
  · simpa [hi] using h
set_option maxRecDepth 65536 in
theorem w_c0 : (Jvm.Cond.code x code maxLocals ret).before args0 about1 = true := code_word (m := ⟨1, 1⟩) (meth := k1m1) (c := k1c1) (by decide +kernel) rfl rfl rfl (by decide +kernel)
set_option maxRecDepth 65536 in
theorem w_c1 : (Jvm.Cond.code ({ cls := "com/example/portcullis/portcullis/OutcomeAllowsPinLaw", name := "pick", desc := "(I)Lcom/example/portcullis/portcullis/Outcome;" } : Jvm.MethodName) method_3_code (1 : Nat) (Option.some (Jvm.ClassFile.FieldType.object "com/example/portcullis/portcullis/Outcome"))).before args0 about1 = true := code_word (m := ⟨1, 2⟩) (meth := k1m2) (c := k1c2) (by decide +kernel) rfl rfl rfl (by decide +kernel)
set_option maxRecDepth 65536 in
theorem w_c2 : (Jvm.Cond.code ({ cls := "com/example/portcullis/portcullis/Outcome", name := "allows", desc := "()Z" } : Jvm.MethodName) prog_9_method_7_code (1 : Nat) (Option.some Jvm.ClassFile.FieldType.boolean)).before args0 about1 = true := code_word (m := ⟨6, 1⟩) (meth := k6m1) (c := k6c1) (by decide +kernel) rfl rfl rfl (by decide +kernel)
set_option maxRecDepth 65536 in
theorem w_c3 : (Jvm.Cond.code ({ cls := "com/example/portcullis/portcullis/Outcome", name := "exitStatus", desc := "()I" } : Jvm.MethodName) prog_9_method_9_code (1 : Nat) (Option.some Jvm.ClassFile.FieldType.int)).before args0 about1 = true := code_word (m := ⟨6, 2⟩) (meth := k6m2) (c := k6c2) (by decide +kernel) rfl rfl rfl (by decide +kernel)
set_option maxRecDepth 65536 in
theorem w_c4 : (Jvm.Cond.code ({ cls := "com/example/portcullis/portcullis/Outcome", name := "isPermission", desc := "()Z" } : Jvm.MethodName) prog_9_method_6_code (1 : Nat) (Option.some Jvm.ClassFile.FieldType.boolean)).before args0 about1 = true := code_word (m := ⟨6, 0⟩) (meth := k6m0) (c := k6c0) (by decide +kernel) rfl rfl rfl (by decide +kernel)
def codes1 : List Jvm.Cond := [Jvm.Cond.code x code maxLocals ret, Jvm.Cond.code ({ cls := "com/example/portcullis/portcullis/OutcomeAllowsPinLaw", name := "pick", desc := "(I)Lcom/example/portcullis/portcullis/Outcome;" } : Jvm.MethodName) method_3_code (1 : Nat) (Option.some (Jvm.ClassFile.FieldType.object "com/example/portcullis/portcullis/Outcome")), Jvm.Cond.code ({ cls := "com/example/portcullis/portcullis/Outcome", name := "allows", desc := "()Z" } : Jvm.MethodName) prog_9_method_7_code (1 : Nat) (Option.some Jvm.ClassFile.FieldType.boolean), Jvm.Cond.code ({ cls := "com/example/portcullis/portcullis/Outcome", name := "exitStatus", desc := "()I" } : Jvm.MethodName) prog_9_method_9_code (1 : Nat) (Option.some Jvm.ClassFile.FieldType.int), Jvm.Cond.code ({ cls := "com/example/portcullis/portcullis/Outcome", name := "isPermission", desc := "()Z" } : Jvm.MethodName) prog_9_method_6_code (1 : Nat) (Option.some Jvm.ClassFile.FieldType.boolean)]
set_option maxRecDepth 65536 in
theorem codes_eq : words1.filter isCode = codes1 := rfl
theorem w_codes : ∀ c ∈ words1.filter isCode, c.before args0 about1 = true := by
  rw [codes_eq]
  intro c hc
  simp only [codes1, List.mem_cons, List.not_mem_nil, or_false] at hc
  rcases hc with rfl | rfl | rfl | rfl | rfl
  · exact w_c0
  · exact w_c1
  · exact w_c2
  · exact w_c3
  · exact w_c4
set_option maxRecDepth 65536 in
theorem w_t1 : (words1.take 24).all (fun c => isCode c || c.before args0 about1) = true := by decide +kernel
set_option maxRecDepth 65536 in
theorem w_t2 : (words1.drop 24).all (fun c => isCode c || c.before args0 about1) = true := by decide +kernel
theorem w_tables : (allAtoms (Jvm.Cond.code x code maxLocals ret :: tables_1)).before args0 about1 = true := by
  rw [allAtoms_all]
  show words1.all (fun c => c.before args0 about1) = true
  refine all_split ?_ w_codes
  rw [← List.take_append_drop 24 words1, List.all_append, w_t1, w_t2]
  rfl
set_option maxRecDepth 65536 in
theorem w_case : (Jvm.Cond.and given_1 narrow_1).before args0 about1 = true := by decide +kernel
theorem w_applies : (headSpec (Jvm.Cond.code x code maxLocals ret :: tables_1) room_1).applies x e0.platform about1 = true :=
  (Spec.applies_iff w_frames).mpr ⟨w_running, w_runnable, w_alone, w_named, w_hears, w_ripe, w_room, w_tables⟩
theorem atStart : AtStart classFile x code maxLocals ret World_1 tables_1 room_1 Calls_1 rest_1 Pre_1 launch0 p0 e0 about1 theMethod args0 below0 :=
  ⟨lists_1, trivial, launch0.admits_env _ _ _, launch0.least_env, fairChoices_fair.cas, fairChoices_fair.clock, w_frames, w_args, w_heap, w_applies, trivial, trivial, w_case⟩
end start1
theorem witness_1 : WitnessClaimed_1 := ⟨start1.p0, start1.e0, start1.about1, start1.theMethod, start1.args0, start1.below0, start1.atStart⟩
end Jvm.Pilot.@@N@@
