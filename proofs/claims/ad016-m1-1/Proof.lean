import JvmDerived
import JvmDerived.Pilot.@@N@@Statement
import JvmDerived.Pilot.@@N@@Code
set_option linter.unusedVariables false
set_option linter.unusedSimpArgs false
namespace Jvm.Pilot.@@N@@
open Jvm Jvm.ClassFile Sem Op Lib Jvm.Free Jvm.Stand Jvm.LawKit Jvm.RoadKit Bundle Jvm.Pilot.@@N@@.Jvm.D
section OwnBase
def Gets (tb : Tables) (e : Env) (below : List Frame) (P : Outcome → State → Prop) (T : State) (g : JFrame) : Prop := ∃ t o, Steps tb e below (T.setTop g) t ∧ t.status = .running ∧ Ended t below o ∧ P o t
theorem Gets.by {tb : Tables} {e : Env} {below : List Frame} {P : Outcome → State → Prop} {T T' : State} {g g' : JFrame} (h : Gets tb e below P T' g') (k : ∀ t, Steps tb e below (T'.setTop g') t → Steps tb e below (T.setTop g) t) : Gets tb e below P T g := by
  obtain ⟨t, o, h1, h2⟩ := h
  exact ⟨t, o, k t h1, h2⟩
theorem g_iloadN {tb : Tables} [Ours tb] {e : Env} {below : List Frame} {T : State} {m : MethodId} {c : Code} {P : Outcome → State → Prop} {pc pc' : Nat} {Ls : Array Slot} {st : List Value} {j : Fin 4} {v : Int32} (H : At T m c below) (hx : tb.exec = Jvm.exec) (hd : decode c.code pc = .ok (.iload_n j, 1)) (hl : Ls[j.val]? = some (.val (.int v))) (hp : pc + 1 = pc')
    (k : Gets tb e below P T (mkF m pc' Ls (.int v :: st))) : Gets tb e below P T (mkF m pc Ls (st)) := by
  subst hp; refine k.by fun t qq => ?_; exact XS.iloadN H hx rfl hd hl qq
theorem g_iload {tb : Tables} [Ours tb] {e : Env} {below : List Frame} {T : State} {m : MethodId} {c : Code} {P : Outcome → State → Prop} {pc pc' : Nat} {Ls : Array Slot} {st : List Value} {j : Nat} {v : Int32} (H : At T m c below) (hx : tb.exec = Jvm.exec) (hd : decode c.code pc = .ok (.iload j, 2)) (hl : Ls[j]? = some (.val (.int v))) (hp : pc + 2 = pc')
    (k : Gets tb e below P T (mkF m pc' Ls (.int v :: st))) : Gets tb e below P T (mkF m pc Ls (st)) := by
  subst hp; refine k.by fun t qq => ?_; exact XS.iload H hx rfl hd hl qq
theorem g_istoreN {tb : Tables} [Ours tb] {e : Env} {below : List Frame} {T : State} {m : MethodId} {c : Code} {P : Outcome → State → Prop} {pc pc' : Nat} {Ls : Array Slot} {st : List Value} {j : Fin 4} {v : Int32} {Ls' : Array Slot} (H : At T m c below) (hx : tb.exec = Jvm.exec) (hd : decode c.code pc = .ok (.istore_n j, 1)) (hl : storeLocals Ls j.val (.int v) = some Ls') (hp : pc + 1 = pc')
    (k : Gets tb e below P T (mkF m pc' Ls' (st))) : Gets tb e below P T (mkF m pc Ls (.int v :: st)) := by
  subst hp; refine k.by fun t qq => ?_; exact XS.istoreN H hx rfl hd rfl hl qq
theorem g_istore {tb : Tables} [Ours tb] {e : Env} {below : List Frame} {T : State} {m : MethodId} {c : Code} {P : Outcome → State → Prop} {pc pc' : Nat} {Ls : Array Slot} {st : List Value} {j : Nat} {v : Int32} {Ls' : Array Slot} (H : At T m c below) (hx : tb.exec = Jvm.exec) (hd : decode c.code pc = .ok (.istore j, 2)) (hl : storeLocals Ls j (.int v) = some Ls') (hp : pc + 2 = pc')
    (k : Gets tb e below P T (mkF m pc' Ls' (st))) : Gets tb e below P T (mkF m pc Ls (.int v :: st)) := by
  subst hp; refine k.by fun t qq => ?_; exact XS.istore H hx rfl hd rfl hl qq
theorem g_lloadN {tb : Tables} [Ours tb] {e : Env} {below : List Frame} {T : State} {m : MethodId} {c : Code} {P : Outcome → State → Prop} {pc pc' : Nat} {Ls : Array Slot} {st : List Value} {j : Fin 4} {v : Int64} (H : At T m c below) (hx : tb.exec = Jvm.exec) (hd : decode c.code pc = .ok (.lload_n j, 1)) (hl : Ls[j.val]? = some (.val (.long v))) (hp : pc + 1 = pc')
    (k : Gets tb e below P T (mkF m pc' Ls (.long v :: st))) : Gets tb e below P T (mkF m pc Ls (st)) := by
  subst hp; refine k.by fun t qq => ?_; exact XS.lloadN H hx rfl hd hl qq
theorem g_lload {tb : Tables} [Ours tb] {e : Env} {below : List Frame} {T : State} {m : MethodId} {c : Code} {P : Outcome → State → Prop} {pc pc' : Nat} {Ls : Array Slot} {st : List Value} {j : Nat} {v : Int64} (H : At T m c below) (hx : tb.exec = Jvm.exec) (hd : decode c.code pc = .ok (.lload j, 2)) (hl : Ls[j]? = some (.val (.long v))) (hp : pc + 2 = pc')
    (k : Gets tb e below P T (mkF m pc' Ls (.long v :: st))) : Gets tb e below P T (mkF m pc Ls (st)) := by
  subst hp; refine k.by fun t qq => ?_; exact XS.lload H hx rfl hd hl qq
theorem g_lstoreN {tb : Tables} [Ours tb] {e : Env} {below : List Frame} {T : State} {m : MethodId} {c : Code} {P : Outcome → State → Prop} {pc pc' : Nat} {Ls : Array Slot} {st : List Value} {j : Fin 4} {v : Int64} {Ls' : Array Slot} (H : At T m c below) (hx : tb.exec = Jvm.exec) (hd : decode c.code pc = .ok (.lstore_n j, 1)) (hl : storeLocals Ls j.val (.long v) = some Ls') (hp : pc + 1 = pc')
    (k : Gets tb e below P T (mkF m pc' Ls' (st))) : Gets tb e below P T (mkF m pc Ls (.long v :: st)) := by
  subst hp; refine k.by fun t qq => ?_; exact XS.lstoreN H hx rfl hd rfl hl qq
theorem g_lstore {tb : Tables} [Ours tb] {e : Env} {below : List Frame} {T : State} {m : MethodId} {c : Code} {P : Outcome → State → Prop} {pc pc' : Nat} {Ls : Array Slot} {st : List Value} {j : Nat} {v : Int64} {Ls' : Array Slot} (H : At T m c below) (hx : tb.exec = Jvm.exec) (hd : decode c.code pc = .ok (.lstore j, 2)) (hl : storeLocals Ls j (.long v) = some Ls') (hp : pc + 2 = pc')
    (k : Gets tb e below P T (mkF m pc' Ls' (st))) : Gets tb e below P T (mkF m pc Ls (.long v :: st)) := by
  subst hp; refine k.by fun t qq => ?_; exact XS.lstore H hx rfl hd rfl hl qq
theorem g_aloadN {tb : Tables} [Ours tb] {e : Env} {below : List Frame} {T : State} {m : MethodId} {c : Code} {P : Outcome → State → Prop} {pc pc' : Nat} {Ls : Array Slot} {st : List Value} {j : Fin 4} {v : Value} (H : At T m c below) (hx : tb.exec = Jvm.exec) (hd : decode c.code pc = .ok (.aload_n j, 1)) (hl : Ls[j.val]? = some (.val v)) (hv : v.isRef = true) (hp : pc + 1 = pc')
    (k : Gets tb e below P T (mkF m pc' Ls (v :: st))) : Gets tb e below P T (mkF m pc Ls (st)) := by
  subst hp; refine k.by fun t qq => ?_; exact XS.aloadN H hx rfl hd hl hv qq
theorem g_aload {tb : Tables} [Ours tb] {e : Env} {below : List Frame} {T : State} {m : MethodId} {c : Code} {P : Outcome → State → Prop} {pc pc' : Nat} {Ls : Array Slot} {st : List Value} {j : Nat} {v : Value} (H : At T m c below) (hx : tb.exec = Jvm.exec) (hd : decode c.code pc = .ok (.aload j, 2)) (hl : Ls[j]? = some (.val v)) (hv : v.isRef = true) (hp : pc + 2 = pc')
    (k : Gets tb e below P T (mkF m pc' Ls (v :: st))) : Gets tb e below P T (mkF m pc Ls (st)) := by
  subst hp; refine k.by fun t qq => ?_; exact XS.aload H hx rfl hd hl hv qq
theorem g_astoreN {tb : Tables} [Ours tb] {e : Env} {below : List Frame} {T : State} {m : MethodId} {c : Code} {P : Outcome → State → Prop} {pc pc' : Nat} {Ls : Array Slot} {st : List Value} {j : Fin 4} {v : Value} {Ls' : Array Slot} (H : At T m c below) (hx : tb.exec = Jvm.exec) (hd : decode c.code pc = .ok (.astore_n j, 1)) (hv : v.isRef = true) (hl : storeLocals Ls j.val v = some Ls') (hp : pc + 1 = pc')
    (k : Gets tb e below P T (mkF m pc' Ls' (st))) : Gets tb e below P T (mkF m pc Ls (v :: st)) := by
  subst hp; refine k.by fun t qq => ?_; exact XS.astoreN H hx rfl hd rfl hv hl qq
theorem g_astore {tb : Tables} [Ours tb] {e : Env} {below : List Frame} {T : State} {m : MethodId} {c : Code} {P : Outcome → State → Prop} {pc pc' : Nat} {Ls : Array Slot} {st : List Value} {j : Nat} {v : Value} {Ls' : Array Slot} (H : At T m c below) (hx : tb.exec = Jvm.exec) (hd : decode c.code pc = .ok (.astore j, 2)) (hv : v.isRef = true) (hl : storeLocals Ls j v = some Ls') (hp : pc + 2 = pc')
    (k : Gets tb e below P T (mkF m pc' Ls' (st))) : Gets tb e below P T (mkF m pc Ls (v :: st)) := by
  subst hp; refine k.by fun t qq => ?_; exact XS.astore H hx rfl hd rfl hv hl qq
theorem g_iconst {tb : Tables} [Ours tb] {e : Env} {below : List Frame} {T : State} {m : MethodId} {c : Code} {P : Outcome → State → Prop} {pc pc' : Nat} {Ls : Array Slot} {st : List Value} {i : Int} (v : Int32) (H : At T m c below) (hx : tb.exec = Jvm.exec) (hd : decode c.code pc = .ok (.iconst i, 1)) (hv : Int32.ofInt i = v) (hp : pc + 1 = pc')
    (k : Gets tb e below P T (mkF m pc' Ls (.int v :: st))) : Gets tb e below P T (mkF m pc Ls st) := by
  subst hp; subst hv; refine k.by fun t qq => ?_; exact XS.iconst H hx rfl hd qq
theorem g_bipush {tb : Tables} [Ours tb] {e : Env} {below : List Frame} {T : State} {m : MethodId} {c : Code} {P : Outcome → State → Prop} {pc pc' : Nat} {Ls : Array Slot} {st : List Value} {i : Int} (v : Int32) (H : At T m c below) (hx : tb.exec = Jvm.exec) (hd : decode c.code pc = .ok (.bipush i, 2)) (hv : (Int8.ofInt i).toInt32 = v) (hp : pc + 2 = pc')
    (k : Gets tb e below P T (mkF m pc' Ls (.int v :: st))) : Gets tb e below P T (mkF m pc Ls st) := by
  subst hp; subst hv; refine k.by fun t qq => ?_; exact XS.bipush H hx rfl hd qq
theorem g_sipush {tb : Tables} [Ours tb] {e : Env} {below : List Frame} {T : State} {m : MethodId} {c : Code} {P : Outcome → State → Prop} {pc pc' : Nat} {Ls : Array Slot} {st : List Value} {i : Int} (v : Int32) (H : At T m c below) (hx : tb.exec = Jvm.exec) (hd : decode c.code pc = .ok (.sipush i, 3)) (hv : (Int16.ofInt i).toInt32 = v) (hp : pc + 3 = pc')
    (k : Gets tb e below P T (mkF m pc' Ls (.int v :: st))) : Gets tb e below P T (mkF m pc Ls st) := by
  subst hp; subst hv; refine k.by fun t qq => ?_; exact XS.sipush H hx rfl hd qq
theorem g_aconstNull {tb : Tables} [Ours tb] {e : Env} {below : List Frame} {T : State} {m : MethodId} {c : Code} {P : Outcome → State → Prop} {pc pc' : Nat} {Ls : Array Slot} {st : List Value}  (H : At T m c below) (hx : tb.exec = Jvm.exec) (hd : decode c.code pc = .ok (.aconst_null, 1))  (hp : pc + 1 = pc')
    (k : Gets tb e below P T (mkF m pc' Ls (.null :: st))) : Gets tb e below P T (mkF m pc Ls (st)) := by
  subst hp; refine k.by fun t qq => ?_; exact XS.aconstNull H hx rfl hd  qq
theorem g_iadd {tb : Tables} [Ours tb] {e : Env} {below : List Frame} {T : State} {m : MethodId} {c : Code} {P : Outcome → State → Prop} {pc pc' : Nat} {Ls : Array Slot} {st : List Value} {x y : Int32} (H : At T m c below) (hx : tb.exec = Jvm.exec) (hd : decode c.code pc = .ok (.iadd, 1))  (hp : pc + 1 = pc')
    (k : Gets tb e below P T (mkF m pc' Ls (.int (x + y) :: st))) : Gets tb e below P T (mkF m pc Ls (.int y :: .int x :: st)) := by
  subst hp; refine k.by fun t qq => ?_; exact XS.iadd H hx rfl hd rfl qq
theorem g_isub {tb : Tables} [Ours tb] {e : Env} {below : List Frame} {T : State} {m : MethodId} {c : Code} {P : Outcome → State → Prop} {pc pc' : Nat} {Ls : Array Slot} {st : List Value} {x y : Int32} (H : At T m c below) (hx : tb.exec = Jvm.exec) (hd : decode c.code pc = .ok (.isub, 1))  (hp : pc + 1 = pc')
    (k : Gets tb e below P T (mkF m pc' Ls (.int (x - y) :: st))) : Gets tb e below P T (mkF m pc Ls (.int y :: .int x :: st)) := by
  subst hp; refine k.by fun t qq => ?_; exact XS.isub H hx rfl hd rfl qq
theorem g_imul {tb : Tables} [Ours tb] {e : Env} {below : List Frame} {T : State} {m : MethodId} {c : Code} {P : Outcome → State → Prop} {pc pc' : Nat} {Ls : Array Slot} {st : List Value} {x y : Int32} (H : At T m c below) (hx : tb.exec = Jvm.exec) (hd : decode c.code pc = .ok (.imul, 1))  (hp : pc + 1 = pc')
    (k : Gets tb e below P T (mkF m pc' Ls (.int (x * y) :: st))) : Gets tb e below P T (mkF m pc Ls (.int y :: .int x :: st)) := by
  subst hp; refine k.by fun t qq => ?_; exact XS.imul H hx rfl hd rfl qq
theorem g_iand {tb : Tables} [Ours tb] {e : Env} {below : List Frame} {T : State} {m : MethodId} {c : Code} {P : Outcome → State → Prop} {pc pc' : Nat} {Ls : Array Slot} {st : List Value} {x y : Int32} (H : At T m c below) (hx : tb.exec = Jvm.exec) (hd : decode c.code pc = .ok (.iand, 1))  (hp : pc + 1 = pc')
    (k : Gets tb e below P T (mkF m pc' Ls (.int (x &&& y) :: st))) : Gets tb e below P T (mkF m pc Ls (.int y :: .int x :: st)) := by
  subst hp; refine k.by fun t qq => ?_; exact XS.iand H hx rfl hd rfl qq
theorem g_ior {tb : Tables} [Ours tb] {e : Env} {below : List Frame} {T : State} {m : MethodId} {c : Code} {P : Outcome → State → Prop} {pc pc' : Nat} {Ls : Array Slot} {st : List Value} {x y : Int32} (H : At T m c below) (hx : tb.exec = Jvm.exec) (hd : decode c.code pc = .ok (.ior, 1))  (hp : pc + 1 = pc')
    (k : Gets tb e below P T (mkF m pc' Ls (.int (x ||| y) :: st))) : Gets tb e below P T (mkF m pc Ls (.int y :: .int x :: st)) := by
  subst hp; refine k.by fun t qq => ?_; exact XS.ior H hx rfl hd rfl qq
theorem g_ixor {tb : Tables} [Ours tb] {e : Env} {below : List Frame} {T : State} {m : MethodId} {c : Code} {P : Outcome → State → Prop} {pc pc' : Nat} {Ls : Array Slot} {st : List Value} {x y : Int32} (H : At T m c below) (hx : tb.exec = Jvm.exec) (hd : decode c.code pc = .ok (.ixor, 1))  (hp : pc + 1 = pc')
    (k : Gets tb e below P T (mkF m pc' Ls (.int (x ^^^ y) :: st))) : Gets tb e below P T (mkF m pc Ls (.int y :: .int x :: st)) := by
  subst hp; refine k.by fun t qq => ?_; exact XS.ixor H hx rfl hd rfl qq
theorem g_ishl {tb : Tables} [Ours tb] {e : Env} {below : List Frame} {T : State} {m : MethodId} {c : Code} {P : Outcome → State → Prop} {pc pc' : Nat} {Ls : Array Slot} {st : List Value} {x y : Int32} (H : At T m c below) (hx : tb.exec = Jvm.exec) (hd : decode c.code pc = .ok (.ishl, 1))  (hp : pc + 1 = pc')
    (k : Gets tb e below P T (mkF m pc' Ls (.int (x <<< (y &&& 31)) :: st))) : Gets tb e below P T (mkF m pc Ls (.int y :: .int x :: st)) := by
  subst hp; refine k.by fun t qq => ?_; exact XS.ishl H hx rfl hd rfl qq
theorem g_ishr {tb : Tables} [Ours tb] {e : Env} {below : List Frame} {T : State} {m : MethodId} {c : Code} {P : Outcome → State → Prop} {pc pc' : Nat} {Ls : Array Slot} {st : List Value} {x y : Int32} (H : At T m c below) (hx : tb.exec = Jvm.exec) (hd : decode c.code pc = .ok (.ishr, 1))  (hp : pc + 1 = pc')
    (k : Gets tb e below P T (mkF m pc' Ls (.int (x >>> (y &&& 31)) :: st))) : Gets tb e below P T (mkF m pc Ls (.int y :: .int x :: st)) := by
  subst hp; refine k.by fun t qq => ?_; exact XS.ishr H hx rfl hd rfl qq
theorem g_iushr {tb : Tables} [Ours tb] {e : Env} {below : List Frame} {T : State} {m : MethodId} {c : Code} {P : Outcome → State → Prop} {pc pc' : Nat} {Ls : Array Slot} {st : List Value} {x y : Int32} (H : At T m c below) (hx : tb.exec = Jvm.exec) (hd : decode c.code pc = .ok (.iushr, 1))  (hp : pc + 1 = pc')
    (k : Gets tb e below P T (mkF m pc' Ls (.int ((x.toUInt32 >>> (y &&& 31).toUInt32).toInt32) :: st))) : Gets tb e below P T (mkF m pc Ls (.int y :: .int x :: st)) := by
  subst hp; refine k.by fun t qq => ?_; exact XS.iushr H hx rfl hd rfl qq
theorem g_ladd {tb : Tables} [Ours tb] {e : Env} {below : List Frame} {T : State} {m : MethodId} {c : Code} {P : Outcome → State → Prop} {pc pc' : Nat} {Ls : Array Slot} {st : List Value} {x y : Int64} (H : At T m c below) (hx : tb.exec = Jvm.exec) (hd : decode c.code pc = .ok (.ladd, 1))  (hp : pc + 1 = pc')
    (k : Gets tb e below P T (mkF m pc' Ls (.long (x + y) :: st))) : Gets tb e below P T (mkF m pc Ls (.long y :: .long x :: st)) := by
  subst hp; refine k.by fun t qq => ?_; exact XS.ladd H hx rfl hd rfl qq
theorem g_lsub {tb : Tables} [Ours tb] {e : Env} {below : List Frame} {T : State} {m : MethodId} {c : Code} {P : Outcome → State → Prop} {pc pc' : Nat} {Ls : Array Slot} {st : List Value} {x y : Int64} (H : At T m c below) (hx : tb.exec = Jvm.exec) (hd : decode c.code pc = .ok (.lsub, 1))  (hp : pc + 1 = pc')
    (k : Gets tb e below P T (mkF m pc' Ls (.long (x - y) :: st))) : Gets tb e below P T (mkF m pc Ls (.long y :: .long x :: st)) := by
  subst hp; refine k.by fun t qq => ?_; exact XS.lsub H hx rfl hd rfl qq
theorem g_lmul {tb : Tables} [Ours tb] {e : Env} {below : List Frame} {T : State} {m : MethodId} {c : Code} {P : Outcome → State → Prop} {pc pc' : Nat} {Ls : Array Slot} {st : List Value} {x y : Int64} (H : At T m c below) (hx : tb.exec = Jvm.exec) (hd : decode c.code pc = .ok (.lmul, 1))  (hp : pc + 1 = pc')
    (k : Gets tb e below P T (mkF m pc' Ls (.long (x * y) :: st))) : Gets tb e below P T (mkF m pc Ls (.long y :: .long x :: st)) := by
  subst hp; refine k.by fun t qq => ?_; exact XS.lmul H hx rfl hd rfl qq
theorem g_land {tb : Tables} [Ours tb] {e : Env} {below : List Frame} {T : State} {m : MethodId} {c : Code} {P : Outcome → State → Prop} {pc pc' : Nat} {Ls : Array Slot} {st : List Value} {x y : Int64} (H : At T m c below) (hx : tb.exec = Jvm.exec) (hd : decode c.code pc = .ok (.land, 1))  (hp : pc + 1 = pc')
    (k : Gets tb e below P T (mkF m pc' Ls (.long (x &&& y) :: st))) : Gets tb e below P T (mkF m pc Ls (.long y :: .long x :: st)) := by
  subst hp; refine k.by fun t qq => ?_; exact XS.land H hx rfl hd rfl qq
theorem g_lor {tb : Tables} [Ours tb] {e : Env} {below : List Frame} {T : State} {m : MethodId} {c : Code} {P : Outcome → State → Prop} {pc pc' : Nat} {Ls : Array Slot} {st : List Value} {x y : Int64} (H : At T m c below) (hx : tb.exec = Jvm.exec) (hd : decode c.code pc = .ok (.lor, 1))  (hp : pc + 1 = pc')
    (k : Gets tb e below P T (mkF m pc' Ls (.long (x ||| y) :: st))) : Gets tb e below P T (mkF m pc Ls (.long y :: .long x :: st)) := by
  subst hp; refine k.by fun t qq => ?_; exact XS.lor H hx rfl hd rfl qq
theorem g_lxor {tb : Tables} [Ours tb] {e : Env} {below : List Frame} {T : State} {m : MethodId} {c : Code} {P : Outcome → State → Prop} {pc pc' : Nat} {Ls : Array Slot} {st : List Value} {x y : Int64} (H : At T m c below) (hx : tb.exec = Jvm.exec) (hd : decode c.code pc = .ok (.lxor, 1))  (hp : pc + 1 = pc')
    (k : Gets tb e below P T (mkF m pc' Ls (.long (x ^^^ y) :: st))) : Gets tb e below P T (mkF m pc Ls (.long y :: .long x :: st)) := by
  subst hp; refine k.by fun t qq => ?_; exact XS.lxor H hx rfl hd rfl qq
theorem g_lshl {tb : Tables} [Ours tb] {e : Env} {below : List Frame} {T : State} {m : MethodId} {c : Code} {P : Outcome → State → Prop} {pc pc' : Nat} {Ls : Array Slot} {st : List Value} {x : Int64} {y : Int32} (H : At T m c below) (hx : tb.exec = Jvm.exec) (hd : decode c.code pc = .ok (.lshl, 1))  (hp : pc + 1 = pc')
    (k : Gets tb e below P T (mkF m pc' Ls (.long (x <<< (y &&& 0x3f).toInt64) :: st))) : Gets tb e below P T (mkF m pc Ls (.int y :: .long x :: st)) := by
  subst hp; refine k.by fun t qq => ?_; exact XS.lshl H hx rfl hd rfl qq
theorem g_lshr {tb : Tables} [Ours tb] {e : Env} {below : List Frame} {T : State} {m : MethodId} {c : Code} {P : Outcome → State → Prop} {pc pc' : Nat} {Ls : Array Slot} {st : List Value} {x : Int64} {y : Int32} (H : At T m c below) (hx : tb.exec = Jvm.exec) (hd : decode c.code pc = .ok (.lshr, 1))  (hp : pc + 1 = pc')
    (k : Gets tb e below P T (mkF m pc' Ls (.long (x >>> (y &&& 0x3f).toInt64) :: st))) : Gets tb e below P T (mkF m pc Ls (.int y :: .long x :: st)) := by
  subst hp; refine k.by fun t qq => ?_; exact XS.lshr H hx rfl hd rfl qq
theorem g_lushr {tb : Tables} [Ours tb] {e : Env} {below : List Frame} {T : State} {m : MethodId} {c : Code} {P : Outcome → State → Prop} {pc pc' : Nat} {Ls : Array Slot} {st : List Value} {x : Int64} {y : Int32} (H : At T m c below) (hx : tb.exec = Jvm.exec) (hd : decode c.code pc = .ok (.lushr, 1))  (hp : pc + 1 = pc')
    (k : Gets tb e below P T (mkF m pc' Ls (.long ((x.toUInt64 >>> (y &&& 0x3f).toInt64.toUInt64).toInt64) :: st))) : Gets tb e below P T (mkF m pc Ls (.int y :: .long x :: st)) := by
  subst hp; refine k.by fun t qq => ?_; exact XS.lushr H hx rfl hd rfl qq
theorem g_lcmp {tb : Tables} [Ours tb] {e : Env} {below : List Frame} {T : State} {m : MethodId} {c : Code} {P : Outcome → State → Prop} {pc pc' : Nat} {Ls : Array Slot} {st : List Value} {x y : Int64} (H : At T m c below) (hx : tb.exec = Jvm.exec) (hd : decode c.code pc = .ok (.lcmp, 1))  (hp : pc + 1 = pc')
    (k : Gets tb e below P T (mkF m pc' Ls (.int (lcmpW x y) :: st))) : Gets tb e below P T (mkF m pc Ls (.long y :: .long x :: st)) := by
  subst hp; refine k.by fun t qq => ?_; exact XS.lcmp H hx rfl hd rfl qq
theorem g_ineg {tb : Tables} [Ours tb] {e : Env} {below : List Frame} {T : State} {m : MethodId} {c : Code} {P : Outcome → State → Prop} {pc pc' : Nat} {Ls : Array Slot} {st : List Value} {x : Int32} (H : At T m c below) (hx : tb.exec = Jvm.exec) (hd : decode c.code pc = .ok (.ineg, 1))  (hp : pc + 1 = pc')
    (k : Gets tb e below P T (mkF m pc' Ls (.int (-x) :: st))) : Gets tb e below P T (mkF m pc Ls (.int x :: st)) := by
  subst hp; refine k.by fun t qq => ?_; exact XS.ineg H hx rfl hd rfl qq
theorem g_i2b {tb : Tables} [Ours tb] {e : Env} {below : List Frame} {T : State} {m : MethodId} {c : Code} {P : Outcome → State → Prop} {pc pc' : Nat} {Ls : Array Slot} {st : List Value} {x : Int32} (H : At T m c below) (hx : tb.exec = Jvm.exec) (hd : decode c.code pc = .ok (.i2b, 1))  (hp : pc + 1 = pc')
    (k : Gets tb e below P T (mkF m pc' Ls (.int (x.toInt8.toInt32) :: st))) : Gets tb e below P T (mkF m pc Ls (.int x :: st)) := by
  subst hp; refine k.by fun t qq => ?_; exact XS.i2b H hx rfl hd rfl qq
theorem g_i2s {tb : Tables} [Ours tb] {e : Env} {below : List Frame} {T : State} {m : MethodId} {c : Code} {P : Outcome → State → Prop} {pc pc' : Nat} {Ls : Array Slot} {st : List Value} {x : Int32} (H : At T m c below) (hx : tb.exec = Jvm.exec) (hd : decode c.code pc = .ok (.i2s, 1))  (hp : pc + 1 = pc')
    (k : Gets tb e below P T (mkF m pc' Ls (.int (x.toInt16.toInt32) :: st))) : Gets tb e below P T (mkF m pc Ls (.int x :: st)) := by
  subst hp; refine k.by fun t qq => ?_; exact XS.i2s H hx rfl hd rfl qq
theorem g_i2c {tb : Tables} [Ours tb] {e : Env} {below : List Frame} {T : State} {m : MethodId} {c : Code} {P : Outcome → State → Prop} {pc pc' : Nat} {Ls : Array Slot} {st : List Value} {x : Int32} (H : At T m c below) (hx : tb.exec = Jvm.exec) (hd : decode c.code pc = .ok (.i2c, 1))  (hp : pc + 1 = pc')
    (k : Gets tb e below P T (mkF m pc' Ls (.int (x.toUInt32.toUInt16.toUInt32.toInt32) :: st))) : Gets tb e below P T (mkF m pc Ls (.int x :: st)) := by
  subst hp; refine k.by fun t qq => ?_; exact XS.i2c H hx rfl hd rfl qq
theorem g_i2l {tb : Tables} [Ours tb] {e : Env} {below : List Frame} {T : State} {m : MethodId} {c : Code} {P : Outcome → State → Prop} {pc pc' : Nat} {Ls : Array Slot} {st : List Value} {x : Int32} (H : At T m c below) (hx : tb.exec = Jvm.exec) (hd : decode c.code pc = .ok (.i2l, 1))  (hp : pc + 1 = pc')
    (k : Gets tb e below P T (mkF m pc' Ls (.long x.toInt64 :: st))) : Gets tb e below P T (mkF m pc Ls (.int x :: st)) := by
  subst hp; refine k.by fun t qq => ?_; exact XS.i2l H hx rfl hd rfl qq
theorem g_l2i {tb : Tables} [Ours tb] {e : Env} {below : List Frame} {T : State} {m : MethodId} {c : Code} {P : Outcome → State → Prop} {pc pc' : Nat} {Ls : Array Slot} {st : List Value} {x : Int64} (H : At T m c below) (hx : tb.exec = Jvm.exec) (hd : decode c.code pc = .ok (.l2i, 1))  (hp : pc + 1 = pc')
    (k : Gets tb e below P T (mkF m pc' Ls (.int x.toInt32 :: st))) : Gets tb e below P T (mkF m pc Ls (.long x :: st)) := by
  subst hp; refine k.by fun t qq => ?_; exact XS.l2i H hx rfl hd rfl qq
theorem g_lneg {tb : Tables} [Ours tb] {e : Env} {below : List Frame} {T : State} {m : MethodId} {c : Code} {P : Outcome → State → Prop} {pc pc' : Nat} {Ls : Array Slot} {st : List Value} {x : Int64} (H : At T m c below) (hx : tb.exec = Jvm.exec) (hd : decode c.code pc = .ok (.lneg, 1))  (hp : pc + 1 = pc')
    (k : Gets tb e below P T (mkF m pc' Ls (.long (-x) :: st))) : Gets tb e below P T (mkF m pc Ls (.long x :: st)) := by
  subst hp; refine k.by fun t qq => ?_; exact XS.lneg H hx rfl hd rfl qq
theorem g_idiv {tb : Tables} [Ours tb] {e : Env} {below : List Frame} {T : State} {m : MethodId} {c : Code} {P : Outcome → State → Prop} {pc pc' : Nat} {Ls : Array Slot} {st : List Value} {x y : Int32} (H : At T m c below) (hx : tb.exec = Jvm.exec) (hd : decode c.code pc = .ok (.idiv, 1)) (hy : y ≠ 0) (hp : pc + 1 = pc')
    (k : Gets tb e below P T (mkF m pc' Ls (.int (x / y) :: st))) : Gets tb e below P T (mkF m pc Ls (.int y :: .int x :: st)) := by
  subst hp; refine k.by fun t qq => ?_; exact XS.idiv H hx rfl hd rfl hy qq
theorem g_dup {tb : Tables} [Ours tb] {e : Env} {below : List Frame} {T : State} {m : MethodId} {c : Code} {P : Outcome → State → Prop} {pc pc' : Nat} {Ls : Array Slot} {st : List Value} {v : Value} (H : At T m c below) (hx : tb.exec = Jvm.exec) (hd : decode c.code pc = .ok (.dup, 1)) (hv : v.category = 1) (hp : pc + 1 = pc')
    (k : Gets tb e below P T (mkF m pc' Ls (v :: v :: st))) : Gets tb e below P T (mkF m pc Ls (v :: st)) := by
  subst hp; refine k.by fun t qq => ?_; exact XS.dup H hx rfl hd rfl hv qq
theorem g_pop {tb : Tables} [Ours tb] {e : Env} {below : List Frame} {T : State} {m : MethodId} {c : Code} {P : Outcome → State → Prop} {pc pc' : Nat} {Ls : Array Slot} {st : List Value} {v : Value} (H : At T m c below) (hx : tb.exec = Jvm.exec) (hd : decode c.code pc = .ok (.pop, 1)) (hv : v.category = 1) (hp : pc + 1 = pc')
    (k : Gets tb e below P T (mkF m pc' Ls (st))) : Gets tb e below P T (mkF m pc Ls (v :: st)) := by
  subst hp; refine k.by fun t qq => ?_; exact XS.pop H hx rfl hd rfl hv qq
theorem g_dupX1 {tb : Tables} [Ours tb] {e : Env} {below : List Frame} {T : State} {m : MethodId} {c : Code} {P : Outcome → State → Prop} {pc pc' : Nat} {Ls : Array Slot} {st : List Value} {v w : Value} (H : At T m c below) (hx : tb.exec = Jvm.exec) (hd : decode c.code pc = .ok (.dup_x1, 1)) (hv : v.category = 1) (hw : w.category = 1) (hp : pc + 1 = pc')
    (k : Gets tb e below P T (mkF m pc' Ls (v :: w :: v :: st))) : Gets tb e below P T (mkF m pc Ls (v :: w :: st)) := by
  subst hp; refine k.by fun t qq => ?_; exact XS.dupX1 H hx rfl hd rfl hv hw qq
theorem g_iinc {tb : Tables} [Ours tb] {e : Env} {below : List Frame} {T : State} {m : MethodId} {c : Code} {P : Outcome → State → Prop} {pc pc' : Nat} {Ls : Array Slot} {st : List Value} {j : Nat} {cst : Int} {x : Int32} {Ls' : Array Slot} (H : At T m c below) (hx : tb.exec = Jvm.exec) (hd : decode c.code pc = .ok (.iinc j cst, 3)) (hl : Ls[j]? = some (.val (.int x))) (hs : storeLocals Ls j (.int (x + Int32.ofInt cst)) = some Ls') (hp : pc + 3 = pc')
    (k : Gets tb e below P T (mkF m pc' Ls' (st))) : Gets tb e below P T (mkF m pc Ls (st)) := by
  subst hp; refine k.by fun t qq => ?_; exact XS.iinc H hx rfl hd hl hs qq
theorem g_lconst {tb : Tables} [Ours tb] {e : Env} {below : List Frame} {T : State} {m : MethodId} {c : Code} {P : Outcome → State → Prop} {pc pc' : Nat} {Ls : Array Slot} {st : List Value} {j : Fin 2} (v : Int64) (H : At T m c below) (hx : tb.exec = Jvm.exec) (hd : decode c.code pc = .ok (.lconst j, 1)) (hv : Int64.ofNat j = v) (hp : pc + 1 = pc')
    (k : Gets tb e below P T (mkF m pc' Ls (.long v :: st))) : Gets tb e below P T (mkF m pc Ls st) := by
  subst hp; subst hv; refine k.by fun t qq => ?_; exact XS.lconst H hx rfl hd qq
theorem g_irem {tb : Tables} [Ours tb] {e : Env} {below : List Frame} {T : State} {m : MethodId} {c : Code} {P : Outcome → State → Prop} {pc pc' : Nat} {Ls : Array Slot} {st : List Value} {x y : Int32} (H : At T m c below) (hx : tb.exec = Jvm.exec) (hd : decode c.code pc = .ok (.irem, 1)) (hy : y ≠ 0) (hp : pc + 1 = pc')
    (k : Gets tb e below P T (mkF m pc' Ls (.int (x % y) :: st))) : Gets tb e below P T (mkF m pc Ls (.int y :: .int x :: st)) := by
  subst hp
  have q : x - x / y * y = x % y := irem_eq_mod x y
  rw [← q] at k
  refine k.by fun t qq => ?_; exact XS.irem H hx rfl hd rfl hy qq
theorem g_goto {tb : Tables} [Ours tb] {e : Env} {below : List Frame} {T : State} {m : MethodId} {c : Code} {P : Outcome → State → Prop} {pc pc' : Nat} {Ls : Array Slot} {st : List Value} {o : Int} (H : At T m c below) (hx : tb.exec = Jvm.exec) (hd : decode c.code pc = .ok (.goto o, 3)) (hp : (pc : Int) + o = (pc' : Int))
    (k : Gets tb e below P T (mkF m pc' Ls st)) : Gets tb e below P T (mkF m pc Ls st) := by
  refine k.by fun t qq => ?_
  exact XS.goto H hx rfl (pc0 := pc) (pc' := pc') rfl hd (by rw [hp]; exact Int.natCast_nonneg _) (by rw [hp]; rfl) qq
theorem g_ifY {tb : Tables} [Ours tb] {e : Env} {below : List Frame} {T : State} {m : MethodId} {c : Code} {P : Outcome → State → Prop} {pc pc' : Nat} {Ls : Array Slot} {st : List Value} {o : Int} {cd : ClassFile.Cond} {x : Int32} (H : At T m c below) (hx : tb.exec = Jvm.exec) (hd : decode c.code pc = .ok (.ifCond cd o, 3)) (hp : (pc : Int) + o = (pc' : Int)) (q : if_icmp.holds cd x 0 = true)
    (k : Gets tb e below P T (mkF m pc' Ls st)) : Gets tb e below P T (mkF m pc Ls (.int x :: st)) := by
  refine k.by fun t qq => ?_
  exact XS.ifYes H hx rfl (pc0 := pc) (pc' := pc') rfl hd rfl ((if0 _ _).trans q) (by rw [hp]; exact Int.natCast_nonneg _) (by rw [hp]; rfl) qq
theorem g_ifN {tb : Tables} [Ours tb] {e : Env} {below : List Frame} {T : State} {m : MethodId} {c : Code} {P : Outcome → State → Prop} {pc pc' : Nat} {Ls : Array Slot} {st : List Value} {o : Int} {cd : ClassFile.Cond} {x : Int32} (H : At T m c below) (hx : tb.exec = Jvm.exec) (hd : decode c.code pc = .ok (.ifCond cd o, 3)) (hp : pc + 3 = pc') (q : if_icmp.holds cd x 0 = false)
    (k : Gets tb e below P T (mkF m pc' Ls st)) : Gets tb e below P T (mkF m pc Ls (.int x :: st)) := by
  subst hp; refine k.by fun t qq => ?_; exact XS.ifNo H hx rfl hd rfl ((if0 _ _).trans q) qq
theorem g_icmpY {tb : Tables} [Ours tb] {e : Env} {below : List Frame} {T : State} {m : MethodId} {c : Code} {P : Outcome → State → Prop} {pc pc' : Nat} {Ls : Array Slot} {st : List Value} {o : Int} {cd : ClassFile.Cond} {x y : Int32} (H : At T m c below) (hx : tb.exec = Jvm.exec) (hd : decode c.code pc = .ok (.if_icmp cd o, 3)) (hp : (pc : Int) + o = (pc' : Int)) (q : if_icmp.holds cd x y = true)
    (k : Gets tb e below P T (mkF m pc' Ls st)) : Gets tb e below P T (mkF m pc Ls (.int y :: .int x :: st)) := by
  refine k.by fun t qq => ?_
  exact XS.icmpYes H hx rfl (pc0 := pc) (pc' := pc') rfl hd rfl q (by rw [hp]; exact Int.natCast_nonneg _) (by rw [hp]; rfl) qq
theorem g_icmpN {tb : Tables} [Ours tb] {e : Env} {below : List Frame} {T : State} {m : MethodId} {c : Code} {P : Outcome → State → Prop} {pc pc' : Nat} {Ls : Array Slot} {st : List Value} {o : Int} {cd : ClassFile.Cond} {x y : Int32} (H : At T m c below) (hx : tb.exec = Jvm.exec) (hd : decode c.code pc = .ok (.if_icmp cd o, 3)) (hp : pc + 3 = pc') (q : if_icmp.holds cd x y = false)
    (k : Gets tb e below P T (mkF m pc' Ls st)) : Gets tb e below P T (mkF m pc Ls (.int y :: .int x :: st)) := by
  subst hp; refine k.by fun t qq => ?_; exact XS.icmpNo H hx rfl hd rfl q qq
theorem g_nullY {tb : Tables} [Ours tb] {e : Env} {below : List Frame} {T : State} {m : MethodId} {c : Code} {P : Outcome → State → Prop} {pc pc' : Nat} {Ls : Array Slot} {st : List Value} {o : Int} (H : At T m c below) (hx : tb.exec = Jvm.exec) (hd : decode c.code pc = .ok (.ifnull o, 3)) (hp : (pc : Int) + o = (pc' : Int))
    (k : Gets tb e below P T (mkF m pc' Ls st)) : Gets tb e below P T (mkF m pc Ls (.null :: st)) := by
  refine k.by fun t qq => ?_
  exact XS.ifnullYes H hx rfl (pc0 := pc) (pc' := pc') rfl hd rfl (by rw [hp]; exact Int.natCast_nonneg _) (by rw [hp]; rfl) qq
theorem g_nullN {tb : Tables} [Ours tb] {e : Env} {below : List Frame} {T : State} {m : MethodId} {c : Code} {P : Outcome → State → Prop} {pc pc' : Nat} {Ls : Array Slot} {st : List Value} {o : Int} {b : Addr} (H : At T m c below) (hx : tb.exec = Jvm.exec) (hd : decode c.code pc = .ok (.ifnull o, 3)) (hp : pc + 3 = pc')
    (k : Gets tb e below P T (mkF m pc' Ls st)) : Gets tb e below P T (mkF m pc Ls (.ref b :: st)) := by
  subst hp; refine k.by fun t qq => ?_; exact XS.ifnullNo H hx rfl hd rfl qq
theorem g_nonnullY {tb : Tables} [Ours tb] {e : Env} {below : List Frame} {T : State} {m : MethodId} {c : Code} {P : Outcome → State → Prop} {pc pc' : Nat} {Ls : Array Slot} {st : List Value} {o : Int} {b : Addr} (H : At T m c below) (hx : tb.exec = Jvm.exec) (hd : decode c.code pc = .ok (.ifnonnull o, 3)) (hp : (pc : Int) + o = (pc' : Int))
    (k : Gets tb e below P T (mkF m pc' Ls st)) : Gets tb e below P T (mkF m pc Ls (.ref b :: st)) := by
  refine k.by fun t qq => ?_
  exact XS.ifnonnullYes H hx rfl (pc0 := pc) (pc' := pc') rfl hd rfl (by rw [hp]; exact Int.natCast_nonneg _) (by rw [hp]; rfl) qq
theorem g_nonnullN {tb : Tables} [Ours tb] {e : Env} {below : List Frame} {T : State} {m : MethodId} {c : Code} {P : Outcome → State → Prop} {pc pc' : Nat} {Ls : Array Slot} {st : List Value} {o : Int} (H : At T m c below) (hx : tb.exec = Jvm.exec) (hd : decode c.code pc = .ok (.ifnonnull o, 3)) (hp : pc + 3 = pc')
    (k : Gets tb e below P T (mkF m pc' Ls st)) : Gets tb e below P T (mkF m pc Ls (.null :: st)) := by
  subst hp; refine k.by fun t qq => ?_; exact XS.ifnonnullNo H hx rfl hd rfl qq
theorem g_tsw {tb : Tables} [Ours tb] {e : Env} {below : List Frame} {T : State} {m : MethodId} {c : Code} {P : Outcome → State → Prop} {pc pc' : Nat} {Ls : Array Slot} {st : List Value} {dflt low high : Int} {offs : Array Int} {len : Nat} {o : Int} {i : Int32} (H : At T m c below) (hx : tb.exec = Jvm.exec) (hd : decode c.code pc = .ok (.tableswitch dflt low high offs, len)) (hin : ¬ (i.toInt < low ∨ i.toInt > high)) (hoff : offs[(i.toInt - low).toNat]? = some o) (hp : (pc : Int) + o = (pc' : Int))
    (k : Gets tb e below P T (mkF m pc' Ls st)) : Gets tb e below P T (mkF m pc Ls (.int i :: st)) := by
  refine k.by fun t qq => ?_
  exact XS.tswIn H hx rfl (pc0 := pc) (pc' := pc') rfl hd rfl hin hoff (by rw [hp]; exact Int.natCast_nonneg _) (by rw [hp]; rfl) qq
theorem g_iincV {tb : Tables} [Ours tb] {e : Env} {below : List Frame} {T : State} {m : MethodId} {c : Code} {P : Outcome → State → Prop} {pc pc' : Nat} {Ls Ls' : Array Slot} {st : List Value} {j : Nat} {cst : Int} {x : Int32} (v : Int32) (H : At T m c below) (hx : tb.exec = Jvm.exec) (hd : decode c.code pc = .ok (.iinc j cst, 3)) (hv : x + Int32.ofInt cst = v) (hl : Ls[j]? = some (.val (.int x))) (hs : storeLocals Ls j (.int v) = some Ls') (hp : pc + 3 = pc')
    (k : Gets tb e below P T (mkF m pc' Ls' st)) : Gets tb e below P T (mkF m pc Ls st) := by
  subst hp; subst hv; refine k.by fun t qq => ?_; exact XS.iinc H hx rfl hd hl hs qq
/-- an array's exact content -/
def Ary (Z : State) (h : Heap) (a : Addr) (ty : FieldType) (vs : List Value) : Prop := ∃ cl : Cell, Arr Z h a cl ty ∧ cl.slots.toList = vs ∧ vs.length < 2 ^ 31 ∧ ∀ v ∈ vs, fits ty v = true
theorem Ary.lt {Z : State} {h : Heap} {a : Addr} {ty : FieldType} {vs : List Value} (F : Ary Z h a ty vs) : a < h.size := by obtain ⟨c, A, -⟩ := F; exact A.lt
theorem Ary.len {Z : State} {h : Heap} {a : Addr} {ty : FieldType} {vs : List Value} (F : Ary Z h a ty vs) : vs.length < 2 ^ 31 := by obtain ⟨c, A, -, q, -⟩ := F; exact q
theorem Ary.keep {Z : State} {h h' : Heap} {a : Addr} {ty : FieldType} {vs : List Value} {ws : List Addr} (F : Ary Z h a ty vs) (K : Keep h h' ws) (q : a ∉ ws) : Ary Z h' a ty vs := by obtain ⟨c, A, r⟩ := F; exact ⟨c, ⟨K.2.1 a c A.1 q, A.2⟩, r⟩
theorem Ary.ext {Z : State} {h h' : Heap} {a : Addr} {ty : FieldType} {vs : List Value} (F : Ary Z h a ty vs) (E : Ext h h') : Ary Z h' a ty vs := by obtain ⟨c, A, r⟩ := F; exact ⟨c, A.ext E, r⟩
theorem Ary.made {Z : State} {h : Heap} {a : Addr} {ty : FieldType} {k : ClassId} {n : Int32} (A : Arr Z h a (newA k ty n) ty) (hn : ¬ n < 0) (hf : fits ty (defaultValue ty) = true) : Ary Z h a ty (List.replicate n.toNatClampNeg (defaultValue ty)) :=
  ⟨_, A, by simp [newA], by rw [List.length_replicate]; exact (back32 hn).2, fun v hv => by rw [(List.mem_replicate.mp hv).2]; exact hf⟩
theorem Ary.of_arv {Z : State} {h : Heap} {a : Addr} {ty : FieldType} {k : ClassId} {z : Int32} {vs : List Value} {d : Value} (F : Arv Z h a k ty z vs d) (hl : z.toNatClampNeg = vs.length) : Ary Z h a ty vs := by
  obtain ⟨c, A, -, sz, hz, H, G⟩ := F
  have e : c.slots.toList = vs := by
    apply List.ext_getElem?
    intro i
    by_cases hi : i < c.slots.size
    · have q := H i hi
      have hi' : i < vs.length := by omega
      rw [Array.getElem?_toList, q]
      simp [List.getD_eq_getElem?_getD, hi']
    · have hi' : vs.length ≤ i := by omega
      rw [Array.getElem?_toList, Array.getElem?_eq_none (by omega), List.getElem?_eq_none hi']
  refine ⟨c, A, e, by rw [← hl]; exact (back32 hz).2, fun v hv => ?_⟩
  obtain ⟨i, hi, rfl⟩ := List.mem_iff_getElem.mp hv
  have q := G i (by omega)
  rwa [List.getD_eq_getElem?_getD, List.getElem?_eq_getElem hi] at q
theorem Ary.wrote {Z : State} {h h' : Heap} {a : Addr} {ty : FieldType} {vs : List Value} {cl : Cell} {v : Value} {i : Nat} (A : Arr Z h a cl ty) (e : cl.slots.toList = vs) (hl : vs.length < 2 ^ 31) (hf : ∀ w ∈ vs, fits ty w = true) (hv : fits ty v = true) (W : Wr h h' a i v) : Ary Z h' a ty (vs.set i v) := by
  refine ⟨cl.setSlot i v, A.same W, ?_, by rw [List.length_set]; exact hl, fun w hw => ?_⟩
  · rw [← e]; simp [Cell.setSlot]
  · rcases List.mem_or_eq_of_mem_set hw with q | q
    · exact hf w q
    · rw [q]; exact hv
theorem size_of_list {cl : Cell} {vs : List Value} (e : cl.slots.toList = vs) : cl.slots.size = vs.length := by rw [← e]; simp
theorem at_of_list {cl : Cell} {vs : List Value} (e : cl.slots.toList = vs) (i : Nat) : cl.slots[i]? = vs[i]? := by rw [← e]; simp
theorem i32_nat {n : Nat} (h : n < 2 ^ 31) : n.toInt32.toNatClampNeg = n := by simp only [Int32.toNatClampNeg, len_toInt h]; rfl
end OwnBase
section OwnWalk
variable {p : Program} {l : Launch} {e : Env} {R : Room} {s : State} {m : MethodId} {args : Array Value} {below : List Frame} {meth : Method} {c : Code} {T : State} {Z : State} {a0 : Array Value} {h : Heap} {EL : List (String × Nat)} {own : String} {cells slots : Nat} {ws nw : List Addr} {P : Outcome → State → Prop} {pc pc' : Nat} {Ls : Array Slot} {st : List Value}
/-- where a walk stands -/
def Wk (p : Program) (l : Launch) (e : Env) (R : Room) (s : State) (m : MethodId) (args : Array Value) (below : List Frame) (meth : Method) (c : Code) (Z : State) (EL : List (String × Nat)) (own : String) (ws nw : List Addr) (T : State) (h : Heap) (cells slots : Nat) : Prop :=
  ∃ (vm0 : Vm) (k0 : Nat) (locs : List Loc) (b0 : Array Value), Stand p l e R (s.setVm vm0) m args below meth c T locs cells slots ∧ T.heap = h ∧ s.Since vm0 k0 ∧ k0 ≤ h.size ∧ Z.Warmed39 vm0 ∧ vm0.findClass own = some m.cls ∧ EW Z b0 EL ∧ CHr Z EL s.vm s.heap vm0 h ∧ Fr Z.heap.size locs ∧ Ext Z.heap h ∧ Keep s.heap h ws ∧
    (∀ x : Nat, x ∈ ws → Z.heap.size ≤ x ∧ x < h.size ∧ Safe Z EL vm0 h x) ∧ (∀ x : Nat, x ∈ nw → s.heap.size ≤ x ∧ Z.heap.size ≤ x ∧ x < h.size ∧ Safe Z EL vm0 h x)
theorem Wk.here (W : Wk p l e R s m args below meth c Z EL own ws nw T h cells slots) : At T m c below := by obtain ⟨_, _, _, _, X, -⟩ := W; exact X.here
theorem Wk.old (W : Wk p l e R s m args below meth c Z EL own ws nw T h cells slots) : Ext Z.heap h := by obtain ⟨_, _, _, _, -, -, -, -, -, -, -, -, -, E, -⟩ := W; exact E
theorem Wk.lt (W : Wk p l e R s m args below meth c Z EL own ws nw T h cells slots) {x : Nat} (q : x ∈ nw) : x < h.size := by obtain ⟨_, _, _, _, -, -, -, -, -, -, -, -, -, -, -, -, n⟩ := W; exact (n x q).2.2.1
theorem Wk.kept (W : Wk p l e R s m args below meth c Z EL own ws nw T h cells slots) : Keep s.heap h ws := by obtain ⟨_, _, _, _, -, -, -, -, -, -, -, -, -, -, K, -⟩ := W; exact K
/-- a callee's contract: from the arguments as' and the heap h0 it returns a value v and a heap h' with Q v h'; of the cells of h0 at the most those at ws are written -/
def ConL (wl : List Cond) (l : Launch) (Z : State) (EL : List (String × Nat)) (y : MethodName) (bytes : ByteArray) (maxL : Nat) (ret : Option FieldType) (rm : Room) (as' : Array Value) (h0 : Heap) (ws : List Addr) (Q : Option Value → Heap → Prop) : Prop :=
  MetFree l y (head1 (Cond.code y bytes maxL ret :: wl) rm) (fun a U => a = as' ∧ Z.Warmed39 U.vm ∧ U.heap = h0 ∧ CHv Z EL U.vm h0 ∧ ∀ x ∈ ws, Safe Z EL U.vm h0 x) (fun _ _ _ _ _ => True)
    (fun _ U o U' => ∃ v L, o = .returned v ∧ (Q v U'.heap ∧ Fr Z.heap.size L ∧ Keep h0 U'.heap ws ∧ Ext Z.heap U'.heap) ∧ CHr Z EL U.vm U.heap U'.vm U'.heap ∧ ReturnedEndW U o U' L rm.cells rm.slots)
abbrev Con := ConL []
/-- what a contract's body is to come to -/
def Post (s : State) (Z : State) (EL : List (String × Nat)) (rm : Room) (h0 : Heap) (ws : List Addr) (Q : Option Value → Heap → Prop) (o : Outcome) (t : State) : Prop :=
  ∃ v L, o = .returned v ∧ (Q v t.heap ∧ Fr Z.heap.size L ∧ Keep h0 t.heap ws ∧ Ext Z.heap t.heap) ∧ CHr Z EL s.vm s.heap t.vm t.heap ∧ ReturnedEndW s o t L rm.cells rm.slots
theorem Con.of {wl : List Cond} {y : MethodName} {bytes : ByteArray} {maxL : Nat} {ret : Option FieldType} {rm : Room} {as' : Array Value} {h0 : Heap} {Q : Option Value → Heap → Prop} (Ls : Array Slot)
    (hy : plainFor y = true) (hE : EW Z a0 EL) (O : Ext Z.heap h0) (hws : ∀ x : Nat, x ∈ ws → Z.heap.size ≤ x ∧ x < h0.size) (hent : ∀ m, entryFrame m as' maxL = mkF m 0 Ls [])
    (body : ∀ (p : Program) (e : Env) (s : State) (m : MethodId) (below : List Frame) (meth : Method) (c : Code) (T : State), p.tables.exec = Jvm.exec → c.code = bytes → c.maxLocals = maxL → meth.name = y.name → meth.sig.returnType = ret → meth.locks = false → s.heap = h0 →
      Wk p l e rm s m as' below meth c Z EL y.cls ws [] T h0 0 0 → Gets p.tables e below (Post s Z EL rm h0 ws Q) T (mkF m 0 Ls [])) :
    ConL wl l Z EL y bytes maxL ret rm as' h0 ws Q := by
  refine MetFree.of_bodySF hy hisR ?_
  intro p e s m args below meth c s₁ Bd hml0 hP hK
  obtain ⟨rfl, hZ, hh, hC, hS⟩ := hP
  have hh' : s.heap = h0 := hh
  have hl : meth.locks = false := Bd.notSynchronized
  have e0 : s₁.heap = h0 := by rw [← hh, Bd.state]; rfl
  have X0 : Stand p l e rm s m args below meth c s₁ [] 0 0 := Stand.of_body Bd
  have W : Wk p l e rm s m args below meth c Z EL y.cls ws [] s₁ h0 0 0 :=
    ⟨s.vm, h0.size, [], a0, X0, e0, (State.WarmedH.refl s).since _, Nat.le_refl _, hZ, findClass_of_methodNamed Bd.named, hE, by rw [hh']; exact CHr.refl hC, Fr.nil _, O, by rw [hh']; exact Keep.refl _ _, fun x hx => ⟨(hws x hx).1, (hws x hx).2, hS x hx⟩, fun x hx => (nomatch hx)⟩
  obtain ⟨t, o, h1, h2, h3, h4⟩ := body p e s m below meth c s₁ Bd.exec Bd.bytes hml0 (name_of_methodNamed Bd.named Bd.method).1 Bd.returns hl hh' W
  exact ⟨t, o, by rw [hent m]; exact h1, h2, h3, h4⟩
/-! ends -/
theorem w_end {rm : Room} {h0 : Heap} {Q : Option Value → Heap → Prop} (W : Wk p l e R s m args below meth c Z EL own ws nw T h cells slots) (hh : s.heap = h0) {v : Option Value} {g : JFrame} (hl : meth.locks = false) (hv : meth.sig.returnType = none → v = none)
    (st : ∀ {vm0 : Vm} {locs : List Loc} {fs : List Frame}, Stand p l e R (s.setVm vm0) m args below meth c T locs cells slots → (∀ (f : JFrame) (acts : List Action), f.method = m → f.locked = none → f.entered = [] → (doReturn e (T.setTop f) acts v).1 = T.setFrames fs) → Steps p.tables e below (T.setTop g) (T.setFrames fs))
    (hc : cells ≤ rm.cells) (hs : slots ≤ rm.slots) (q : Q v h) : Gets p.tables e below (Post s Z EL rm h0 ws Q) T g := by
  obtain ⟨vm0, k0, locs, b0, X, eT, hS, hk, hZ, hown, hE, hC, hF, hO, hK, -, -⟩ := W
  obtain ⟨fs, h1, h2, h3, r1, r2, r3, r4⟩ := X.leaveW hS (by rw [eT]; exact hk) hv hl
  subst hh
  have hA := CHv.at X hZ hE hC.1
  refine ⟨_, _, st X h1, h2, h3, v, locs, rfl, ⟨?_, hF, ?_, ?_⟩, ?_, r1, r2, r3, r4.mono hc hs⟩
  · show Q v T.heap; rw [eT]; exact q
  · show Keep _ T.heap _; rw [eT]; exact hK
  · show Ext _ T.heap; rw [eT]; exact hO
  · show CHr Z EL s.vm s.heap T.vm T.heap
    rw [eT]
    exact hC.trans hA
theorem w_retI {rm : Room} {h0 : Heap} {Q : Option Value → Heap → Prop} {z : Int32} (W : Wk p l e R s m args below meth c Z EL own ws nw T h cells slots) (hx : p.tables.exec = Jvm.exec) (hh : s.heap = h0) (hl : meth.locks = false) (hret : meth.sig.returnType = some .int) (hd : decode c.code pc = .ok (.ireturn, 1)) (hc : cells ≤ rm.cells) (hs : slots ≤ rm.slots) (q : Q (some (.int z)) h) :
    Gets p.tables e below (Post s Z EL rm h0 ws Q) T (mkF m pc Ls (.int z :: st)) :=
  w_end W hh hl (fun q => by rw [hret] at q; cases q) (fun X hr => retOut X hx hret rfl (Or.inl ⟨rfl, Or.inl rfl, z, rfl⟩) hd hr) hc hs q
theorem w_retN {rm : Room} {h0 : Heap} {Q : Option Value → Heap → Prop} {z : Int32} {t : FieldType} (W : Wk p l e R s m args below meth c Z EL own ws nw T h cells slots) (hx : p.tables.exec = Jvm.exec) (hh : s.heap = h0) (hl : meth.locks = false) (hret : meth.sig.returnType = some t) (ht : t = .boolean ∨ t = .byte ∨ t = .char ∨ t = .short) (hd : decode c.code pc = .ok (.ireturn, 1)) (hc : cells ≤ rm.cells) (hs : slots ≤ rm.slots) (q : Q (some (.int (nar t z))) h) :
    Gets p.tables e below (Post s Z EL rm h0 ws Q) T (mkF m pc Ls (.int z :: st)) :=
  w_end W hh hl (fun q => by rw [hret] at q; cases q) (fun X hr => retN X hx hret ht hd hr) hc hs q
theorem w_retJ {rm : Room} {h0 : Heap} {Q : Option Value → Heap → Prop} {z : Int64} (W : Wk p l e R s m args below meth c Z EL own ws nw T h cells slots) (hx : p.tables.exec = Jvm.exec) (hh : s.heap = h0) (hl : meth.locks = false) (hret : meth.sig.returnType = some .long) (hd : decode c.code pc = .ok (.lreturn, 1)) (hc : cells ≤ rm.cells) (hs : slots ≤ rm.slots) (q : Q (some (.long z)) h) :
    Gets p.tables e below (Post s Z EL rm h0 ws Q) T (mkF m pc Ls (.long z :: st)) :=
  w_end W hh hl (fun q => by rw [hret] at q; cases q) (fun X hr => retOut X hx hret rfl (Or.inr (Or.inl ⟨rfl, rfl, z, rfl⟩)) hd hr) hc hs q
theorem w_retA {rm : Room} {h0 : Heap} {Q : Option Value → Heap → Prop} {w : Value} {t : FieldType} (W : Wk p l e R s m args below meth c Z EL own ws nw T h cells slots) (hx : p.tables.exec = Jvm.exec) (hh : s.heap = h0) (hl : meth.locks = false) (hret : meth.sig.returnType = some t) (ht : t.isReference = true) (hw : w.isRef = true) (hd : decode c.code pc = .ok (.areturn, 1)) (hc : cells ≤ rm.cells) (hs : slots ≤ rm.slots) (q : Q (some w) h) :
    Gets p.tables e below (Post s Z EL rm h0 ws Q) T (mkF m pc Ls (w :: st)) :=
  w_end W hh hl (fun q => by rw [hret] at q; cases q) (fun X hr => retOut X hx hret (by cases t <;> cases w <;> simp [FieldType.isReference, Value.isRef, narrow] at ht hw ⊢) (Or.inr (Or.inr (Or.inr (Or.inr ⟨rfl, ht, hw⟩)))) hd hr) hc hs q
theorem w_retV {rm : Room} {h0 : Heap} {Q : Option Value → Heap → Prop} (W : Wk p l e R s m args below meth c Z EL own ws nw T h cells slots) (hx : p.tables.exec = Jvm.exec) (hh : s.heap = h0) (hl : meth.locks = false) (hret : meth.sig.returnType = none) (hd : decode c.code pc = .ok (.return_, 1)) (hc : cells ≤ rm.cells) (hs : slots ≤ rm.slots) (q : Q none h) :
    Gets p.tables e below (Post s Z EL rm h0 ws Q) T (mkF m pc Ls []) :=
  w_end W hh hl (fun _ => rfl) (fun X hr => X.returnOut hx hret hd hr) hc hs q
/-! steps that leave the heap as it is -/
theorem w_get (W : Wk p l e R s m args below meth c Z EL own ws nw T h cells slots) (hx : p.tables.exec = Jvm.exec) {R0 O n d : String} {index : Nat} (w : (Cond.fieldLink own index R0 n d).before a0 Z = true) (via : Via Z R0 O n d) {a : Nat} {v : Value} (F : Fld Z h a O n d v) (hd : decode c.code pc = .ok (.getfield index, 3)) (hp : pc + 3 = pc')
    (k : ∀ T', Wk p l e R s m args below meth c Z EL own ws nw T' h cells slots → Gets p.tables e below P T' (mkF m pc' Ls (v :: st))) : Gets p.tables e below P T (mkF m pc Ls (.ref a :: st)) := by
  subst hp
  obtain ⟨vm0, k0, locs, b0, X, eT, hS, hk, hZ, hown, r⟩ := W
  obtain ⟨T', X', e', stp⟩ := getF X hx hZ hown (host := "") (Or.inl w) via eT F (g := mkF m pc Ls (.ref a :: st)) rfl rfl hd
  exact (k T' ⟨vm0, k0, locs, b0, X', e', hS, hk, hZ, hown, r⟩).by stp
theorem w_getS (W : Wk p l e R s m args below meth c Z EL own ws nw T h cells slots) (hx : p.tables.exec = Jvm.exec) {R0 O n d : String} {index : Nat} (w : (Cond.fieldLink own index R0 n d).before a0 Z = true) (via : Via Z R0 O n d) {v : Value} (F : Sta Z Z.heap O n d v) (hd : decode c.code pc = .ok (.getstatic index, 3)) (hp : pc + 3 = pc')
    (k : ∀ T', Wk p l e R s m args below meth c Z EL own ws nw T' h cells slots → Gets p.tables e below P T' (mkF m pc' Ls (v :: st))) : Gets p.tables e below P T (mkF m pc Ls st) := by
  subst hp
  have O := W.old
  obtain ⟨vm0, k0, locs, b0, X, eT, hS, hk, hZ, hown, r⟩ := W
  obtain ⟨T', X', e', stp⟩ := getS X hx hZ hown (host := "") w via eT (F.ext O) (g := mkF m pc Ls st) rfl hd
  exact (k T' ⟨vm0, k0, locs, b0, X', e', hS, hk, hZ, hown, r⟩).by stp
theorem w_ldcI (W : Wk p l e R s m args below meth c Z EL own ws nw T h cells slots) (hx : p.tables.exec = Jvm.exec) {index : Nat} {v : Int32} (w : (Cond.constant own index v).before a0 Z = true) (hd : decode c.code pc = .ok (.ldc index, 2)) (hp : pc + 2 = pc')
    (k : Gets p.tables e below P T (mkF m pc' Ls (.int v :: st))) : Gets p.tables e below P T (mkF m pc Ls st) := by
  subst hp
  obtain ⟨vm0, k0, locs, b0, X, eT, hS, hk, hZ, hown, r⟩ := W
  exact k.by fun t q => Jvm.Stand.ldcI X hx hown (mv (s := s.setVm vm0) hZ w) (g := mkF m pc Ls st) rfl hd q
theorem w_ldc2J (W : Wk p l e R s m args below meth c Z EL own ws nw T h cells slots) (hx : p.tables.exec = Jvm.exec) {index : Nat} {v : Int64} (w : (Cond.constantLong own index v).before a0 Z = true) (hd : decode c.code pc = .ok (.ldc2_w index, 3)) (hp : pc + 3 = pc')
    (k : Gets p.tables e below P T (mkF m pc' Ls (.long v :: st))) : Gets p.tables e below P T (mkF m pc Ls st) := by
  subst hp
  obtain ⟨vm0, k0, locs, b0, X, eT, hS, hk, hZ, hown, r⟩ := W
  exact k.by fun t q => Jvm.Stand.ldc2J X hx hown (mv (s := s.setVm vm0) hZ w) (g := mkF m pc Ls st) rfl hd q
theorem w_acmp (W : Wk p l e R s m args below meth c Z EL own ws nw T h cells slots) (hx : p.tables.exec = Jvm.exec) {cd : ACond} {x y : Value} {o : Int} (h1 : x.isRef = true) (h2 : y.isRef = true) (same : Bool) (hd : decode c.code pc = .ok (.if_acmp cd o, 3)) (hq : decide (x = y) = same) (ho : 0 ≤ (pc : Int) + o) (hp : pc' = if acV cd same = true then ((pc : Int) + o).toNat else pc + 3)
    (k : Gets p.tables e below P T (mkF m pc' Ls st)) : Gets p.tables e below P T (mkF m pc Ls (y :: x :: st)) := by
  obtain ⟨vm0, k0, locs, b0, X, r⟩ := W
  exact k.by fun t q => Jvm.RoadKit.acmp (g := mkF m pc Ls (y :: x :: st)) X hx rfl h1 h2 (pc0 := pc) (pc' := pc') rfl hd rfl hq ho hp q
theorem w_cast (W : Wk p l e R s m args below meth c Z EL own ws nw T h cells slots) (hx : p.tables.exec = Jvm.exec) {K : String} {index : Nat} (w : (Cond.classLink own index K).before a0 Z = true) {a : Nat} (F : Ins Z h a K true) (hd : decode c.code pc = .ok (.checkcast index, 3)) (hp : pc + 3 = pc')
    (k : ∀ T', Wk p l e R s m args below meth c Z EL own ws nw T' h cells slots → Gets p.tables e below P T' (mkF m pc' Ls (.ref a :: st))) : Gets p.tables e below P T (mkF m pc Ls (.ref a :: st)) := by
  subst hp
  obtain ⟨vm0, k0, locs, b0, X, eT, hS, hk, hZ, hown, r⟩ := W
  obtain ⟨T', X', e', stp⟩ := castY X hx hZ hown w eT F (g := mkF m pc Ls (.ref a :: st)) rfl rfl hd
  exact (k T' ⟨vm0, k0, locs, b0, X', e', hS, hk, hZ, hown, r⟩).by stp
theorem w_inst (W : Wk p l e R s m args below meth c Z EL own ws nw T h cells slots) (hx : p.tables.exec = Jvm.exec) {K : String} {index : Nat} (w : (Cond.classLink own index K).before a0 Z = true) {a : Nat} (F : Ins Z h a K true) (hd : decode c.code pc = .ok (.instanceof index, 3)) (hp : pc + 3 = pc')
    (k : ∀ T', Wk p l e R s m args below meth c Z EL own ws nw T' h cells slots → Gets p.tables e below P T' (mkF m pc' Ls (.int 1 :: st))) : Gets p.tables e below P T (mkF m pc Ls (.ref a :: st)) := by
  subst hp
  obtain ⟨vm0, k0, locs, b0, X, eT, hS, hk, hZ, hown, r⟩ := W
  obtain ⟨T', X', e', stp⟩ := instY X hx hZ hown w eT F (g := mkF m pc Ls (.ref a :: st)) rfl rfl hd
  exact (k T' ⟨vm0, k0, locs, b0, X', e', hS, hk, hZ, hown, r⟩).by stp
theorem w_len (W : Wk p l e R s m args below meth c Z EL own ws nw T h cells slots) (hx : p.tables.exec = Jvm.exec) {a : Nat} {ty : FieldType} {vs : List Value} (F : Ary Z h a ty vs) (hd : decode c.code pc = .ok (.arraylength, 1)) (hp : pc + 1 = pc')
    (k : Gets p.tables e below P T (mkF m pc' Ls (.int vs.length.toInt32 :: st))) : Gets p.tables e below P T (mkF m pc Ls (.ref a :: st)) := by
  subst hp
  obtain ⟨vm0, k0, locs, b0, X, eT, hS, hk, hZ, hown, r⟩ := W
  obtain ⟨cl, A, e1, -, -⟩ := F
  refine k.by fun t q => X.arraylength hx (by rw [eT]; exact A.1) (State.isArrayOf_alike hZ.alike A.2.1) (g := mkF m pc Ls (.ref a :: st)) rfl rfl hd t ?_
  rw [size_of_list e1]; exact q
theorem in_of {cl : Cell} {vs : List Value} {j : Int32} {v : Value} (e : cl.slots.toList = vs) (hj : ¬ j < 0) (hv : vs[j.toNatClampNeg]? = some v) : ¬ (j < 0 ∨ cl.slots.size ≤ j.toNatClampNeg) ∧ cl.slots[j.toNatClampNeg]? = some v := by
  refine ⟨fun q => q.elim hj fun q => ?_, by rw [at_of_list e]; exact hv⟩
  have := (List.getElem?_eq_some_iff.mp hv).1
  rw [size_of_list e] at q; omega
theorem w_caload (W : Wk p l e R s m args below meth c Z EL own ws nw T h cells slots) (hx : p.tables.exec = Jvm.exec) {a : Nat} {vs : List Value} {j : Int32} {v : Value} (F : Ary Z h a .char vs) (hj : ¬ j < 0) (hv : vs[j.toNatClampNeg]? = some v) (hd : decode c.code pc = .ok (.caload, 1)) (hp : pc + 1 = pc')
    (k : Gets p.tables e below P T (mkF m pc' Ls (v :: st))) : Gets p.tables e below P T (mkF m pc Ls (.int j :: .ref a :: st)) := by
  subst hp
  obtain ⟨vm0, k0, locs, b0, X, eT, hS, hk, hZ, hown, r⟩ := W
  obtain ⟨cl, A, e1, -, -⟩ := F
  obtain ⟨q1, q2⟩ := in_of e1 hj hv
  exact k.by fun t q => X.caload hx (by rw [eT]; exact A.1) (State.isArrayOf_alike hZ.alike A.2.1) A.2.2 q1 q2 (g := mkF m pc Ls (.int j :: .ref a :: st)) rfl rfl hd t q
theorem w_baload (W : Wk p l e R s m args below meth c Z EL own ws nw T h cells slots) (hx : p.tables.exec = Jvm.exec) {a : Nat} {vs : List Value} {j : Int32} {v : Value} (F : Ary Z h a .byte vs) (hj : ¬ j < 0) (hv : vs[j.toNatClampNeg]? = some v) (hd : decode c.code pc = .ok (.baload, 1)) (hp : pc + 1 = pc')
    (k : Gets p.tables e below P T (mkF m pc' Ls (v :: st))) : Gets p.tables e below P T (mkF m pc Ls (.int j :: .ref a :: st)) := by
  subst hp
  obtain ⟨vm0, k0, locs, b0, X, eT, hS, hk, hZ, hown, r⟩ := W
  obtain ⟨cl, A, e1, -, -⟩ := F
  obtain ⟨q1, q2⟩ := in_of e1 hj hv
  exact k.by fun t q => X.baloadBytes hx (by rw [eT]; exact A.1) (State.isArrayOf_alike hZ.alike A.2.1) A.2.2 q1 q2 (g := mkF m pc Ls (.int j :: .ref a :: st)) rfl rfl hd t q
theorem w_iaload (W : Wk p l e R s m args below meth c Z EL own ws nw T h cells slots) (hx : p.tables.exec = Jvm.exec) {a : Nat} {vs : List Value} {j : Int32} {v : Value} (F : Ary Z h a .int vs) (hj : ¬ j < 0) (hv : vs[j.toNatClampNeg]? = some v) (hd : decode c.code pc = .ok (.iaload, 1)) (hp : pc + 1 = pc')
    (k : Gets p.tables e below P T (mkF m pc' Ls (v :: st))) : Gets p.tables e below P T (mkF m pc Ls (.int j :: .ref a :: st)) := by
  subst hp
  obtain ⟨vm0, k0, locs, b0, X, eT, hS, hk, hZ, hown, r⟩ := W
  obtain ⟨cl, A, e1, -, -⟩ := F
  obtain ⟨q1, q2⟩ := in_of e1 hj hv
  exact k.by fun t q => X.iaload hx (by rw [eT]; exact A.1) (State.isArrayOf_alike hZ.alike A.2.1) A.2.2 q1 q2 (g := mkF m pc Ls (.int j :: .ref a :: st)) rfl rfl hd t q
theorem w_aaload (W : Wk p l e R s m args below meth c Z EL own ws nw T h cells slots) (hx : p.tables.exec = Jvm.exec) {a : Nat} {ty : FieldType} {vs : List Value} {j : Int32} {v : Value} (F : Ary Z h a ty vs) (hty : ty.isReference = true) (hj : ¬ j < 0) (hv : vs[j.toNatClampNeg]? = some v) (hd : decode c.code pc = .ok (.aaload, 1)) (hp : pc + 1 = pc')
    (k : Gets p.tables e below P T (mkF m pc' Ls (v :: st))) : Gets p.tables e below P T (mkF m pc Ls (.int j :: .ref a :: st)) := by
  subst hp
  obtain ⟨vm0, k0, locs, b0, X, eT, hS, hk, hZ, hown, r⟩ := W
  obtain ⟨cl, A, e1, -, -⟩ := F
  obtain ⟨q1, q2⟩ := in_of e1 hj hv
  exact k.by fun t q => X.aaload hx (by rw [eT]; exact A.1) (State.isArrayOf_alike hZ.alike A.2.1) hty A.2.2 q1 q2 (g := mkF m pc Ls (.int j :: .ref a :: st)) rfl rfl hd t q
theorem w_aaloadA (W : Wk p l e R s m args below meth c Z EL own ws nw T h cells slots) (hx : p.tables.exec = Jvm.exec) {a : Nat} {ty : FieldType} {cl : Cell} {j : Int32} {v : Value} (A : Arr Z h a cl ty) (hty : ty.isReference = true) (hin : ¬ (j < 0 ∨ cl.slots.size ≤ j.toNatClampNeg)) (hv : cl.slots[j.toNatClampNeg]? = some v) (hd : decode c.code pc = .ok (.aaload, 1)) (hp : pc + 1 = pc')
    (k : Gets p.tables e below P T (mkF m pc' Ls (v :: st))) : Gets p.tables e below P T (mkF m pc Ls (.int j :: .ref a :: st)) := by
  subst hp
  obtain ⟨vm0, k0, locs, b0, X, eT, hS, hk, hZ, hown, r⟩ := W
  exact k.by fun t q => X.aaload hx (by rw [eT]; exact A.1) (State.isArrayOf_alike hZ.alike A.2.1) hty A.2.2 hin hv (g := mkF m pc Ls (.int j :: .ref a :: st)) rfl rfl hd t q
theorem w_initO (W : Wk p l e R s m args below meth c Z EL own ws nw T h cells slots) (hx : p.tables.exec = Jvm.exec) {idx : Nat} (w1 : (Cond.methodLink own idx Lib.objectInit).before a0 Z = true) (w2 : (Cond.instanceMethod Lib.objectInit).before a0 Z = true) (w3 : (Cond.code Lib.objectInit ⟨#[0xb1]⟩ 1 none).before a0 Z = true) {a : Nat} (hsz : Ls.size = c.maxLocals) (hd : decode c.code pc = .ok (.invokespecial idx, 3)) (hf : 1 ≤ R.frames) (hW : (st.map fun v => v.category).sum + 12 ≤ R.locals) (hp : pc + 3 = pc')
    (k : ∀ T', Wk p l e R s m args below meth c Z EL own ws nw T' h cells slots → Gets p.tables e below P T' (mkF m pc' Ls st)) : Gets p.tables e below P T (mkF m pc Ls (.ref a :: st)) := by
  subst hp
  obtain ⟨vm0, k0, locs, b0, X, eT, hS, hk, hZ, hown, r⟩ := W
  obtain ⟨T', X', e', stp⟩ := initO X hx hZ hown w1 w2 w3 eT (g := mkF m pc Ls (.ref a :: st)) rfl hsz rfl hd hf (W := (st.map fun v => v.category).sum) (by show 2 * 0 + _ ≤ _; omega) hW
  exact (k T' ⟨vm0, k0, locs, b0, X', e', hS, hk, hZ, hown, r⟩).by stp
/-! steps that move the heap -/
theorem w_new (W : Wk p l e R s m args below meth c Z EL own ws nw T h cells slots) (hx : p.tables.exec = Jvm.exec) {C : String} {index n : Nat} (w : (Cond.classLink own index C).before a0 Z = true) (wi : (Cond.instantiable C n).before a0 Z = true) (wz : (Cond.initialized C).before a0 Z = true) (hd : decode c.code pc = .ok (.new index, 3)) (hc : cells + 1 ≤ R.cells) (hl : slots + n ≤ R.slots) (hp : pc + 3 = pc')
    (k : ∀ (T' : State) (h' : Heap) (b : Nat), b = h.size → Wk p l e R s m args below meth c Z EL own ws (b :: nw) T' h' (cells + 1) (slots + n) → Keep h h' [] → Exa Z h' b C → (∀ {O nm d : String} {ty : FieldType}, Laid Z a0 C O nm d → parseFieldDescriptor d = some ty → Fld Z h' b O nm d (defaultValue ty)) → Gets p.tables e below P T' (mkF m pc' Ls (.ref b :: st))) : Gets p.tables e below P T (mkF m pc Ls st) := by
  subst hp
  obtain ⟨vm0, k0, locs, b0, X, eT, hS, hk, hZ, hown, hE, hC, hF, hO, hK, n1, n2⟩ := W
  obtain ⟨T', h', X', e', E, A, D, -, stp⟩ := newO X hx hZ hown w wi wz eT (g := mkF m pc Ls st) rfl hd hc hl
  have hn : h.size < h'.size := A.lt
  have hs : s.heap.size ≤ h.size := hK.1
  refine (k T' h' h.size rfl ⟨vm0, k0, locs, b0, X', e', hS, Nat.le_trans hk E.1, hZ, hown, hE, hC.trans (CHr.ext E hC.1), hF, ⟨Nat.le_trans hO.1 E.1, fun a c q => E.2 a c (hO.2 a c q)⟩, hK.ext E, fun x hx => ?_, fun x hx => ?_⟩ ((Keep.refl h []).ext E) A D).by stp
  · obtain ⟨a, b, c⟩ := n1 x hx
    exact ⟨a, Nat.lt_of_lt_of_le b E.1, c.ext E hC.1⟩
  · rcases List.mem_cons.mp hx with rfl | hx
    · exact ⟨hs, hO.1, hn, Safe.ext E hC.1 (Safe.new (Nat.le_refl _))⟩
    · obtain ⟨a, b, c, d⟩ := n2 x hx
      exact ⟨a, b, Nat.lt_of_lt_of_le c E.1, d.ext E hC.1⟩
theorem w_newarr (W : Wk p l e R s m args below meth c Z EL own ws nw T h cells slots) (hx : p.tables.exec = Jvm.exec) {aty : ArrayType} (w : (Cond.arrayClass (newarray.typeOf aty)).before a0 Z = true) {n : Int32} (hd : decode c.code pc = .ok (.newarray aty, 2)) (hn : ¬ n < 0) {cap : Nat} (hcap : n.toNatClampNeg ≤ cap) (hb : cap * 8 ≤ 536870912) (hc : cells + 1 ≤ R.cells) (hl : slots + cap ≤ R.slots) (hf : fits (newarray.typeOf aty) (defaultValue (newarray.typeOf aty)) = true) (hp : pc + 2 = pc')
    (k : ∀ (T' : State) (h' : Heap) (b : Nat), b = h.size → Wk p l e R s m args below meth c Z EL own ws (b :: nw) T' h' (cells + 1) (slots + cap) → Keep h h' [] → Ary Z h' b (newarray.typeOf aty) (List.replicate n.toNatClampNeg (defaultValue (newarray.typeOf aty))) → Gets p.tables e below P T' (mkF m pc' Ls (.ref b :: st))) : Gets p.tables e below P T (mkF m pc Ls (.int n :: st)) := by
  subst hp
  obtain ⟨vm0, k0, locs, b0, X, eT, hS, hk, hZ, hown, hE, hC, hF, hO, hK, n1, n2⟩ := W
  obtain ⟨T', h', cA, X', e', E, A, stp⟩ := newP X hx hZ w eT (g := mkF m pc Ls (.int n :: st)) rfl hd rfl hn hcap hb hc hl
  have hn' : h.size < h'.size := A.lt
  have hs : s.heap.size ≤ h.size := hK.1
  refine (k T' h' h.size rfl ⟨vm0, k0, locs, b0, X', e', hS, Nat.le_trans hk E.1, hZ, hown, hE, hC.trans (CHr.ext E hC.1), hF, ⟨Nat.le_trans hO.1 E.1, fun a c q => E.2 a c (hO.2 a c q)⟩, hK.ext E, fun x hx => ?_, fun x hx => ?_⟩ ((Keep.refl h []).ext E) (Ary.made A hn hf)).by stp
  · obtain ⟨a, b, c⟩ := n1 x hx
    exact ⟨a, Nat.lt_of_lt_of_le b E.1, c.ext E hC.1⟩
  · rcases List.mem_cons.mp hx with rfl | hx
    · exact ⟨hs, hO.1, hn', Safe.ext E hC.1 (Safe.new (Nat.le_refl _))⟩
    · obtain ⟨a, b, c, d⟩ := n2 x hx
      exact ⟨a, b, Nat.lt_of_lt_of_le c E.1, d.ext E hC.1⟩
theorem Wk.wrote {vm0 : Vm} {k0 : Nat} {locs : List Loc} {b0 : Array Value} {T' : State} {h' : Heap} {a : Nat} {sl : Nat} {v : Value} (ha : a ∈ ws ++ nw) (WW : Wr h h' a sl v) (X' : Stand p l e R (s.setVm vm0) m args below meth c T' (locs ++ [⟨a, sl⟩]) cells slots) (e' : T'.heap = h')
    (r : s.Since vm0 k0 ∧ k0 ≤ h.size ∧ Z.Warmed39 vm0 ∧ vm0.findClass own = some m.cls ∧ EW Z b0 EL ∧ CHr Z EL s.vm s.heap vm0 h ∧ Fr Z.heap.size locs ∧ Ext Z.heap h ∧ Keep s.heap h ws ∧ (∀ x : Nat, x ∈ ws → Z.heap.size ≤ x ∧ x < h.size ∧ Safe Z EL vm0 h x) ∧ (∀ x : Nat, x ∈ nw → s.heap.size ≤ x ∧ Z.heap.size ≤ x ∧ x < h.size ∧ Safe Z EL vm0 h x)) :
    Wk p l e R s m args below meth c Z EL own ws nw T' h' cells slots := by
  obtain ⟨hS, hk, hZ, hown, hE, hC, hF, hO, hK, n1, n2⟩ := r
  have sz := WW.size
  have key : Z.heap.size ≤ a ∧ Safe Z EL vm0 h a ∧ (a ∈ ws ∨ s.heap.size ≤ a) := by
    rcases List.mem_append.mp ha with q | q
    · exact ⟨(n1 a q).1, (n1 a q).2.2, Or.inl q⟩
    · exact ⟨(n2 a q).2.1, (n2 a q).2.2.2, Or.inr (n2 a q).1⟩
  have K1 : Keep h h' [a] := Keep.of_wr WW
  refine ⟨vm0, k0, locs ++ [⟨a, sl⟩], b0, X', e', hS, by omega, hZ, hown, hE, hC.trans (CHr.wr WW key.2.1 hC.1), Fr.snoc X' hF key.1, ⟨by have := hO.1; omega, fun x cc q => K1.2.1 x cc (hO.2 x cc q) fun z => ?_⟩, hK.wr WW key.2.2, fun x hx => ?_, fun x hx => ?_⟩
  · cases List.mem_singleton.mp z
    have := (Array.getElem?_eq_some_iff.mp q).1
    omega
  · obtain ⟨q1, q2, q3⟩ := n1 x hx
    exact ⟨q1, by omega, Safe.wr WW key.2.1 hC.1 q3⟩
  · obtain ⟨q1, q2, q3, q4⟩ := n2 x hx
    exact ⟨q1, q2, by omega, Safe.wr WW key.2.1 hC.1 q4⟩
theorem w_put (W : Wk p l e R s m args below meth c Z EL own ws nw T h cells slots) (hx : p.tables.exec = Jvm.exec) {R0 O n d C : String} {index kk : Nat} {ty : FieldType} (w : (Cond.fieldLink own index R0 n d).before a0 Z = true) (via : Via Z R0 O n d) {a : Nat} {v old : Value} (F : Fld Z h a O n d old) (E : Exa Z h a C) (L : (Cond.lays C O n d).before a0 Z = true ∨ ((Cond.laysFinal C O n d).before a0 Z = true ∧ own = O ∧ meth.name = "<init>")) (wi : (Cond.instantiable C kk).before a0 Z = true)
    (hty : parseFieldDescriptor d = some ty) (hn : narrow ty v = v) (hf : fits ty v = true) (ha : a ∈ ws ++ nw) (hd : decode c.code pc = .ok (.putfield index, 3)) (hp : pc + 3 = pc')
    (k : ∀ T' h', Wk p l e R s m args below meth c Z EL own ws nw T' h' cells slots → Keep h h' [a] → Wr h h' a (Jvm.RoadKit.slotOf Z O n d) v → Fld Z h' a O n d v → Exa Z h' a C → Gets p.tables e below P T' (mkF m pc' Ls st)) : Gets p.tables e below P T (mkF m pc Ls (v :: .ref a :: st)) := by
  subst hp
  obtain ⟨vm0, k0, locs, b0, X, eT, r⟩ := W
  obtain ⟨T', h', X', e', WW, stp⟩ := putF X hx r.2.2.1 r.2.2.2.1 (host := "") (Or.inl w) via eT F E L wi hty hn hf (g := mkF m pc Ls (v :: .ref a :: st)) rfl rfl hd
  exact (k T' h' (Wk.wrote ha WW X' e' r) (Keep.of_wr WW) WW (F.same WW) (E.wr WW)).by stp
theorem w_putN (W : Wk p l e R s m args below meth c Z EL own ws nw T h cells slots) (hx : p.tables.exec = Jvm.exec) {R0 O n d C : String} {index kk : Nat} {ty : FieldType} (w : (Cond.fieldLink own index R0 n d).before a0 Z = true) (via : Via Z R0 O n d) {a : Nat} {v v' old : Value} (F : Fld Z h a O n d old) (E : Exa Z h a C) (L : (Cond.lays C O n d).before a0 Z = true ∨ ((Cond.laysFinal C O n d).before a0 Z = true ∧ own = O ∧ meth.name = "<init>")) (wi : (Cond.instantiable C kk).before a0 Z = true)
    (hty : parseFieldDescriptor d = some ty) (hn : narrow ty v = v') (hf : fits ty v' = true) (ha : a ∈ ws ++ nw) (hd : decode c.code pc = .ok (.putfield index, 3)) (hp : pc + 3 = pc')
    (k : ∀ T' h', Wk p l e R s m args below meth c Z EL own ws nw T' h' cells slots → Keep h h' [a] → Wr h h' a (Jvm.RoadKit.slotOf Z O n d) v' → Fld Z h' a O n d v' → Exa Z h' a C → Gets p.tables e below P T' (mkF m pc' Ls st)) : Gets p.tables e below P T (mkF m pc Ls (v :: .ref a :: st)) := by
  subst hp
  obtain ⟨vm0, k0, locs, b0, X, eT, r⟩ := W
  obtain ⟨T', h', X', e', WW, stp⟩ := putFN X hx r.2.2.1 r.2.2.2.1 w via eT F E L wi hty hn hf (g := mkF m pc Ls (v :: .ref a :: st)) rfl rfl hd
  exact (k T' h' (Wk.wrote ha WW X' e' r) (Keep.of_wr WW) WW (F.same WW) (E.wr WW)).by stp
theorem w_castore (W : Wk p l e R s m args below meth c Z EL own ws nw T h cells slots) (hx : p.tables.exec = Jvm.exec) {a : Nat} {vs : List Value} {j x : Int32} (F : Ary Z h a .char vs) (hj : ¬ j < 0) (hi : j.toNatClampNeg < vs.length) (ha : a ∈ ws ++ nw) {x' : Int32} (hq : nar .char x = x') (hd : decode c.code pc = .ok (.castore, 1)) (hp : pc + 1 = pc')
    (k : ∀ T' h', Wk p l e R s m args below meth c Z EL own ws nw T' h' cells slots → Keep h h' [a] → Ary Z h' a .char (vs.set j.toNatClampNeg (.int x')) → Gets p.tables e below P T' (mkF m pc' Ls st)) : Gets p.tables e below P T (mkF m pc Ls (.int x :: .int j :: .ref a :: st)) := by
  subst hp; subst hq
  obtain ⟨vm0, k0, locs, b0, X, eT, r⟩ := W
  obtain ⟨cl, A, e1, e2, e3⟩ := F
  obtain ⟨T', h', X', e', WW, stp⟩ := stC X hx r.2.2.1 eT A (j := j) (x := x) (fun q => q.elim hj fun q => by rw [size_of_list e1] at q; omega) (g := mkF m pc Ls (.int x :: .int j :: .ref a :: st)) rfl rfl hd
  exact (k T' h' (Wk.wrote ha WW X' e' r) (Keep.of_wr WW) (Ary.wrote A e1 e2 e3 (fits_nar_char x) WW)).by stp
theorem w_bastore (W : Wk p l e R s m args below meth c Z EL own ws nw T h cells slots) (hx : p.tables.exec = Jvm.exec) {a : Nat} {vs : List Value} {j x : Int32} (F : Ary Z h a .byte vs) (hj : ¬ j < 0) (hi : j.toNatClampNeg < vs.length) (ha : a ∈ ws ++ nw) {x' : Int32} (hq : x.toInt8.toInt32 = x') (hd : decode c.code pc = .ok (.bastore, 1)) (hp : pc + 1 = pc')
    (k : ∀ T' h', Wk p l e R s m args below meth c Z EL own ws nw T' h' cells slots → Keep h h' [a] → Ary Z h' a .byte (vs.set j.toNatClampNeg (.int x')) → Gets p.tables e below P T' (mkF m pc' Ls st)) : Gets p.tables e below P T (mkF m pc Ls (.int x :: .int j :: .ref a :: st)) := by
  subst hp; subst hq
  obtain ⟨vm0, k0, locs, b0, X, eT, r⟩ := W
  obtain ⟨cl, A, e1, e2, e3⟩ := F
  obtain ⟨T', h', X', e', WW, stp⟩ := stB X hx r.2.2.1 eT A (j := j) (x := x) (fun q => q.elim hj fun q => by rw [size_of_list e1] at q; omega) (g := mkF m pc Ls (.int x :: .int j :: .ref a :: st)) rfl rfl hd
  exact (k T' h' (Wk.wrote ha WW X' e' r) (Keep.of_wr WW) (Ary.wrote A e1 e2 e3 (fits_nar_byte x) WW)).by stp
theorem w_iastore (W : Wk p l e R s m args below meth c Z EL own ws nw T h cells slots) (hx : p.tables.exec = Jvm.exec) {a : Nat} {vs : List Value} {j x : Int32} (F : Ary Z h a .int vs) (hj : ¬ j < 0) (hi : j.toNatClampNeg < vs.length) (ha : a ∈ ws ++ nw) (hd : decode c.code pc = .ok (.iastore, 1)) (hp : pc + 1 = pc')
    (k : ∀ T' h', Wk p l e R s m args below meth c Z EL own ws nw T' h' cells slots → Keep h h' [a] → Ary Z h' a .int (vs.set j.toNatClampNeg (.int x)) → Gets p.tables e below P T' (mkF m pc' Ls st)) : Gets p.tables e below P T (mkF m pc Ls (.int x :: .int j :: .ref a :: st)) := by
  subst hp
  obtain ⟨vm0, k0, locs, b0, X, eT, r⟩ := W
  obtain ⟨cl, A, e1, e2, e3⟩ := F
  obtain ⟨T', h', X', e', WW, stp⟩ := stI X hx r.2.2.1 eT A (j := j) (x := x) (fun q => q.elim hj fun q => by rw [size_of_list e1] at q; omega) (g := mkF m pc Ls (.int x :: .int j :: .ref a :: st)) rfl rfl hd
  exact (k T' h' (Wk.wrote ha WW X' e' r) (Keep.of_wr WW) (Ary.wrote A e1 e2 e3 rfl WW)).by stp
/-! calls -/
theorem backC {y : MethodName} {bytes : ByteArray} {maxL : Nat} {ret : Option FieldType} {rm : Room} {len W : Nat} {as' : Array Value} {Q : Option Value → Heap → Prop} {vm0 : Vm} {wsc : List Addr}
    (hM : Con l Z EL y bytes maxL ret rm as' h wsc Q) (hZ : Z.Warmed39 vm0) (wc : (Cond.code y bytes maxL ret).before a0 Z = true) (wz : (Cond.initialized y.cls).before a0 Z = true) (hf : rm.frames + 1 ≤ R.frames) (hl : W + (maxL + 11) + rm.locals ≤ R.locals) {b0 : Array Value} (hEL : EW Z b0 EL) (H : CHv Z EL vm0 h) (hs : ∀ x : Nat, x ∈ wsc → x < h.size ∧ Safe Z EL vm0 h x) :
    BackS l R p e below (s.setVm vm0) args y len W (fun A a => a = as' ∧ A.U.heap = h ∧ A.cells + rm.cells ≤ R.cells ∧ A.slots + rm.slots ≤ R.slots)
      (fun A _ v B => ∃ L, (Q v B.U.heap ∧ Fr Z.heap.size L ∧ Keep h B.U.heap wsc ∧ Ext Z.heap B.U.heap) ∧ B.locs = A.locs ++ L ∧ B.cells = A.cells + rm.cells ∧ B.slots = A.slots + rm.slots ∧ CHr Z EL vm0 h B.U.vm B.U.heap) :=
  BackS.of_freeW (bytes := bytes) (maxL := maxL) (ret := ret) (E := fun _ first o t L k n => k = rm.cells ∧ n = rm.slots ∧ (∃ v, o = .returned v ∧ (Q v t.heap ∧ Fr Z.heap.size L ∧ Keep h t.heap wsc ∧ Ext Z.heap t.heap)) ∧ CHr Z EL first.vm first.heap t.vm t.heap) hM hf hl
    (fun m meth c A a Y hp => have hU : Z.Warmed39 A.U.vm := wtrans (s := s.setVm vm0) hZ Y.warmed
      ⟨by show (Cond.and _ .tt).before a A.U = true; rw [Cond.before_and, mv hU wc]; rfl, mv hU wc, mv hU wz, hp.2.2.1, hp.2.2.2⟩)
    (fun m meth c A a g mk Y hp => ⟨hp.1, wtrans (s := s.setVm vm0) hZ Y.warmed, hp.2.1, (CHv.at Y hZ hEL H).1, fun x hx => (CHv.at Y hZ hEL H).safe (hs x hx).1 (hs x hx).2⟩) (fun _ _ _ _ _ _ _ _ _ => trivial)
    (fun _ _ _ _ ⟨v, L, h1, h2, h3, h4⟩ => ⟨L, _, _, h4, rfl, rfl, ⟨v, h1, h2⟩, h3⟩)
    (fun m meth c A a g mk v t L k n Y hp _ _ ⟨e1, e2, ⟨v', e3, e4⟩, e5⟩ => by
      cases e3; subst e1 e2
      refine ⟨L, e4, rfl, rfl, rfl, (CHv.at Y hZ hEL H).trans ?_⟩
      rw [← hp.2.1]; exact e5)
theorem Wk.called {vm0 : Vm} {k0 : Nat} {locs L : List Loc} {b0 : Array Value} {T' : State} {h' : Heap} {wsc : List Addr} {n c' s' : Nat} (hw : ∀ x ∈ wsc, x ∈ ws ++ nw) (X' : Stand p l e R ((s.setVm vm0).setVm T'.vm) m args below meth c T' (locs ++ L) c' s') (e' : T'.heap = h') (h2 : (s.setVm vm0).Since T'.vm n) (hn : n ≤ h'.size) (hln : h.size ≤ n) (F : Fr Z.heap.size L) (K : Keep h h' wsc) (O' : Ext Z.heap h') (C' : CHr Z EL vm0 h T'.vm h')
    (r : s.Since vm0 k0 ∧ k0 ≤ h.size ∧ Z.Warmed39 vm0 ∧ vm0.findClass own = some m.cls ∧ EW Z b0 EL ∧ CHr Z EL s.vm s.heap vm0 h ∧ Fr Z.heap.size locs ∧ Ext Z.heap h ∧ Keep s.heap h ws ∧ (∀ x : Nat, x ∈ ws → Z.heap.size ≤ x ∧ x < h.size ∧ Safe Z EL vm0 h x) ∧ (∀ x : Nat, x ∈ nw → s.heap.size ≤ x ∧ Z.heap.size ≤ x ∧ x < h.size ∧ Safe Z EL vm0 h x)) :
    Wk p l e R s m args below meth c Z EL own ws nw T' h' c' s' := by
  obtain ⟨hS, hk, hZ, hown, hE, hC, hF, hO, hK, n1, n2⟩ := r
  have sz := K.1
  refine ⟨T'.vm, n, locs ++ L, b0, X', e', hS.trans h2 (by omega), hn, State.Warmed39.trans (t := s.setVm vm0) hZ h2.1, (h2.1.alike.findClass _ _).trans hown, hE, hC.trans C', Fr.app hF F, O', hK.trans K (fun x hx => ?_), fun x hx => ?_, fun x hx => ?_⟩
  · rcases List.mem_append.mp (hw x hx) with q | q
    · exact Or.inl q
    · exact Or.inr (n2 x q).1
  · obtain ⟨q1, q2, q3⟩ := n1 x hx
    exact ⟨q1, by omega, C'.safe q2 q3⟩
  · obtain ⟨q1, q2, q3, q4⟩ := n2 x hx
    exact ⟨q1, q2, by omega, C'.safe q3 q4⟩
theorem w_callS (W : Wk p l e R s m args below meth c Z EL own ws nw T h cells slots) (hx : p.tables.exec = Jvm.exec) {index : Nat} {y : MethodName} {bytes : ByteArray} {maxL : Nat} {ret : Option FieldType} {rm : Room} {Q : Option Value → Heap → Prop} {wsc : List Addr} (argsL : List Value)
    (w1 : (Cond.methodLink own index y).before a0 Z = true) (w2 : (Cond.static y).before a0 Z = true) (w3 : (Cond.initialized y.cls).before a0 Z = true) (w4 : (Cond.code y bytes maxL ret).before a0 Z = true) (hy : y.cls ≠ "java/lang/invoke/MethodHandle" ∧ y.cls ≠ "java/lang/invoke/VarHandle")
    (H : Con l Z EL y bytes maxL ret rm argsL.toArray h wsc Q) (hwc : ∀ x ∈ wsc, x ∈ ws ++ nw) (hsz : Ls.size = c.maxLocals) (hlen : ∀ sig, parseMethodDescriptor y.desc = some sig → argsL.length = sig.parameters.length) {stk : List Value} (hstk : stk = argsL.reverse ++ st) (hd : decode c.code pc = .ok (.invokestatic index, 3))
    (hf : rm.frames + 1 ≤ R.frames) (hl : (st.map fun v => v.category).sum + (maxL + 11) + rm.locals ≤ R.locals) (hc : cells + rm.cells ≤ R.cells) (hs : slots + rm.slots ≤ R.slots) (hp : pc + 3 = pc')
    (k : ∀ v T' h', Wk p l e R s m args below meth c Z EL own ws nw T' h' (cells + rm.cells) (slots + rm.slots) → Keep h h' wsc → Q v h' → Gets p.tables e below P T' (mkF m pc' Ls (v.toList ++ st))) : Gets p.tables e below P T (mkF m pc Ls stk) := by
  subst hp
  obtain ⟨vm0, k0, locs, b0, X, eT, r⟩ := W
  obtain ⟨hS, hk, hZ, hown, hE, hC, hF, hO, hK, n1, n2⟩ := id r
  have sf : ∀ x : Nat, x ∈ wsc → x < h.size ∧ Safe Z EL vm0 h x := fun x hx => by
    rcases List.mem_append.mp (hwc x hx) with q | q
    · exact (n1 x q).2
    · exact (n2 x q).2.2
  obtain ⟨v, vm1, ⟨T', L', c', s'⟩, -, X', hS2, hg2, ⟨L, ⟨q1, q2, q3, q4⟩, l1, l2, l3, C'⟩, stp⟩ := callSS X hx (y := y) hown (mv (s := s.setVm vm0) hZ w1) (mv (s := s.setVm vm0) hZ w2) (mv (s := s.setVm vm0) hZ w3) (mv (s := s.setVm vm0) hZ w4) hy (backC (W := (st.map fun v => v.category).sum) H hZ w4 w3 hf hl hE hC.1 sf) (g := mkF m pc Ls stk) rfl hsz (argsL := argsL) (rest := st) hlen hstk (by show 2 * 0 + _ ≤ _; omega) hd (fun _ _ => ⟨rfl, eT, hc, hs⟩)
  dsimp only [Pt.U, Pt.locs, Pt.cells, Pt.slots] at X' hS2 hg2 q1 q3 q4 l1 l2 l3 C' stp
  subst l1 l2 l3
  exact (k v T' _ (Wk.called (h' := T'.heap) hwc X' rfl hS2 (Nat.le_refl _) (by rw [← eT]; exact hg2) q2 q3 q4 C' r) q3 q1).by fun t q => stp.trans q
theorem w_special (W : Wk p l e R s m args below meth c Z EL own ws nw T h cells slots) (hx : p.tables.exec = Jvm.exec) {index : Nat} {y : MethodName} {bytes : ByteArray} {maxL : Nat} {rm : Room} {Q : Option Value → Heap → Prop} {wsc : List Addr} {a : Nat} (argsL : List Value) (hy1 : y.name = "<init>")
    (w1 : (Cond.methodLink own index y).before a0 Z = true) (w2 : (Cond.instanceMethod y).before a0 Z = true) (w3 : (Cond.initialized y.cls).before a0 Z = true) (w4 : (Cond.code y bytes maxL none).before a0 Z = true) (hy : y.cls ≠ "java/lang/invoke/MethodHandle" ∧ y.cls ≠ "java/lang/invoke/VarHandle")
    (H : Con l Z EL y bytes maxL none rm (.ref a :: argsL).toArray h wsc Q) (hwc : ∀ x ∈ wsc, x ∈ ws ++ nw) (hsz : Ls.size = c.maxLocals) (hlen : ∀ sig, parseMethodDescriptor y.desc = some sig → argsL.length = sig.parameters.length) {stk : List Value} (hstk : stk = argsL.reverse ++ .ref a :: st) (hd : decode c.code pc = .ok (.invokespecial index, 3))
    (hf : rm.frames + 1 ≤ R.frames) (hl : (st.map fun v => v.category).sum + (maxL + 11) + rm.locals ≤ R.locals) (hc : cells + rm.cells ≤ R.cells) (hs : slots + rm.slots ≤ R.slots) (hp : pc + 3 = pc')
    (k : ∀ v T' h', Wk p l e R s m args below meth c Z EL own ws nw T' h' (cells + rm.cells) (slots + rm.slots) → Keep h h' wsc → Q v h' → Gets p.tables e below P T' (mkF m pc' Ls (v.toList ++ st))) : Gets p.tables e below P T (mkF m pc Ls stk) := by
  subst hp
  obtain ⟨vm0, k0, locs, b0, X, eT, r⟩ := W
  obtain ⟨hS, hk, hZ, hown, hE, hC, hF, hO, hK, n1, n2⟩ := id r
  have sf : ∀ x : Nat, x ∈ wsc → x < h.size ∧ Safe Z EL vm0 h x := fun x hx => by
    rcases List.mem_append.mp (hwc x hx) with q | q
    · exact (n1 x q).2
    · exact (n2 x q).2.2
  obtain ⟨v, vm1, ⟨T', L', c', s'⟩, -, X', hS2, hg2, ⟨L, ⟨q1, q2, q3, q4⟩, l1, l2, l3, C'⟩, stp⟩ := X.specialBackS hx (y := y) hy1 hown (mv (s := s.setVm vm0) hZ w1) (mv (s := s.setVm vm0) hZ w2) (mv (s := s.setVm vm0) hZ w4) hy (backC (W := (st.map fun v => v.category).sum) H hZ w4 w3 hf hl hE hC.1 sf) (g := mkF m pc Ls stk) rfl hsz (Steps.refl _) (a := a) (argsL := argsL) (rest := st) hlen hstk (by show 2 * 0 + _ ≤ _; omega) hd (fun _ _ => ⟨rfl, eT, hc, hs⟩)
  dsimp only [Pt.U, Pt.locs, Pt.cells, Pt.slots] at X' hS2 hg2 q1 q3 q4 l1 l2 l3 C' stp
  subst l1 l2 l3
  exact (k v T' _ (Wk.called (h' := T'.heap) hwc X' rfl hS2 (Nat.le_refl _) (by rw [← eT]; exact hg2) q2 q3 q4 C' r) q3 q1).by fun t q => stp.trans q
theorem w_virtual (W : Wk p l e R s m args below meth c Z EL own ws nw T h cells slots) (hx : p.tables.exec = Jvm.exec) {index : Nat} {y z : MethodName} {C : String} {bytes : ByteArray} {maxL : Nat} {ret : Option FieldType} {rm : Room} {Q : Option Value → Heap → Prop} {wsc : List Addr} {a : Nat} (argsL : List Value)
    (w1 : (Cond.methodLink own index y).before a0 Z = true) (w2 : (Cond.declares y).before a0 Z = true) (hnf : ∀ {U : State}, Z.Warmed39 U.vm → NotFace U y) (w3 : (Cond.selects C y z).before a0 Z = true) (w5 : (Cond.instanceMethod z).before a0 Z = true) (w6 : (Cond.initialized z.cls).before a0 Z = true) (w4 : (Cond.code z bytes maxL ret).before a0 Z = true) (hy : y.cls ≠ "java/lang/invoke/MethodHandle" ∧ y.cls ≠ "java/lang/invoke/VarHandle")
    (H : Con l Z EL z bytes maxL ret rm (.ref a :: argsL).toArray h wsc Q) (E : Exa Z h a C) (hwc : ∀ x ∈ wsc, x ∈ ws ++ nw) (hsz : Ls.size = c.maxLocals) (hlen : ∀ sig, parseMethodDescriptor y.desc = some sig → argsL.length = sig.parameters.length) {stk : List Value} (hstk : stk = argsL.reverse ++ .ref a :: st) (hd : decode c.code pc = .ok (.invokevirtual index, 3))
    (hf : rm.frames + 1 ≤ R.frames) (hl : (st.map fun v => v.category).sum + (maxL + 11) + rm.locals ≤ R.locals) (hc : cells + rm.cells ≤ R.cells) (hs : slots + rm.slots ≤ R.slots) (hp : pc + 3 = pc')
    (k : ∀ v T' h', Wk p l e R s m args below meth c Z EL own ws nw T' h' (cells + rm.cells) (slots + rm.slots) → Keep h h' wsc → Q v h' → Gets p.tables e below P T' (mkF m pc' Ls (v.toList ++ st))) : Gets p.tables e below P T (mkF m pc Ls stk) := by
  subst hp
  obtain ⟨vm0, k0, locs, b0, X, eT, r⟩ := W
  obtain ⟨hS, hk, hZ, hown, hE, hC, hF, hO, hK, n1, n2⟩ := id r
  have sf : ∀ x : Nat, x ∈ wsc → x < h.size ∧ Safe Z EL vm0 h x := fun x hx => by
    rcases List.mem_append.mp (hwc x hx) with q | q
    · exact (n1 x q).2
    · exact (n2 x q).2.2
  obtain ⟨cq, kq, qa, qb, qc⟩ := isOf (s := s.setVm vm0) hZ eT E
  obtain ⟨v, vm1, ⟨T', L', c', s'⟩, -, X', hS2, hg2, ⟨L, ⟨q1, q2, q3, q4⟩, l1, l2, l3, C'⟩, stp⟩ := X.virtualBackS hx (y := y) (z := z) hown (mv (s := s.setVm vm0) hZ w1) (mv (s := s.setVm vm0) hZ w2) (hnf (U := s.setVm vm0) hZ) (mv (s := s.setVm vm0) hZ w3) (mv (s := s.setVm vm0) hZ w5) hy (backC (W := (st.map fun v => v.category).sum) H hZ w4 w6 hf hl hE hC.1 sf) qa qc (g := mkF m pc Ls stk) rfl hsz (Steps.refl _) (argsL := argsL) (rest := st) hlen hstk (by show 2 * 0 + _ ≤ _; omega) hd (fun _ _ => ⟨rfl, eT, hc, hs⟩)
  dsimp only [Pt.U, Pt.locs, Pt.cells, Pt.slots] at X' hS2 hg2 q1 q3 q4 l1 l2 l3 C' stp
  subst l1 l2 l3
  exact (k v T' _ (Wk.called (h' := T'.heap) hwc X' rfl hS2 (Nat.le_refl _) (by rw [← eT]; exact hg2) q2 q3 q4 C' r) q3 q1).by fun t q => stp.trans q
theorem w_virtualUp (W : Wk p l e R s m args below meth c Z EL own ws nw T h cells slots) (hx : p.tables.exec = Jvm.exec) {index : Nat} {y z : MethodName} {C owner : String} {bytes : ByteArray} {maxL : Nat} {ret : Option FieldType} {rm : Room} {Q : Option Value → Heap → Prop} {wsc : List Addr} {a : Nat} (argsL : List Value)
    (w1 : (Cond.methodLink own index y).before a0 Z = true) (w7 : (Cond.sameMethod y.cls owner y.name y.desc).before a0 Z = true) (w2 : (Cond.declares ⟨owner, y.name, y.desc⟩).before a0 Z = true) (w3 : (Cond.selects C y z).before a0 Z = true) (w5 : (Cond.instanceMethod z).before a0 Z = true) (w6 : (Cond.initialized z.cls).before a0 Z = true) (w4 : (Cond.code z bytes maxL ret).before a0 Z = true) (hy : owner ≠ "java/lang/invoke/MethodHandle" ∧ owner ≠ "java/lang/invoke/VarHandle")
    (H : Con l Z EL z bytes maxL ret rm (.ref a :: argsL).toArray h wsc Q) (E : Exa Z h a C) (hwc : ∀ x ∈ wsc, x ∈ ws ++ nw) (hsz : Ls.size = c.maxLocals) (hlen : ∀ sig, parseMethodDescriptor y.desc = some sig → argsL.length = sig.parameters.length) {stk : List Value} (hstk : stk = argsL.reverse ++ .ref a :: st) (hd : decode c.code pc = .ok (.invokevirtual index, 3))
    (hf : rm.frames + 1 ≤ R.frames) (hl : (st.map fun v => v.category).sum + (maxL + 11) + rm.locals ≤ R.locals) (hc : cells + rm.cells ≤ R.cells) (hs : slots + rm.slots ≤ R.slots) (hp : pc + 3 = pc')
    (k : ∀ v T' h', Wk p l e R s m args below meth c Z EL own ws nw T' h' (cells + rm.cells) (slots + rm.slots) → Keep h h' wsc → Q v h' → Gets p.tables e below P T' (mkF m pc' Ls (v.toList ++ st))) : Gets p.tables e below P T (mkF m pc Ls stk) := by
  subst hp
  obtain ⟨vm0, k0, locs, b0, X, eT, r⟩ := W
  obtain ⟨hS, hk, hZ, hown, hE, hC, hF, hO, hK, n1, n2⟩ := id r
  have sf : ∀ x : Nat, x ∈ wsc → x < h.size ∧ Safe Z EL vm0 h x := fun x hx => by
    rcases List.mem_append.mp (hwc x hx) with q | q
    · exact (n1 x q).2
    · exact (n2 x q).2.2
  obtain ⟨cq, kq, qa, qb, qc⟩ := isOf (s := s.setVm vm0) hZ eT E
  obtain ⟨v, vm1, ⟨T', L', c', s'⟩, -, X', hS2, hg2, ⟨L, ⟨q1, q2, q3, q4⟩, l1, l2, l3, C'⟩, stp⟩ := X.virtualBackUpS hx (x := y) (y := z) hown (mv (s := s.setVm vm0) hZ w1) (mv (s := s.setVm vm0) hZ w7) (mv (s := s.setVm vm0) hZ w2) hy (mv (s := s.setVm vm0) hZ w3) (mv (s := s.setVm vm0) hZ w5) (backC (W := (st.map fun v => v.category).sum) H hZ w4 w6 hf hl hE hC.1 sf) qa qc (g := mkF m pc Ls stk) rfl hsz (Steps.refl _) (argsL := argsL) (rest := st) hlen hstk (by show 2 * 0 + _ ≤ _; omega) hd (fun _ _ => ⟨rfl, eT, hc, hs⟩)
  dsimp only [Pt.U, Pt.locs, Pt.cells, Pt.slots] at X' hS2 hg2 q1 q3 q4 l1 l2 l3 C' stp
  subst l1 l2 l3
  exact (k v T' _ (Wk.called (h' := T'.heap) hwc X' rfl hS2 (Nat.le_refl _) (by rw [← eT]; exact hg2) q2 q3 q4 C' r) q3 q1).by fun t q => stp.trans q
theorem nfS {y z : MethodName} {C : String} (w : (Cond.selects C y y).before a0 Z = true) {U : State} (hZ : Z.Warmed39 U.vm) : NotFace U y := notFace_of_selects (args := #[]) (mv hZ w)
theorem w_iface (W : Wk p l e R s m args below meth c Z EL own ws nw T h cells slots) (hx : p.tables.exec = Jvm.exec) {index count : Nat} {y z : MethodName} {C : String} {bytes : ByteArray} {maxL : Nat} {ret : Option FieldType} {rm : Room} {Q : Option Value → Heap → Prop} {wsc : List Addr} {a : Nat} (argsL : List Value)
    (w1 : (Cond.methodLink own index y).before a0 Z = true) (w2 : (Cond.declares y).before a0 Z = true) (w7 : (Cond.interfaceMethod y.cls y.cls y.name y.desc).before a0 Z = true) (w3 : (Cond.selects C y z).before a0 Z = true) (w5 : (Cond.instanceMethod z).before a0 Z = true) (w8 : (Cond.publicMethod z).before a0 Z = true) (w9 : (Cond.unhidden C y.name y.desc).before a0 Z = true) (w10 : (Cond.castable C y.cls).before a0 Z = true) (w6 : (Cond.initialized z.cls).before a0 Z = true) (w4 : (Cond.code z bytes maxL ret).before a0 Z = true) (hy : y.cls ≠ "java/lang/invoke/MethodHandle" ∧ y.cls ≠ "java/lang/invoke/VarHandle")
    (H : Con l Z EL z bytes maxL ret rm (.ref a :: argsL).toArray h wsc Q) (E : Exa Z h a C) (hwc : ∀ x ∈ wsc, x ∈ ws ++ nw) (hsz : Ls.size = c.maxLocals) (hlen : ∀ sig, parseMethodDescriptor y.desc = some sig → argsL.length = sig.parameters.length) {stk : List Value} (hstk : stk = argsL.reverse ++ .ref a :: st) (hd : decode c.code pc = .ok (.invokeinterface index count, 5))
    (hf : rm.frames + 1 ≤ R.frames) (hl : (st.map fun v => v.category).sum + (maxL + 11) + rm.locals ≤ R.locals) (hc : cells + rm.cells ≤ R.cells) (hs : slots + rm.slots ≤ R.slots) (hp : pc + 5 = pc')
    (k : ∀ v T' h', Wk p l e R s m args below meth c Z EL own ws nw T' h' (cells + rm.cells) (slots + rm.slots) → Keep h h' wsc → Q v h' → Gets p.tables e below P T' (mkF m pc' Ls (v.toList ++ st))) : Gets p.tables e below P T (mkF m pc Ls stk) := by
  subst hp
  obtain ⟨vm0, k0, locs, b0, X, eT, r⟩ := W
  obtain ⟨hS, hk, hZ, hown, hE, hC, hF, hO, hK, n1, n2⟩ := id r
  have sf : ∀ x : Nat, x ∈ wsc → x < h.size ∧ Safe Z EL vm0 h x := fun x hx => by
    rcases List.mem_append.mp (hwc x hx) with q | q
    · exact (n1 x q).2
    · exact (n2 x q).2.2
  obtain ⟨cq, kq, qa, qb, qc⟩ := isOf (s := s.setVm vm0) hZ eT E
  obtain ⟨v, vm1, ⟨T', L', c', s'⟩, -, X', hS2, hg2, ⟨L, ⟨q1, q2, q3, q4⟩, l1, l2, l3, C'⟩, stp⟩ := X.interfaceBackS hx (xi := y) (y := z) hown (mv (s := s.setVm vm0) hZ w1) (mv (s := s.setVm vm0) hZ w2) (mv (s := s.setVm vm0) hZ w7 (by simp [Cond.onTables, Cond.keepsFace, Cond.keeps, Cond.steady, Cond.faceAtom, hy.1, hy.2])) (mv (s := s.setVm vm0) hZ w3) (mv (s := s.setVm vm0) hZ w5) (mv (s := s.setVm vm0) hZ w8) (mv (s := s.setVm vm0) hZ w9) (mv (s := s.setVm vm0) hZ w10) hy (backC (W := (st.map fun v => v.category).sum) H hZ w4 w6 hf hl hE hC.1 sf) qa qb qc (g := mkF m pc Ls stk) rfl hsz (Steps.refl _) (argsL := argsL) (rest := st) hlen hstk (by show 2 * 0 + _ ≤ _; omega) hd (fun _ _ => ⟨rfl, eT, hc, hs⟩)
  dsimp only [Pt.U, Pt.locs, Pt.cells, Pt.slots] at X' hS2 hg2 q1 q3 q4 l1 l2 l3 C' stp
  subst l1 l2 l3
  exact (k v T' _ (Wk.called (h' := T'.heap) hwc X' rfl hS2 (Nat.le_refl _) (by rw [← eT]; exact hg2) q2 q3 q4 C' r) q3 q1).by fun t q => stp.trans q
/-! String constants -/
theorem w_ldcS (W : Wk p l e R s m args below meth c Z EL own ws nw T h cells slots) (hx : p.tables.exec = Jvm.exec) {index : Nat} {text : String} (w : (Cond.stringLink own index text).before a0 Z = true) (wS : ∀ a ∈ Bundle.stringAtoms, a.before a0 Z = true) (hmem : (own, index) ∈ EL) {vs : List Value} {z : Int32} (ht : (∀ c ∈ text.toList, c.toNat < 256) ∧ text.toList.map (fun c => Value.int (Jvm.Lit.byteI c.toNat.toUInt16)) = vs) (hz : ¬ z < 0) (hzl : z.toNatClampNeg = vs.length)
    (hd : decode c.code pc = .ok (.ldc index, 2)) (n : Nat) (hn : 4 * text.toList.length ≤ n) (hbig : n ≤ 536870912) (hc : cells + 2 ≤ R.cells) (hl : slots + (n + 4) ≤ R.slots) (hp : pc + 2 = pc')
    (k : ∀ (T' : State) (h' : Heap) (a b : Nat), Wk p l e R s m args below meth c Z EL own ws nw T' h' (cells + 2) (slots + (n + 4)) → Keep h h' [] → Exa Z h' a "java/lang/String" → Fld Z h' a "java/lang/String" "coder" "B" (.int 0) → Fld Z h' a "java/lang/String" "value" "[B" (.ref b) → Ary Z h' b .byte vs → (∀ x ∈ ws ++ nw, x ≠ a ∧ x ≠ b) → Gets p.tables e below P T' (mkF m pc' Ls (.ref a :: st))) : Gets p.tables e below P T (mkF m pc Ls st) := by
  subst hp
  obtain ⟨vm0, k0, locs, b0, X, eT, hS, hk, hZ, hown, hE, hC, hF, hO, hK, n1, n2⟩ := W
  obtain ⟨a, T', h', k1, b, cb, X', e', E, hS2, hk2, hZ2, hown2, A, F1, F2, V, la, lb, C', -, hne, stp⟩ := ldcCH X hx hZ hown w wS eT hS hk hE hmem hC.1 ht hz hzl (g := mkF m pc Ls st) rfl hd hn hbig hc hl
  have sz := E.1
  have N1 : ∀ x : Nat, x ∈ ws → Z.heap.size ≤ x ∧ x < h'.size ∧ Safe Z EL T'.vm h' x := fun x hx => by
    obtain ⟨q1, q2, q3⟩ := n1 x hx
    exact ⟨q1, by omega, C'.safe q2 q3⟩
  have N2 : ∀ x : Nat, x ∈ nw → s.heap.size ≤ x ∧ Z.heap.size ≤ x ∧ x < h'.size ∧ Safe Z EL T'.vm h' x := fun x hx => by
    obtain ⟨q1, q2, q3, q4⟩ := n2 x hx
    exact ⟨q1, q2, by omega, C'.safe q3 q4⟩
  refine (k T' h' a b ⟨T'.vm, k1, locs, b0, X', e', hS2, hk2, hZ2, hown2, hE, hC.trans C', hF, ⟨Nat.le_trans hO.1 E.1, fun x cc q => E.2 x cc (hO.2 x cc q)⟩, hK.ext E, N1, N2⟩ ((Keep.refl h []).ext E) A F1 F2 (Ary.of_arv V hzl) fun x hx => ?_).by stp
  rcases List.mem_append.mp hx with q | q
  · exact hne x (N1 x q).2.2
  · exact hne x (N2 x q).2.2.2
theorem w_ldcO (W : Wk p l e R s m args below meth c Z EL own ws nw T h cells slots) (hx : p.tables.exec = Jvm.exec) {index : Nat} {text : String} (w : (Cond.stringLink own index text).before a0 Z = true) (wS : ∀ a ∈ Bundle.stringAtoms, a.before a0 Z = true)
    (hd : decode c.code pc = .ok (.ldc index, 2)) (n : Nat) (hn : 4 * text.toList.length ≤ n) (hbig : n ≤ 536870912) (hc : cells + 2 ≤ R.cells) (hl : slots + (n + 4) ≤ R.slots) (hp : pc + 2 = pc')
    (k : ∀ (T' : State) (h' : Heap) (a : Nat), Wk p l e R s m args below meth c Z EL own ws nw T' h' (cells + 2) (slots + (n + 4)) → Keep h h' [] → Gets p.tables e below P T' (mkF m pc' Ls (.ref a :: st))) : Gets p.tables e below P T (mkF m pc Ls st) := by
  subst hp
  obtain ⟨vm0, k0, locs, b0, X, eT, hS, hk, hZ, hown, hE, hC, hF, hO, hK, n1, n2⟩ := W
  obtain ⟨a, T', h', k1, X', e', E, hS2, hk2, hZ2, hown2, C', -, stp⟩ := ldcOH X hx hZ hown w wS eT hS hk hE hC.1 (g := mkF m pc Ls st) rfl hd hn hbig hc hl
  have sz := E.1
  refine (k T' h' a ⟨T'.vm, k1, locs, b0, X', e', hS2, hk2, hZ2, hown2, hE, hC.trans C', hF, ⟨Nat.le_trans hO.1 E.1, fun x cc q => E.2 x cc (hO.2 x cc q)⟩, hK.ext E, fun x hx => ?_, fun x hx => ?_⟩ ((Keep.refl h []).ext E)).by stp
  · obtain ⟨q1, q2, q3⟩ := n1 x hx
    exact ⟨q1, by omega, C'.safe q2 q3⟩
  · obtain ⟨q1, q2, q3, q4⟩ := n2 x hx
    exact ⟨q1, q2, by omega, C'.safe q3 q4⟩
end OwnWalk
section OwnPure
variable {p : Program} {l : Launch} {e : Env} {R : Room} {s : State} {m : MethodId} {args : Array Value} {below : List Frame} {meth : Method} {c : Code} {T : State} {Z : State} {a0 : Array Value} {h : Heap} {EL : List (String × Nat)} {own : String} {cells slots : Nat} {ws nw : List Addr} {P : Outcome → State → Prop} {pc pc' : Nat} {Ls : Array Slot} {st : List Value}
/-- it returns r and leaves the heap as it was -/
def pureQ (r : Option Value) (h : Heap) : Option Value → Heap → Prop := fun v h' => v = r ∧ h' = h
theorem w_callSp (W : Wk p l e R s m args below meth c Z EL own ws nw T h cells slots) (hx : p.tables.exec = Jvm.exec) {index : Nat} {y : MethodName} {bytes : ByteArray} {maxL : Nat} {ret : Option FieldType} {rm : Room} {r : Option Value} (argsL : List Value)
    (w1 : (Cond.methodLink own index y).before a0 Z = true) (w2 : (Cond.static y).before a0 Z = true) (w3 : (Cond.initialized y.cls).before a0 Z = true) (w4 : (Cond.code y bytes maxL ret).before a0 Z = true) (hy : y.cls ≠ "java/lang/invoke/MethodHandle" ∧ y.cls ≠ "java/lang/invoke/VarHandle")
    (H : Con l Z EL y bytes maxL ret rm argsL.toArray h [] (pureQ r h)) (hsz : Ls.size = c.maxLocals) (hlen : ∀ sig, parseMethodDescriptor y.desc = some sig → argsL.length = sig.parameters.length) {stk : List Value} (hstk : stk = argsL.reverse ++ st) (hd : decode c.code pc = .ok (.invokestatic index, 3))
    (hf : rm.frames + 1 ≤ R.frames) (hl : (st.map fun v => v.category).sum + (maxL + 11) + rm.locals ≤ R.locals) (hc : rm.cells = 0) (hs : rm.slots = 0) (hc' : cells ≤ R.cells) (hs' : slots ≤ R.slots) (hp : pc + 3 = pc')
    (k : ∀ T', Wk p l e R s m args below meth c Z EL own ws nw T' h cells slots → Gets p.tables e below P T' (mkF m pc' Ls (r.toList ++ st))) : Gets p.tables e below P T (mkF m pc Ls stk) :=
  w_callS W hx argsL w1 w2 w3 w4 hy H all0 hsz hlen hstk hd hf hl (by rw [hc]; exact hc') (by rw [hs]; exact hs') hp fun v T' h' W' K q => by
    obtain ⟨e1, e2⟩ := q
    subst e1; rw [e2] at W'; rw [hc, hs] at W'; exact k T' W'
theorem w_virtualp (W : Wk p l e R s m args below meth c Z EL own ws nw T h cells slots) (hx : p.tables.exec = Jvm.exec) {index : Nat} {y z : MethodName} {C : String} {bytes : ByteArray} {maxL : Nat} {ret : Option FieldType} {rm : Room} {r : Option Value} {a : Nat} (argsL : List Value)
    (w1 : (Cond.methodLink own index y).before a0 Z = true) (w2 : (Cond.declares y).before a0 Z = true) (hnf : ∀ {U : State}, Z.Warmed39 U.vm → NotFace U y) (w3 : (Cond.selects C y z).before a0 Z = true) (w5 : (Cond.instanceMethod z).before a0 Z = true) (w6 : (Cond.initialized z.cls).before a0 Z = true) (w4 : (Cond.code z bytes maxL ret).before a0 Z = true) (hy : y.cls ≠ "java/lang/invoke/MethodHandle" ∧ y.cls ≠ "java/lang/invoke/VarHandle")
    (H : Con l Z EL z bytes maxL ret rm (.ref a :: argsL).toArray h [] (pureQ r h)) (E : Exa Z h a C) (hsz : Ls.size = c.maxLocals) (hlen : ∀ sig, parseMethodDescriptor y.desc = some sig → argsL.length = sig.parameters.length) {stk : List Value} (hstk : stk = argsL.reverse ++ .ref a :: st) (hd : decode c.code pc = .ok (.invokevirtual index, 3))
    (hf : rm.frames + 1 ≤ R.frames) (hl : (st.map fun v => v.category).sum + (maxL + 11) + rm.locals ≤ R.locals) (hc : rm.cells = 0) (hs : rm.slots = 0) (hc' : cells ≤ R.cells) (hs' : slots ≤ R.slots) (hp : pc + 3 = pc')
    (k : ∀ T', Wk p l e R s m args below meth c Z EL own ws nw T' h cells slots → Gets p.tables e below P T' (mkF m pc' Ls (r.toList ++ st))) : Gets p.tables e below P T (mkF m pc Ls stk) :=
  w_virtual W hx argsL w1 w2 hnf w3 w5 w6 w4 hy H E all0 hsz hlen hstk hd hf hl (by rw [hc]; exact hc') (by rw [hs]; exact hs') hp fun v T' h' W' K q => by
    obtain ⟨e1, e2⟩ := q
    subst e1; rw [e2] at W'; rw [hc, hs] at W'; exact k T' W'
theorem w_virtualUpp (W : Wk p l e R s m args below meth c Z EL own ws nw T h cells slots) (hx : p.tables.exec = Jvm.exec) {index : Nat} {y z : MethodName} {C owner : String} {bytes : ByteArray} {maxL : Nat} {ret : Option FieldType} {rm : Room} {r : Option Value} {a : Nat} (argsL : List Value)
    (w1 : (Cond.methodLink own index y).before a0 Z = true) (w7 : (Cond.sameMethod y.cls owner y.name y.desc).before a0 Z = true) (w2 : (Cond.declares ⟨owner, y.name, y.desc⟩).before a0 Z = true) (w3 : (Cond.selects C y z).before a0 Z = true) (w5 : (Cond.instanceMethod z).before a0 Z = true) (w6 : (Cond.initialized z.cls).before a0 Z = true) (w4 : (Cond.code z bytes maxL ret).before a0 Z = true) (hy : owner ≠ "java/lang/invoke/MethodHandle" ∧ owner ≠ "java/lang/invoke/VarHandle")
    (H : Con l Z EL z bytes maxL ret rm (.ref a :: argsL).toArray h [] (pureQ r h)) (E : Exa Z h a C) (hsz : Ls.size = c.maxLocals) (hlen : ∀ sig, parseMethodDescriptor y.desc = some sig → argsL.length = sig.parameters.length) {stk : List Value} (hstk : stk = argsL.reverse ++ .ref a :: st) (hd : decode c.code pc = .ok (.invokevirtual index, 3))
    (hf : rm.frames + 1 ≤ R.frames) (hl : (st.map fun v => v.category).sum + (maxL + 11) + rm.locals ≤ R.locals) (hc : rm.cells = 0) (hs : rm.slots = 0) (hc' : cells ≤ R.cells) (hs' : slots ≤ R.slots) (hp : pc + 3 = pc')
    (k : ∀ T', Wk p l e R s m args below meth c Z EL own ws nw T' h cells slots → Gets p.tables e below P T' (mkF m pc' Ls (r.toList ++ st))) : Gets p.tables e below P T (mkF m pc Ls stk) :=
  w_virtualUp W hx argsL w1 w7 w2 w3 w5 w6 w4 hy H E all0 hsz hlen hstk hd hf hl (by rw [hc]; exact hc') (by rw [hs]; exact hs') hp fun v T' h' W' K q => by
    obtain ⟨e1, e2⟩ := q
    subst e1; rw [e2] at W'; rw [hc, hs] at W'; exact k T' W'
theorem w_ifacep (W : Wk p l e R s m args below meth c Z EL own ws nw T h cells slots) (hx : p.tables.exec = Jvm.exec) {index count : Nat} {y z : MethodName} {C : String} {bytes : ByteArray} {maxL : Nat} {ret : Option FieldType} {rm : Room} {r : Option Value} {a : Nat} (argsL : List Value)
    (w1 : (Cond.methodLink own index y).before a0 Z = true) (w2 : (Cond.declares y).before a0 Z = true) (w7 : (Cond.interfaceMethod y.cls y.cls y.name y.desc).before a0 Z = true) (w3 : (Cond.selects C y z).before a0 Z = true) (w5 : (Cond.instanceMethod z).before a0 Z = true) (w8 : (Cond.publicMethod z).before a0 Z = true) (w9 : (Cond.unhidden C y.name y.desc).before a0 Z = true) (w10 : (Cond.castable C y.cls).before a0 Z = true) (w6 : (Cond.initialized z.cls).before a0 Z = true) (w4 : (Cond.code z bytes maxL ret).before a0 Z = true) (hy : y.cls ≠ "java/lang/invoke/MethodHandle" ∧ y.cls ≠ "java/lang/invoke/VarHandle")
    (H : Con l Z EL z bytes maxL ret rm (.ref a :: argsL).toArray h [] (pureQ r h)) (E : Exa Z h a C) (hsz : Ls.size = c.maxLocals) (hlen : ∀ sig, parseMethodDescriptor y.desc = some sig → argsL.length = sig.parameters.length) {stk : List Value} (hstk : stk = argsL.reverse ++ .ref a :: st) (hd : decode c.code pc = .ok (.invokeinterface index count, 5))
    (hf : rm.frames + 1 ≤ R.frames) (hl : (st.map fun v => v.category).sum + (maxL + 11) + rm.locals ≤ R.locals) (hc : rm.cells = 0) (hs : rm.slots = 0) (hc' : cells ≤ R.cells) (hs' : slots ≤ R.slots) (hp : pc + 5 = pc')
    (k : ∀ T', Wk p l e R s m args below meth c Z EL own ws nw T' h cells slots → Gets p.tables e below P T' (mkF m pc' Ls (r.toList ++ st))) : Gets p.tables e below P T (mkF m pc Ls stk) :=
  w_iface W hx argsL w1 w2 w7 w3 w5 w8 w9 w10 w6 w4 hy H E all0 hsz hlen hstk hd hf hl (by rw [hc]; exact hc') (by rw [hs]; exact hs') hp fun v T' h' W' K q => by
    obtain ⟨e1, e2⟩ := q
    subst e1; rw [e2] at W'; rw [hc, hs] at W'; exact k T' W'
theorem g_name {tb : Tables} {v w : Value} (q : w = v) (k : Gets tb e below P T (mkF m pc Ls (w :: st))) : Gets tb e below P T (mkF m pc Ls (v :: st)) := q ▸ k
end OwnPure
section OwnFresh
variable {p : Program} {l : Launch} {e : Env} {R : Room} {s : State} {m : MethodId} {args : Array Value} {below : List Frame} {meth : Method} {c : Code} {T : State} {Z : State} {a0 : Array Value} {h : Heap} {EL : List (String × Nat)} {own : String} {cells slots : Nat} {ws nw : List Addr} {P : Outcome → State → Prop} {pc pc' : Nat} {Ls : Array Slot} {st : List Value}
def ConF (l : Launch) (Z : State) (EL : List (String × Nat)) (y : MethodName) (bytes : ByteArray) (maxL : Nat) (ret : Option FieldType) (rm : Room) (as' : Array Value) (h0 : Heap) (ws : List Addr) (Q : List Addr → Option Value → Heap → Prop) : Prop :=
  MetFree l y (head1 [Cond.code y bytes maxL ret] rm) (fun a U => a = as' ∧ Z.Warmed39 U.vm ∧ U.heap = h0 ∧ CHv Z EL U.vm h0 ∧ ∀ x ∈ ws, Safe Z EL U.vm h0 x) (fun _ _ _ _ _ => True)
    (fun _ U o U' => ∃ v L N, o = .returned v ∧ (Q N v U'.heap ∧ Fr Z.heap.size L ∧ Keep h0 U'.heap ws ∧ Ext Z.heap U'.heap ∧ ∀ x : Nat, x ∈ N → h0.size ≤ x ∧ x < U'.heap.size ∧ Safe Z EL U'.vm U'.heap x) ∧ CHr Z EL U.vm U.heap U'.vm U'.heap ∧ ReturnedEndW U o U' L rm.cells rm.slots)
def PostF (s : State) (Z : State) (EL : List (String × Nat)) (rm : Room) (h0 : Heap) (ws : List Addr) (Q : List Addr → Option Value → Heap → Prop) (o : Outcome) (t : State) : Prop :=
  ∃ v L N, o = .returned v ∧ (Q N v t.heap ∧ Fr Z.heap.size L ∧ Keep h0 t.heap ws ∧ Ext Z.heap t.heap ∧ ∀ x : Nat, x ∈ N → h0.size ≤ x ∧ x < t.heap.size ∧ Safe Z EL t.vm t.heap x) ∧ CHr Z EL s.vm s.heap t.vm t.heap ∧ ReturnedEndW s o t L rm.cells rm.slots
theorem ConF.of {y : MethodName} {bytes : ByteArray} {maxL : Nat} {ret : Option FieldType} {rm : Room} {as' : Array Value} {h0 : Heap} {Q : List Addr → Option Value → Heap → Prop} (Ls : Array Slot)
    (hy : plainFor y = true) (hE : EW Z a0 EL) (O : Ext Z.heap h0) (hws : ∀ x : Nat, x ∈ ws → Z.heap.size ≤ x ∧ x < h0.size) (hent : ∀ m, entryFrame m as' maxL = mkF m 0 Ls [])
    (body : ∀ (p : Program) (e : Env) (s : State) (m : MethodId) (below : List Frame) (meth : Method) (c : Code) (T : State), p.tables.exec = Jvm.exec → c.code = bytes → c.maxLocals = maxL → meth.name = y.name → meth.sig.returnType = ret → meth.locks = false → s.heap = h0 →
      Wk p l e rm s m as' below meth c Z EL y.cls ws [] T h0 0 0 → Gets p.tables e below (PostF s Z EL rm h0 ws Q) T (mkF m 0 Ls [])) :
    ConF l Z EL y bytes maxL ret rm as' h0 ws Q := by
  refine MetFree.of_bodySF hy hisR ?_
  intro p e s m args below meth c s₁ Bd hml0 hP hK
  obtain ⟨rfl, hZ, hh, hC, hS⟩ := hP
  have hh' : s.heap = h0 := hh
  have hl : meth.locks = false := Bd.notSynchronized
  have e0 : s₁.heap = h0 := by rw [← hh, Bd.state]; rfl
  have X0 : Stand p l e rm s m args below meth c s₁ [] 0 0 := Stand.of_body Bd
  have W : Wk p l e rm s m args below meth c Z EL y.cls ws [] s₁ h0 0 0 :=
    ⟨s.vm, h0.size, [], a0, X0, e0, (State.WarmedH.refl s).since _, Nat.le_refl _, hZ, findClass_of_methodNamed Bd.named, hE, by rw [hh']; exact CHr.refl hC, Fr.nil _, O, by rw [hh']; exact Keep.refl _ _, fun x hx => ⟨(hws x hx).1, (hws x hx).2, hS x hx⟩, fun x hx => (nomatch hx)⟩
  obtain ⟨t, o, h1, h2, h3, h4⟩ := body p e s m below meth c s₁ Bd.exec Bd.bytes hml0 (name_of_methodNamed Bd.named Bd.method).1 Bd.returns hl hh' W
  exact ⟨t, o, by rw [hent m]; exact h1, h2, h3, h4⟩
theorem w_endF {rm : Room} {h0 : Heap} {Q : List Addr → Option Value → Heap → Prop} (W : Wk p l e R s m args below meth c Z EL own ws nw T h cells slots) (hh : s.heap = h0) {v : Option Value} {g : JFrame} (hl : meth.locks = false) (hv : meth.sig.returnType = none → v = none)
    (st : ∀ {vm0 : Vm} {locs : List Loc} {fs : List Frame}, Stand p l e R (s.setVm vm0) m args below meth c T locs cells slots → (∀ (f : JFrame) (acts : List Action), f.method = m → f.locked = none → f.entered = [] → (doReturn e (T.setTop f) acts v).1 = T.setFrames fs) → Steps p.tables e below (T.setTop g) (T.setFrames fs))
    (hc : cells ≤ rm.cells) (hs : slots ≤ rm.slots) (N : List Addr) (hN : ∀ x ∈ N, x ∈ nw) (q : Q N v h) : Gets p.tables e below (PostF s Z EL rm h0 ws Q) T g := by
  obtain ⟨vm0, k0, locs, b0, X, eT, hS, hk, hZ, hown, hE, hC, hF, hO, hK, -, n2⟩ := W
  obtain ⟨fs, h1, h2, h3, r1, r2, r3, r4⟩ := X.leaveW hS (by rw [eT]; exact hk) hv hl
  subst hh
  have hA := CHv.at X hZ hE hC.1
  refine ⟨_, _, st X h1, h2, h3, v, locs, N, rfl, ⟨?_, hF, ?_, ?_, ?_⟩, ?_, r1, r2, r3, r4.mono hc hs⟩
  · show Q N v T.heap; rw [eT]; exact q
  · show Keep _ T.heap _; rw [eT]; exact hK
  · show Ext _ T.heap; rw [eT]; exact hO
  · intro x hx
    obtain ⟨q1, q2, q3, q4⟩ := n2 x (hN x hx)
    refine ⟨q1, ?_, ?_⟩
    · show x < T.heap.size; rw [eT]; exact q3
    · show Safe Z EL T.vm T.heap x; rw [eT]; exact hA.safe q3 q4
  · show CHr Z EL s.vm s.heap T.vm T.heap
    rw [eT]
    exact hC.trans hA
theorem w_retAF {rm : Room} {h0 : Heap} {Q : List Addr → Option Value → Heap → Prop} {w : Value} {t : FieldType} (W : Wk p l e R s m args below meth c Z EL own ws nw T h cells slots) (hx : p.tables.exec = Jvm.exec) (hh : s.heap = h0) (hl : meth.locks = false) (hret : meth.sig.returnType = some t) (ht : t.isReference = true) (hw : w.isRef = true) (hd : decode c.code pc = .ok (.areturn, 1)) (hc : cells ≤ rm.cells) (hs : slots ≤ rm.slots) (N : List Addr) (hN : ∀ x ∈ N, x ∈ nw) (q : Q N (some w) h) :
    Gets p.tables e below (PostF s Z EL rm h0 ws Q) T (mkF m pc Ls (w :: st)) :=
  w_endF W hh hl (fun q => by rw [hret] at q; cases q) (fun X hr => retOut X hx hret (by cases t <;> cases w <;> simp [FieldType.isReference, Value.isRef, narrow] at ht hw ⊢) (Or.inr (Or.inr (Or.inr (Or.inr ⟨rfl, ht, hw⟩)))) hd hr) hc hs N hN q
theorem w_retVF {rm : Room} {h0 : Heap} {Q : List Addr → Option Value → Heap → Prop} (W : Wk p l e R s m args below meth c Z EL own ws nw T h cells slots) (hx : p.tables.exec = Jvm.exec) (hh : s.heap = h0) (hl : meth.locks = false) (hret : meth.sig.returnType = none) (hd : decode c.code pc = .ok (.return_, 1)) (hc : cells ≤ rm.cells) (hs : slots ≤ rm.slots) (N : List Addr) (hN : ∀ x ∈ N, x ∈ nw) (q : Q N none h) :
    Gets p.tables e below (PostF s Z EL rm h0 ws Q) T (mkF m pc Ls []) :=
  w_endF W hh hl (fun _ => rfl) (fun X hr => X.returnOut hx hret hd hr) hc hs N hN q
theorem w_retIF {rm : Room} {h0 : Heap} {Q : List Addr → Option Value → Heap → Prop} {z : Int32} (W : Wk p l e R s m args below meth c Z EL own ws nw T h cells slots) (hx : p.tables.exec = Jvm.exec) (hh : s.heap = h0) (hl : meth.locks = false) (hret : meth.sig.returnType = some .int) (hd : decode c.code pc = .ok (.ireturn, 1)) (hc : cells ≤ rm.cells) (hs : slots ≤ rm.slots) (N : List Addr) (hN : ∀ x ∈ N, x ∈ nw) (q : Q N (some (.int z)) h) :
    Gets p.tables e below (PostF s Z EL rm h0 ws Q) T (mkF m pc Ls (.int z :: st)) :=
  w_endF W hh hl (fun q => by rw [hret] at q; cases q) (fun X hr => retOut X hx hret rfl (Or.inl ⟨rfl, Or.inl rfl, z, rfl⟩) hd hr) hc hs N hN q
theorem backCF {y : MethodName} {bytes : ByteArray} {maxL : Nat} {ret : Option FieldType} {rm : Room} {len W : Nat} {as' : Array Value} {Q : List Addr → Option Value → Heap → Prop} {vm0 : Vm} {wsc : List Addr}
    (hM : ConF l Z EL y bytes maxL ret rm as' h wsc Q) (hZ : Z.Warmed39 vm0) (wc : (Cond.code y bytes maxL ret).before a0 Z = true) (wz : (Cond.initialized y.cls).before a0 Z = true) (hf : rm.frames + 1 ≤ R.frames) (hl : W + (maxL + 11) + rm.locals ≤ R.locals) {b0 : Array Value} (hEL : EW Z b0 EL) (H : CHv Z EL vm0 h) (hs : ∀ x : Nat, x ∈ wsc → x < h.size ∧ Safe Z EL vm0 h x) :
    BackS l R p e below (s.setVm vm0) args y len W (fun A a => a = as' ∧ A.U.heap = h ∧ A.cells + rm.cells ≤ R.cells ∧ A.slots + rm.slots ≤ R.slots)
      (fun A _ v B => ∃ L N, (Q N v B.U.heap ∧ Fr Z.heap.size L ∧ Keep h B.U.heap wsc ∧ Ext Z.heap B.U.heap ∧ ∀ x : Nat, x ∈ N → h.size ≤ x ∧ x < B.U.heap.size ∧ Safe Z EL B.U.vm B.U.heap x) ∧ B.locs = A.locs ++ L ∧ B.cells = A.cells + rm.cells ∧ B.slots = A.slots + rm.slots ∧ CHr Z EL vm0 h B.U.vm B.U.heap) :=
  BackS.of_freeW (bytes := bytes) (maxL := maxL) (ret := ret) (E := fun _ first o t L k n => k = rm.cells ∧ n = rm.slots ∧ (∃ v N, o = .returned v ∧ (Q N v t.heap ∧ Fr Z.heap.size L ∧ Keep h t.heap wsc ∧ Ext Z.heap t.heap ∧ ∀ x : Nat, x ∈ N → h.size ≤ x ∧ x < t.heap.size ∧ Safe Z EL t.vm t.heap x)) ∧ CHr Z EL first.vm first.heap t.vm t.heap) hM hf hl
    (fun m meth c A a Y hp => have hU : Z.Warmed39 A.U.vm := wtrans (s := s.setVm vm0) hZ Y.warmed
      ⟨by show (Cond.and _ .tt).before a A.U = true; rw [Cond.before_and, mv hU wc]; rfl, mv hU wc, mv hU wz, hp.2.2.1, hp.2.2.2⟩)
    (fun m meth c A a g mk Y hp => ⟨hp.1, wtrans (s := s.setVm vm0) hZ Y.warmed, hp.2.1, (CHv.at Y hZ hEL H).1, fun x hx => (CHv.at Y hZ hEL H).safe (hs x hx).1 (hs x hx).2⟩) (fun _ _ _ _ _ _ _ _ _ => trivial)
    (fun _ _ _ _ ⟨v, L, N, h1, h2, h3, h4⟩ => ⟨L, _, _, h4, rfl, rfl, ⟨v, N, h1, h2⟩, h3⟩)
    (fun m meth c A a g mk v t L k n Y hp _ _ ⟨e1, e2, ⟨v', N, e3, e4⟩, e5⟩ => by
      cases e3; subst e1 e2
      refine ⟨L, N, e4, rfl, rfl, rfl, (CHv.at Y hZ hEL H).trans ?_⟩
      rw [← hp.2.1]; exact e5)
theorem Wk.calledF {vm0 : Vm} {k0 : Nat} {locs L : List Loc} {b0 : Array Value} {T' : State} {h' : Heap} {wsc N : List Addr} {n c' s' : Nat} (hw : ∀ x ∈ wsc, x ∈ ws ++ nw) (X' : Stand p l e R ((s.setVm vm0).setVm T'.vm) m args below meth c T' (locs ++ L) c' s') (e' : T'.heap = h') (h2 : (s.setVm vm0).Since T'.vm n) (hn : n ≤ h'.size) (hln : h.size ≤ n) (F : Fr Z.heap.size L) (K : Keep h h' wsc) (O' : Ext Z.heap h') (hN : ∀ x : Nat, x ∈ N → h.size ≤ x ∧ x < h'.size ∧ Safe Z EL T'.vm h' x) (C' : CHr Z EL vm0 h T'.vm h')
    (r : s.Since vm0 k0 ∧ k0 ≤ h.size ∧ Z.Warmed39 vm0 ∧ vm0.findClass own = some m.cls ∧ EW Z b0 EL ∧ CHr Z EL s.vm s.heap vm0 h ∧ Fr Z.heap.size locs ∧ Ext Z.heap h ∧ Keep s.heap h ws ∧ (∀ x : Nat, x ∈ ws → Z.heap.size ≤ x ∧ x < h.size ∧ Safe Z EL vm0 h x) ∧ (∀ x : Nat, x ∈ nw → s.heap.size ≤ x ∧ Z.heap.size ≤ x ∧ x < h.size ∧ Safe Z EL vm0 h x)) :
    Wk p l e R s m args below meth c Z EL own ws (N ++ nw) T' h' c' s' := by
  obtain ⟨hS, hk, hZ, hown, hE, hC, hF, hO, hK, n1, n2⟩ := r
  have sz := K.1
  refine ⟨T'.vm, n, locs ++ L, b0, X', e', hS.trans h2 (by omega), hn, State.Warmed39.trans (t := s.setVm vm0) hZ h2.1, (h2.1.alike.findClass _ _).trans hown, hE, hC.trans C', Fr.app hF F, O', hK.trans K (fun x hx => ?_), fun x hx => ?_, fun x hx => ?_⟩
  · rcases List.mem_append.mp (hw x hx) with q | q
    · exact Or.inl q
    · exact Or.inr (n2 x q).1
  · obtain ⟨q1, q2, q3⟩ := n1 x hx
    exact ⟨q1, by omega, C'.safe q2 q3⟩
  · have ks := hK.1
    have os := hO.1
    rcases List.mem_append.mp hx with hx | hx
    · obtain ⟨q1, q2, q3⟩ := hN x hx
      exact ⟨by omega, by omega, q2, q3⟩
    · obtain ⟨q1, q2, q3, q4⟩ := n2 x hx
      exact ⟨q1, q2, by omega, C'.safe q3 q4⟩
theorem w_callSF (W : Wk p l e R s m args below meth c Z EL own ws nw T h cells slots) (hx : p.tables.exec = Jvm.exec) {index : Nat} {y : MethodName} {bytes : ByteArray} {maxL : Nat} {ret : Option FieldType} {rm : Room} {Q : List Addr → Option Value → Heap → Prop} {wsc : List Addr} (argsL : List Value)
    (w1 : (Cond.methodLink own index y).before a0 Z = true) (w2 : (Cond.static y).before a0 Z = true) (w3 : (Cond.initialized y.cls).before a0 Z = true) (w4 : (Cond.code y bytes maxL ret).before a0 Z = true) (hy : y.cls ≠ "java/lang/invoke/MethodHandle" ∧ y.cls ≠ "java/lang/invoke/VarHandle")
    (H : ConF l Z EL y bytes maxL ret rm argsL.toArray h wsc Q) (hwc : ∀ x ∈ wsc, x ∈ ws ++ nw) (hsz : Ls.size = c.maxLocals) (hlen : ∀ sig, parseMethodDescriptor y.desc = some sig → argsL.length = sig.parameters.length) {stk : List Value} (hstk : stk = argsL.reverse ++ st) (hd : decode c.code pc = .ok (.invokestatic index, 3))
    (hf : rm.frames + 1 ≤ R.frames) (hl : (st.map fun v => v.category).sum + (maxL + 11) + rm.locals ≤ R.locals) (hc : cells + rm.cells ≤ R.cells) (hs : slots + rm.slots ≤ R.slots) (hp : pc + 3 = pc')
    (k : ∀ N v T' h', Wk p l e R s m args below meth c Z EL own ws (N ++ nw) T' h' (cells + rm.cells) (slots + rm.slots) → Keep h h' wsc → (∀ x : Nat, x ∈ N → h.size ≤ x ∧ x < h'.size) → Q N v h' → Gets p.tables e below P T' (mkF m pc' Ls (v.toList ++ st))) : Gets p.tables e below P T (mkF m pc Ls stk) := by
  subst hp
  obtain ⟨vm0, k0, locs, b0, X, eT, r⟩ := W
  obtain ⟨hS, hk, hZ, hown, hE, hC, hF, hO, hK, n1, n2⟩ := id r
  have sf : ∀ x : Nat, x ∈ wsc → x < h.size ∧ Safe Z EL vm0 h x := fun x hx => by
    rcases List.mem_append.mp (hwc x hx) with q | q
    · exact (n1 x q).2
    · exact (n2 x q).2.2
  obtain ⟨v, vm1, ⟨T', L', c', s'⟩, -, X', hS2, hg2, ⟨L, N, ⟨q1, q2, q3, q4, q5⟩, l1, l2, l3, C'⟩, stp⟩ := callSS X hx (y := y) hown (mv (s := s.setVm vm0) hZ w1) (mv (s := s.setVm vm0) hZ w2) (mv (s := s.setVm vm0) hZ w3) (mv (s := s.setVm vm0) hZ w4) hy (backCF (W := (st.map fun v => v.category).sum) H hZ w4 w3 hf hl hE hC.1 sf) (g := mkF m pc Ls stk) rfl hsz (argsL := argsL) (rest := st) hlen hstk (by show 2 * 0 + _ ≤ _; omega) hd (fun _ _ => ⟨rfl, eT, hc, hs⟩)
  dsimp only [Pt.U, Pt.locs, Pt.cells, Pt.slots] at X' hS2 hg2 q1 q3 q4 q5 l1 l2 l3 C' stp
  subst l1 l2 l3
  exact (k N v T' _ (Wk.calledF (h' := T'.heap) hwc X' rfl hS2 (Nat.le_refl _) (by rw [← eT]; exact hg2) q2 q3 q4 q5 C' r) q3 (fun x hx => ⟨(q5 x hx).1, (q5 x hx).2.1⟩) q1).by fun t q => stp.trans q
theorem w_specialF (W : Wk p l e R s m args below meth c Z EL own ws nw T h cells slots) (hx : p.tables.exec = Jvm.exec) {index : Nat} {y : MethodName} {bytes : ByteArray} {maxL : Nat} {rm : Room} {Q : List Addr → Option Value → Heap → Prop} {wsc : List Addr} {a : Nat} (argsL : List Value) (hy1 : y.name = "<init>")
    (w1 : (Cond.methodLink own index y).before a0 Z = true) (w2 : (Cond.instanceMethod y).before a0 Z = true) (w3 : (Cond.initialized y.cls).before a0 Z = true) (w4 : (Cond.code y bytes maxL none).before a0 Z = true) (hy : y.cls ≠ "java/lang/invoke/MethodHandle" ∧ y.cls ≠ "java/lang/invoke/VarHandle")
    (H : ConF l Z EL y bytes maxL none rm (.ref a :: argsL).toArray h wsc Q) (hwc : ∀ x ∈ wsc, x ∈ ws ++ nw) (hsz : Ls.size = c.maxLocals) (hlen : ∀ sig, parseMethodDescriptor y.desc = some sig → argsL.length = sig.parameters.length) {stk : List Value} (hstk : stk = argsL.reverse ++ .ref a :: st) (hd : decode c.code pc = .ok (.invokespecial index, 3))
    (hf : rm.frames + 1 ≤ R.frames) (hl : (st.map fun v => v.category).sum + (maxL + 11) + rm.locals ≤ R.locals) (hc : cells + rm.cells ≤ R.cells) (hs : slots + rm.slots ≤ R.slots) (hp : pc + 3 = pc')
    (k : ∀ N v T' h', Wk p l e R s m args below meth c Z EL own ws (N ++ nw) T' h' (cells + rm.cells) (slots + rm.slots) → Keep h h' wsc → (∀ x : Nat, x ∈ N → h.size ≤ x ∧ x < h'.size) → Q N v h' → Gets p.tables e below P T' (mkF m pc' Ls (v.toList ++ st))) : Gets p.tables e below P T (mkF m pc Ls stk) := by
  subst hp
  obtain ⟨vm0, k0, locs, b0, X, eT, r⟩ := W
  obtain ⟨hS, hk, hZ, hown, hE, hC, hF, hO, hK, n1, n2⟩ := id r
  have sf : ∀ x : Nat, x ∈ wsc → x < h.size ∧ Safe Z EL vm0 h x := fun x hx => by
    rcases List.mem_append.mp (hwc x hx) with q | q
    · exact (n1 x q).2
    · exact (n2 x q).2.2
  obtain ⟨v, vm1, ⟨T', L', c', s'⟩, -, X', hS2, hg2, ⟨L, N, ⟨q1, q2, q3, q4, q5⟩, l1, l2, l3, C'⟩, stp⟩ := X.specialBackS hx (y := y) hy1 hown (mv (s := s.setVm vm0) hZ w1) (mv (s := s.setVm vm0) hZ w2) (mv (s := s.setVm vm0) hZ w4) hy (backCF (W := (st.map fun v => v.category).sum) H hZ w4 w3 hf hl hE hC.1 sf) (g := mkF m pc Ls stk) rfl hsz (Steps.refl _) (a := a) (argsL := argsL) (rest := st) hlen hstk (by show 2 * 0 + _ ≤ _; omega) hd (fun _ _ => ⟨rfl, eT, hc, hs⟩)
  dsimp only [Pt.U, Pt.locs, Pt.cells, Pt.slots] at X' hS2 hg2 q1 q3 q4 q5 l1 l2 l3 C' stp
  subst l1 l2 l3
  exact (k N v T' _ (Wk.calledF (h' := T'.heap) hwc X' rfl hS2 (Nat.le_refl _) (by rw [← eT]; exact hg2) q2 q3 q4 q5 C' r) q3 (fun x hx => ⟨(q5 x hx).1, (q5 x hx).2.1⟩) q1).by fun t q => stp.trans q
theorem w_virtualF (W : Wk p l e R s m args below meth c Z EL own ws nw T h cells slots) (hx : p.tables.exec = Jvm.exec) {index : Nat} {y z : MethodName} {C : String} {bytes : ByteArray} {maxL : Nat} {ret : Option FieldType} {rm : Room} {Q : List Addr → Option Value → Heap → Prop} {wsc : List Addr} {a : Nat} (argsL : List Value)
    (w1 : (Cond.methodLink own index y).before a0 Z = true) (w2 : (Cond.declares y).before a0 Z = true) (hnf : ∀ {U : State}, Z.Warmed39 U.vm → NotFace U y) (w3 : (Cond.selects C y z).before a0 Z = true) (w5 : (Cond.instanceMethod z).before a0 Z = true) (w6 : (Cond.initialized z.cls).before a0 Z = true) (w4 : (Cond.code z bytes maxL ret).before a0 Z = true) (hy : y.cls ≠ "java/lang/invoke/MethodHandle" ∧ y.cls ≠ "java/lang/invoke/VarHandle")
    (H : ConF l Z EL z bytes maxL ret rm (.ref a :: argsL).toArray h wsc Q) (E : Exa Z h a C) (hwc : ∀ x ∈ wsc, x ∈ ws ++ nw) (hsz : Ls.size = c.maxLocals) (hlen : ∀ sig, parseMethodDescriptor y.desc = some sig → argsL.length = sig.parameters.length) {stk : List Value} (hstk : stk = argsL.reverse ++ .ref a :: st) (hd : decode c.code pc = .ok (.invokevirtual index, 3))
    (hf : rm.frames + 1 ≤ R.frames) (hl : (st.map fun v => v.category).sum + (maxL + 11) + rm.locals ≤ R.locals) (hc : cells + rm.cells ≤ R.cells) (hs : slots + rm.slots ≤ R.slots) (hp : pc + 3 = pc')
    (k : ∀ N v T' h', Wk p l e R s m args below meth c Z EL own ws (N ++ nw) T' h' (cells + rm.cells) (slots + rm.slots) → Keep h h' wsc → (∀ x : Nat, x ∈ N → h.size ≤ x ∧ x < h'.size) → Q N v h' → Gets p.tables e below P T' (mkF m pc' Ls (v.toList ++ st))) : Gets p.tables e below P T (mkF m pc Ls stk) := by
  subst hp
  obtain ⟨vm0, k0, locs, b0, X, eT, r⟩ := W
  obtain ⟨hS, hk, hZ, hown, hE, hC, hF, hO, hK, n1, n2⟩ := id r
  have sf : ∀ x : Nat, x ∈ wsc → x < h.size ∧ Safe Z EL vm0 h x := fun x hx => by
    rcases List.mem_append.mp (hwc x hx) with q | q
    · exact (n1 x q).2
    · exact (n2 x q).2.2
  obtain ⟨cq, kq, qa, qb, qc⟩ := isOf (s := s.setVm vm0) hZ eT E
  obtain ⟨v, vm1, ⟨T', L', c', s'⟩, -, X', hS2, hg2, ⟨L, N, ⟨q1, q2, q3, q4, q5⟩, l1, l2, l3, C'⟩, stp⟩ := X.virtualBackS hx (y := y) (z := z) hown (mv (s := s.setVm vm0) hZ w1) (mv (s := s.setVm vm0) hZ w2) (hnf (U := s.setVm vm0) hZ) (mv (s := s.setVm vm0) hZ w3) (mv (s := s.setVm vm0) hZ w5) hy (backCF (W := (st.map fun v => v.category).sum) H hZ w4 w6 hf hl hE hC.1 sf) qa qc (g := mkF m pc Ls stk) rfl hsz (Steps.refl _) (argsL := argsL) (rest := st) hlen hstk (by show 2 * 0 + _ ≤ _; omega) hd (fun _ _ => ⟨rfl, eT, hc, hs⟩)
  dsimp only [Pt.U, Pt.locs, Pt.cells, Pt.slots] at X' hS2 hg2 q1 q3 q4 q5 l1 l2 l3 C' stp
  subst l1 l2 l3
  exact (k N v T' _ (Wk.calledF (h' := T'.heap) hwc X' rfl hS2 (Nat.le_refl _) (by rw [← eT]; exact hg2) q2 q3 q4 q5 C' r) q3 (fun x hx => ⟨(q5 x hx).1, (q5 x hx).2.1⟩) q1).by fun t q => stp.trans q
theorem w_virtualUpF (W : Wk p l e R s m args below meth c Z EL own ws nw T h cells slots) (hx : p.tables.exec = Jvm.exec) {index : Nat} {y z : MethodName} {C owner : String} {bytes : ByteArray} {maxL : Nat} {ret : Option FieldType} {rm : Room} {Q : List Addr → Option Value → Heap → Prop} {wsc : List Addr} {a : Nat} (argsL : List Value)
    (w1 : (Cond.methodLink own index y).before a0 Z = true) (w7 : (Cond.sameMethod y.cls owner y.name y.desc).before a0 Z = true) (w2 : (Cond.declares ⟨owner, y.name, y.desc⟩).before a0 Z = true) (w3 : (Cond.selects C y z).before a0 Z = true) (w5 : (Cond.instanceMethod z).before a0 Z = true) (w6 : (Cond.initialized z.cls).before a0 Z = true) (w4 : (Cond.code z bytes maxL ret).before a0 Z = true) (hy : owner ≠ "java/lang/invoke/MethodHandle" ∧ owner ≠ "java/lang/invoke/VarHandle")
    (H : ConF l Z EL z bytes maxL ret rm (.ref a :: argsL).toArray h wsc Q) (E : Exa Z h a C) (hwc : ∀ x ∈ wsc, x ∈ ws ++ nw) (hsz : Ls.size = c.maxLocals) (hlen : ∀ sig, parseMethodDescriptor y.desc = some sig → argsL.length = sig.parameters.length) {stk : List Value} (hstk : stk = argsL.reverse ++ .ref a :: st) (hd : decode c.code pc = .ok (.invokevirtual index, 3))
    (hf : rm.frames + 1 ≤ R.frames) (hl : (st.map fun v => v.category).sum + (maxL + 11) + rm.locals ≤ R.locals) (hc : cells + rm.cells ≤ R.cells) (hs : slots + rm.slots ≤ R.slots) (hp : pc + 3 = pc')
    (k : ∀ N v T' h', Wk p l e R s m args below meth c Z EL own ws (N ++ nw) T' h' (cells + rm.cells) (slots + rm.slots) → Keep h h' wsc → (∀ x : Nat, x ∈ N → h.size ≤ x ∧ x < h'.size) → Q N v h' → Gets p.tables e below P T' (mkF m pc' Ls (v.toList ++ st))) : Gets p.tables e below P T (mkF m pc Ls stk) := by
  subst hp
  obtain ⟨vm0, k0, locs, b0, X, eT, r⟩ := W
  obtain ⟨hS, hk, hZ, hown, hE, hC, hF, hO, hK, n1, n2⟩ := id r
  have sf : ∀ x : Nat, x ∈ wsc → x < h.size ∧ Safe Z EL vm0 h x := fun x hx => by
    rcases List.mem_append.mp (hwc x hx) with q | q
    · exact (n1 x q).2
    · exact (n2 x q).2.2
  obtain ⟨cq, kq, qa, qb, qc⟩ := isOf (s := s.setVm vm0) hZ eT E
  obtain ⟨v, vm1, ⟨T', L', c', s'⟩, -, X', hS2, hg2, ⟨L, N, ⟨q1, q2, q3, q4, q5⟩, l1, l2, l3, C'⟩, stp⟩ := X.virtualBackUpS hx (x := y) (y := z) hown (mv (s := s.setVm vm0) hZ w1) (mv (s := s.setVm vm0) hZ w7) (mv (s := s.setVm vm0) hZ w2) hy (mv (s := s.setVm vm0) hZ w3) (mv (s := s.setVm vm0) hZ w5) (backCF (W := (st.map fun v => v.category).sum) H hZ w4 w6 hf hl hE hC.1 sf) qa qc (g := mkF m pc Ls stk) rfl hsz (Steps.refl _) (argsL := argsL) (rest := st) hlen hstk (by show 2 * 0 + _ ≤ _; omega) hd (fun _ _ => ⟨rfl, eT, hc, hs⟩)
  dsimp only [Pt.U, Pt.locs, Pt.cells, Pt.slots] at X' hS2 hg2 q1 q3 q4 q5 l1 l2 l3 C' stp
  subst l1 l2 l3
  exact (k N v T' _ (Wk.calledF (h' := T'.heap) hwc X' rfl hS2 (Nat.le_refl _) (by rw [← eT]; exact hg2) q2 q3 q4 q5 C' r) q3 (fun x hx => ⟨(q5 x hx).1, (q5 x hx).2.1⟩) q1).by fun t q => stp.trans q
theorem w_ifaceF (W : Wk p l e R s m args below meth c Z EL own ws nw T h cells slots) (hx : p.tables.exec = Jvm.exec) {index count : Nat} {y z : MethodName} {C : String} {bytes : ByteArray} {maxL : Nat} {ret : Option FieldType} {rm : Room} {Q : List Addr → Option Value → Heap → Prop} {wsc : List Addr} {a : Nat} (argsL : List Value)
    (w1 : (Cond.methodLink own index y).before a0 Z = true) (w2 : (Cond.declares y).before a0 Z = true) (w7 : (Cond.interfaceMethod y.cls y.cls y.name y.desc).before a0 Z = true) (w3 : (Cond.selects C y z).before a0 Z = true) (w5 : (Cond.instanceMethod z).before a0 Z = true) (w8 : (Cond.publicMethod z).before a0 Z = true) (w9 : (Cond.unhidden C y.name y.desc).before a0 Z = true) (w10 : (Cond.castable C y.cls).before a0 Z = true) (w6 : (Cond.initialized z.cls).before a0 Z = true) (w4 : (Cond.code z bytes maxL ret).before a0 Z = true) (hy : y.cls ≠ "java/lang/invoke/MethodHandle" ∧ y.cls ≠ "java/lang/invoke/VarHandle")
    (H : ConF l Z EL z bytes maxL ret rm (.ref a :: argsL).toArray h wsc Q) (E : Exa Z h a C) (hwc : ∀ x ∈ wsc, x ∈ ws ++ nw) (hsz : Ls.size = c.maxLocals) (hlen : ∀ sig, parseMethodDescriptor y.desc = some sig → argsL.length = sig.parameters.length) {stk : List Value} (hstk : stk = argsL.reverse ++ .ref a :: st) (hd : decode c.code pc = .ok (.invokeinterface index count, 5))
    (hf : rm.frames + 1 ≤ R.frames) (hl : (st.map fun v => v.category).sum + (maxL + 11) + rm.locals ≤ R.locals) (hc : cells + rm.cells ≤ R.cells) (hs : slots + rm.slots ≤ R.slots) (hp : pc + 5 = pc')
    (k : ∀ N v T' h', Wk p l e R s m args below meth c Z EL own ws (N ++ nw) T' h' (cells + rm.cells) (slots + rm.slots) → Keep h h' wsc → (∀ x : Nat, x ∈ N → h.size ≤ x ∧ x < h'.size) → Q N v h' → Gets p.tables e below P T' (mkF m pc' Ls (v.toList ++ st))) : Gets p.tables e below P T (mkF m pc Ls stk) := by
  subst hp
  obtain ⟨vm0, k0, locs, b0, X, eT, r⟩ := W
  obtain ⟨hS, hk, hZ, hown, hE, hC, hF, hO, hK, n1, n2⟩ := id r
  have sf : ∀ x : Nat, x ∈ wsc → x < h.size ∧ Safe Z EL vm0 h x := fun x hx => by
    rcases List.mem_append.mp (hwc x hx) with q | q
    · exact (n1 x q).2
    · exact (n2 x q).2.2
  obtain ⟨cq, kq, qa, qb, qc⟩ := isOf (s := s.setVm vm0) hZ eT E
  obtain ⟨v, vm1, ⟨T', L', c', s'⟩, -, X', hS2, hg2, ⟨L, N, ⟨q1, q2, q3, q4, q5⟩, l1, l2, l3, C'⟩, stp⟩ := X.interfaceBackS hx (xi := y) (y := z) hown (mv (s := s.setVm vm0) hZ w1) (mv (s := s.setVm vm0) hZ w2) (mv (s := s.setVm vm0) hZ w7 (by simp [Cond.onTables, Cond.keepsFace, Cond.keeps, Cond.steady, Cond.faceAtom, hy.1, hy.2])) (mv (s := s.setVm vm0) hZ w3) (mv (s := s.setVm vm0) hZ w5) (mv (s := s.setVm vm0) hZ w8) (mv (s := s.setVm vm0) hZ w9) (mv (s := s.setVm vm0) hZ w10) hy (backCF (W := (st.map fun v => v.category).sum) H hZ w4 w6 hf hl hE hC.1 sf) qa qb qc (g := mkF m pc Ls stk) rfl hsz (Steps.refl _) (argsL := argsL) (rest := st) hlen hstk (by show 2 * 0 + _ ≤ _; omega) hd (fun _ _ => ⟨rfl, eT, hc, hs⟩)
  dsimp only [Pt.U, Pt.locs, Pt.cells, Pt.slots] at X' hS2 hg2 q1 q3 q4 q5 l1 l2 l3 C' stp
  subst l1 l2 l3
  exact (k N v T' _ (Wk.calledF (h' := T'.heap) hwc X' rfl hS2 (Nat.le_refl _) (by rw [← eT]; exact hg2) q2 q3 q4 q5 C' r) q3 (fun x hx => ⟨(q5 x hx).1, (q5 x hx).2.1⟩) q1).by fun t q => stp.trans q
end OwnFresh
theorem w_0 : tables_1[0]? = some (Jvm.Cond.constantLong "com/example/updatable_views/updatableviews/SqlNamesSamePinLaw" (7 : Nat) (65535 : Int64)) := rfl
theorem w_1 : tables_1[1]? = some (Jvm.Cond.methodLink "com/example/updatable_views/updatableviews/SqlNamesSamePinLaw" (9 : Nat) ({ cls := "com/example/updatable_views/updatableviews/SqlNamesSamePinLaw", name := "pick", desc := "(ICC)C" } : Jvm.MethodName)) := rfl
theorem w_2 : tables_1[2]? = some (Jvm.Cond.static ({ cls := "com/example/updatable_views/updatableviews/SqlNamesSamePinLaw", name := "pick", desc := "(ICC)C" } : Jvm.MethodName)) := rfl
theorem w_3 : tables_1[3]? = some (Jvm.Cond.initialized "com/example/updatable_views/updatableviews/SqlNamesSamePinLaw") := rfl
theorem w_4 : tables_1[4]? = some (Jvm.Cond.code ({ cls := "com/example/updatable_views/updatableviews/SqlNamesSamePinLaw", name := "pick", desc := "(ICC)C" } : Jvm.MethodName) method_3_code (3 : Nat) (Option.some Jvm.ClassFile.FieldType.char)) := rfl
theorem w_5 : tables_1[5]? = some (Jvm.Cond.methodLink "com/example/updatable_views/updatableviews/SqlNamesSamePinLaw" (15 : Nat) ({ cls := "com/example/updatable_views/updatableviews/SqlNamesSamePinLaw", name := "mk", desc := "(ICCC)Ljava/lang/String;" } : Jvm.MethodName)) := rfl
theorem w_6 : tables_1[6]? = some (Jvm.Cond.static ({ cls := "com/example/updatable_views/updatableviews/SqlNamesSamePinLaw", name := "mk", desc := "(ICCC)Ljava/lang/String;" } : Jvm.MethodName)) := rfl
theorem w_7 : tables_1[7]? = some (Jvm.Cond.code ({ cls := "com/example/updatable_views/updatableviews/SqlNamesSamePinLaw", name := "mk", desc := "(ICCC)Ljava/lang/String;" } : Jvm.MethodName) method_4_code (4 : Nat) (Option.some (Jvm.ClassFile.FieldType.object "java/lang/String"))) := rfl
theorem w_8 : tables_1[8]? = some (Jvm.Cond.classLink "com/example/updatable_views/updatableviews/SqlNamesSamePinLaw" (29 : Nat) "java/lang/String") := rfl
theorem w_9 : tables_1[9]? = some (Jvm.Cond.instantiable "java/lang/String" (4 : Nat)) := rfl
theorem w_10 : tables_1[10]? = some (Jvm.Cond.initialized "java/lang/String") := rfl
theorem w_11 : tables_1[11]? = some (Jvm.Cond.arrayClass Jvm.ClassFile.FieldType.char) := rfl
theorem w_12 : tables_1[12]? = some (Jvm.Cond.methodLink "com/example/updatable_views/updatableviews/SqlNamesSamePinLaw" (31 : Nat) ({ cls := "java/lang/String", name := "<init>", desc := "([C)V" } : Jvm.MethodName)) := rfl
theorem w_13 : tables_1[13]? = some (Jvm.Cond.instanceMethod ({ cls := "java/lang/String", name := "<init>", desc := "([C)V" } : Jvm.MethodName)) := rfl
theorem w_14 : tables_1[14]? = some (Jvm.Cond.code ({ cls := "java/lang/String", name := "<init>", desc := "([C)V" } : Jvm.MethodName) jdk_42_method_3_code (2 : Nat) (Option.none : Option Jvm.ClassFile.FieldType)) := rfl
theorem w_15 : tables_1[15]? = some (Jvm.Cond.methodLink "java/lang/String" (27 : Nat) ({ cls := "java/lang/String", name := "<init>", desc := "([CIILjava/lang/Void;)V" } : Jvm.MethodName)) := rfl
theorem w_16 : tables_1[16]? = some (Jvm.Cond.instanceMethod ({ cls := "java/lang/String", name := "<init>", desc := "([CIILjava/lang/Void;)V" } : Jvm.MethodName)) := rfl
theorem w_18 : tables_1[18]? = some (Jvm.Cond.code ({ cls := "java/lang/String", name := "<init>", desc := "([CIILjava/lang/Void;)V" } : Jvm.MethodName) jdk_42_method_149_code (6 : Nat) (Option.none : Option Jvm.ClassFile.FieldType)) := rfl
theorem w_19 : tables_1[19]? = some (Jvm.Cond.methodLink "java/lang/String" (1 : Nat) ({ cls := "java/lang/Object", name := "<init>", desc := "()V" } : Jvm.MethodName)) := rfl
theorem w_20 : tables_1[20]? = some (Jvm.Cond.instanceMethod ({ cls := "java/lang/Object", name := "<init>", desc := "()V" } : Jvm.MethodName)) := rfl
theorem w_21 : tables_1[21]? = some (Jvm.Cond.code ({ cls := "java/lang/Object", name := "<init>", desc := "()V" } : Jvm.MethodName) object_method_1_code (1 : Nat) (Option.none : Option Jvm.ClassFile.FieldType)) := rfl
theorem w_22 : tables_1[22]? = some (Jvm.Cond.fieldLink "java/lang/String" (38 : Nat) "java/lang/String" "COMPACT_STRINGS" "Z") := rfl
theorem w_23 : tables_1[23]? = some (Jvm.Cond.methodLink "java/lang/String" (177 : Nat) ({ cls := "java/lang/StringUTF16", name := "compress", desc := "([CII)[B" } : Jvm.MethodName)) := rfl
theorem w_24 : tables_1[24]? = some (Jvm.Cond.static ({ cls := "java/lang/StringUTF16", name := "compress", desc := "([CII)[B" } : Jvm.MethodName)) := rfl
theorem w_25 : tables_1[25]? = some (Jvm.Cond.initialized "java/lang/StringUTF16") := rfl
theorem w_26 : tables_1[26]? = some (Jvm.Cond.code ({ cls := "java/lang/StringUTF16", name := "compress", desc := "([CII)[B" } : Jvm.MethodName) jdk_52_method_16_code (6 : Nat) (Option.some (Jvm.ClassFile.FieldType.array Jvm.ClassFile.FieldType.byte))) := rfl
theorem w_27 : tables_1[27]? = some (Jvm.Cond.arrayClass Jvm.ClassFile.FieldType.byte) := rfl
theorem w_28 : tables_1[28]? = some (Jvm.Cond.methodLink "java/lang/StringUTF16" (115 : Nat) ({ cls := "java/lang/StringUTF16", name := "compress", desc := "([CI[BII)I" } : Jvm.MethodName)) := rfl
theorem w_29 : tables_1[29]? = some (Jvm.Cond.static ({ cls := "java/lang/StringUTF16", name := "compress", desc := "([CI[BII)I" } : Jvm.MethodName)) := rfl
theorem w_30 : tables_1[30]? = some (Jvm.Cond.code ({ cls := "java/lang/StringUTF16", name := "compress", desc := "([CI[BII)I" } : Jvm.MethodName) jdk_52_method_21_code (7 : Nat) (Option.some Jvm.ClassFile.FieldType.int)) := rfl
theorem w_31 : tables_1[31]? = some (Jvm.Cond.methodLink "java/lang/String" (47 : Nat) ({ cls := "java/lang/StringUTF16", name := "coderFromArrayLen", desc := "([BI)B" } : Jvm.MethodName)) := rfl
theorem w_32 : tables_1[32]? = some (Jvm.Cond.static ({ cls := "java/lang/StringUTF16", name := "coderFromArrayLen", desc := "([BI)B" } : Jvm.MethodName)) := rfl
theorem w_33 : tables_1[33]? = some (Jvm.Cond.code ({ cls := "java/lang/StringUTF16", name := "coderFromArrayLen", desc := "([BI)B" } : Jvm.MethodName) jdk_52_method_15_code (2 : Nat) (Option.some Jvm.ClassFile.FieldType.byte)) := rfl
theorem w_34 : tables_1[34]? = some (Jvm.Cond.fieldLink "java/lang/String" (15 : Nat) "java/lang/String" "coder" "B") := rfl
theorem w_35 : tables_1[35]? = some (Jvm.Cond.laysFinal "java/lang/String" "java/lang/String" "coder" "B") := rfl
theorem w_36 : tables_1[36]? = some (Jvm.Cond.fieldLink "java/lang/String" (9 : Nat) "java/lang/String" "value" "[B") := rfl
theorem w_37 : tables_1[37]? = some (Jvm.Cond.laysFinal "java/lang/String" "java/lang/String" "value" "[B") := rfl
theorem w_38 : tables_1[38]? = some (Jvm.Cond.stringLink "java/lang/String" (7 : Nat) "") := rfl
theorem w_39 : tables_1[39]? = some (Jvm.Cond.soleField "java/lang/String" "value") := rfl
theorem w_40 : tables_1[40]? = some (Jvm.Cond.soleField "java/lang/String" "coder") := rfl
theorem w_41 : tables_1[41]? = some (Jvm.Cond.methodLink "com/example/updatable_views/updatableviews/SqlNamesSamePinLaw" (23 : Nat) ({ cls := "com/example/updatable_views/updatableviews/SqlNames", name := "same", desc := "(Ljava/lang/String;Ljava/lang/String;)Z" } : Jvm.MethodName)) := rfl
theorem w_42 : tables_1[42]? = some (Jvm.Cond.static ({ cls := "com/example/updatable_views/updatableviews/SqlNames", name := "same", desc := "(Ljava/lang/String;Ljava/lang/String;)Z" } : Jvm.MethodName)) := rfl
theorem w_43 : tables_1[43]? = some (Jvm.Cond.initialized "com/example/updatable_views/updatableviews/SqlNames") := rfl
theorem w_44 : tables_1[44]? = some (Jvm.Cond.code ({ cls := "com/example/updatable_views/updatableviews/SqlNames", name := "same", desc := "(Ljava/lang/String;Ljava/lang/String;)Z" } : Jvm.MethodName) prog_8_method_3_code (3 : Nat) (Option.some Jvm.ClassFile.FieldType.boolean)) := rfl
theorem w_45 : tables_1[45]? = some (Jvm.Cond.methodLink "com/example/updatable_views/updatableviews/SqlNames" (21 : Nat) ({ cls := "java/lang/String", name := "length", desc := "()I" } : Jvm.MethodName)) := rfl
theorem w_46 : tables_1[46]? = some (Jvm.Cond.declares ({ cls := "java/lang/String", name := "length", desc := "()I" } : Jvm.MethodName)) := rfl
theorem w_47 : tables_1[47]? = some (Jvm.Cond.instanceMethod ({ cls := "java/lang/String", name := "length", desc := "()I" } : Jvm.MethodName)) := rfl
theorem w_48 : tables_1[48]? = some (Jvm.Cond.selects "java/lang/String" ({ cls := "java/lang/String", name := "length", desc := "()I" } : Jvm.MethodName) ({ cls := "java/lang/String", name := "length", desc := "()I" } : Jvm.MethodName)) := rfl
theorem w_49 : tables_1[49]? = some (Jvm.Cond.code ({ cls := "java/lang/String", name := "length", desc := "()I" } : Jvm.MethodName) jdk_42_method_54_code (1 : Nat) (Option.some Jvm.ClassFile.FieldType.int)) := rfl
theorem w_50 : tables_1[50]? = some (Jvm.Cond.methodLink "java/lang/String" (335 : Nat) ({ cls := "java/lang/String", name := "coder", desc := "()B" } : Jvm.MethodName)) := rfl
theorem w_51 : tables_1[51]? = some (Jvm.Cond.declares ({ cls := "java/lang/String", name := "coder", desc := "()B" } : Jvm.MethodName)) := rfl
theorem w_52 : tables_1[52]? = some (Jvm.Cond.instanceMethod ({ cls := "java/lang/String", name := "coder", desc := "()B" } : Jvm.MethodName)) := rfl
theorem w_53 : tables_1[53]? = some (Jvm.Cond.selects "java/lang/String" ({ cls := "java/lang/String", name := "coder", desc := "()B" } : Jvm.MethodName) ({ cls := "java/lang/String", name := "coder", desc := "()B" } : Jvm.MethodName)) := rfl
theorem w_54 : tables_1[54]? = some (Jvm.Cond.code ({ cls := "java/lang/String", name := "coder", desc := "()B" } : Jvm.MethodName) jdk_42_method_152_code (1 : Nat) (Option.some Jvm.ClassFile.FieldType.byte)) := rfl
theorem w_55 : tables_1[55]? = some (Jvm.Cond.methodLink "java/lang/StringUTF16" (119 : Nat) ({ cls := "java/lang/StringUTF16", name := "toBytes", desc := "([CII)[B" } : Jvm.MethodName)) := rfl
theorem w_56 : tables_1[56]? = some (Jvm.Cond.static ({ cls := "java/lang/StringUTF16", name := "toBytes", desc := "([CII)[B" } : Jvm.MethodName)) := rfl
theorem w_57 : tables_1[57]? = some (Jvm.Cond.code ({ cls := "java/lang/StringUTF16", name := "toBytes", desc := "([CII)[B" } : Jvm.MethodName) jdk_52_method_14_code (5 : Nat) (Option.some (Jvm.ClassFile.FieldType.array Jvm.ClassFile.FieldType.byte))) := rfl
theorem w_58 : tables_1[58]? = some (Jvm.Cond.methodLink "java/lang/StringUTF16" (107 : Nat) ({ cls := "java/lang/StringUTF16", name := "newBytesFor", desc := "(I)[B" } : Jvm.MethodName)) := rfl
theorem w_59 : tables_1[59]? = some (Jvm.Cond.static ({ cls := "java/lang/StringUTF16", name := "newBytesFor", desc := "(I)[B" } : Jvm.MethodName)) := rfl
theorem w_60 : tables_1[60]? = some (Jvm.Cond.code ({ cls := "java/lang/StringUTF16", name := "newBytesFor", desc := "(I)[B" } : Jvm.MethodName) jdk_52_method_2_code (1 : Nat) (Option.some (Jvm.ClassFile.FieldType.array Jvm.ClassFile.FieldType.byte))) := rfl
theorem w_61 : tables_1[61]? = some (Jvm.Cond.methodLink "java/lang/StringUTF16" (11 : Nat) ({ cls := "java/lang/StringUTF16", name := "newBytesLength", desc := "(I)I" } : Jvm.MethodName)) := rfl
theorem w_62 : tables_1[62]? = some (Jvm.Cond.static ({ cls := "java/lang/StringUTF16", name := "newBytesLength", desc := "(I)I" } : Jvm.MethodName)) := rfl
theorem w_63 : tables_1[63]? = some (Jvm.Cond.code ({ cls := "java/lang/StringUTF16", name := "newBytesLength", desc := "(I)I" } : Jvm.MethodName) jdk_52_method_3_code (1 : Nat) (Option.some Jvm.ClassFile.FieldType.int)) := rfl
theorem w_64 : tables_1[64]? = some (Jvm.Cond.constant "java/lang/StringUTF16" (20 : Nat) (1073741823 : Int32)) := rfl
theorem w_65 : tables_1[65]? = some (Jvm.Cond.methodLink "java/lang/StringUTF16" (111 : Nat) ({ cls := "java/lang/StringUTF16", name := "putChar", desc := "([BII)V" } : Jvm.MethodName)) := rfl
theorem w_66 : tables_1[66]? = some (Jvm.Cond.static ({ cls := "java/lang/StringUTF16", name := "putChar", desc := "([BII)V" } : Jvm.MethodName)) := rfl
theorem w_67 : tables_1[67]? = some (Jvm.Cond.code ({ cls := "java/lang/StringUTF16", name := "putChar", desc := "([BII)V" } : Jvm.MethodName) jdk_52_method_4_code (3 : Nat) (Option.none : Option Jvm.ClassFile.FieldType)) := rfl
theorem w_68 : tables_1[68]? = some (Jvm.Cond.fieldLink "java/lang/StringUTF16" (44 : Nat) "java/lang/StringUTF16" "$assertionsDisabled" "Z") := rfl
theorem w_69 : tables_1[69]? = some (Jvm.Cond.fieldLink "java/lang/StringUTF16" (59 : Nat) "java/lang/StringUTF16" "HI_BYTE_SHIFT" "I") := rfl
theorem w_70 : tables_1[70]? = some (Jvm.Cond.fieldLink "java/lang/StringUTF16" (63 : Nat) "java/lang/StringUTF16" "LO_BYTE_SHIFT" "I") := rfl
theorem w_71 : tables_1[71]? = some (Jvm.Cond.methodLink "java/lang/StringUTF16" (71 : Nat) ({ cls := "java/lang/StringUTF16", name := "getChar", desc := "([BI)C" } : Jvm.MethodName)) := rfl
theorem w_72 : tables_1[72]? = some (Jvm.Cond.static ({ cls := "java/lang/StringUTF16", name := "getChar", desc := "([BI)C" } : Jvm.MethodName)) := rfl
theorem w_73 : tables_1[73]? = some (Jvm.Cond.code ({ cls := "java/lang/StringUTF16", name := "getChar", desc := "([BI)C" } : Jvm.MethodName) jdk_52_method_5_code (2 : Nat) (Option.some Jvm.ClassFile.FieldType.char)) := rfl
theorem w_74 : tables_1[74]? = some (Jvm.Cond.methodLink "com/example/updatable_views/updatableviews/SqlNamesSamePinLaw" (19 : Nat) ({ cls := "com/example/updatable_views/updatableviews/SqlNamesSamePinLaw", name := "eq", desc := "(CC)Z" } : Jvm.MethodName)) := rfl
theorem w_75 : tables_1[75]? = some (Jvm.Cond.static ({ cls := "com/example/updatable_views/updatableviews/SqlNamesSamePinLaw", name := "eq", desc := "(CC)Z" } : Jvm.MethodName)) := rfl
theorem w_76 : tables_1[76]? = some (Jvm.Cond.code ({ cls := "com/example/updatable_views/updatableviews/SqlNamesSamePinLaw", name := "eq", desc := "(CC)Z" } : Jvm.MethodName) method_5_code (2 : Nat) (Option.some Jvm.ClassFile.FieldType.boolean)) := rfl
theorem w_77 : tables_1[77]? = some (Jvm.Cond.methodLink "com/example/updatable_views/updatableviews/SqlNames" (25 : Nat) ({ cls := "java/lang/String", name := "charAt", desc := "(I)C" } : Jvm.MethodName)) := rfl
theorem w_78 : tables_1[78]? = some (Jvm.Cond.declares ({ cls := "java/lang/String", name := "charAt", desc := "(I)C" } : Jvm.MethodName)) := rfl
theorem w_79 : tables_1[79]? = some (Jvm.Cond.instanceMethod ({ cls := "java/lang/String", name := "charAt", desc := "(I)C" } : Jvm.MethodName)) := rfl
theorem w_80 : tables_1[80]? = some (Jvm.Cond.selects "java/lang/String" ({ cls := "java/lang/String", name := "charAt", desc := "(I)C" } : Jvm.MethodName) ({ cls := "java/lang/String", name := "charAt", desc := "(I)C" } : Jvm.MethodName)) := rfl
theorem w_81 : tables_1[81]? = some (Jvm.Cond.code ({ cls := "java/lang/String", name := "charAt", desc := "(I)C" } : Jvm.MethodName) jdk_42_method_56_code (2 : Nat) (Option.some Jvm.ClassFile.FieldType.char)) := rfl
theorem w_82 : tables_1[82]? = some (Jvm.Cond.methodLink "java/lang/String" (492 : Nat) ({ cls := "java/lang/String", name := "isLatin1", desc := "()Z" } : Jvm.MethodName)) := rfl
theorem w_83 : tables_1[83]? = some (Jvm.Cond.declares ({ cls := "java/lang/String", name := "isLatin1", desc := "()Z" } : Jvm.MethodName)) := rfl
theorem w_84 : tables_1[84]? = some (Jvm.Cond.instanceMethod ({ cls := "java/lang/String", name := "isLatin1", desc := "()Z" } : Jvm.MethodName)) := rfl
theorem w_85 : tables_1[85]? = some (Jvm.Cond.selects "java/lang/String" ({ cls := "java/lang/String", name := "isLatin1", desc := "()Z" } : Jvm.MethodName) ({ cls := "java/lang/String", name := "isLatin1", desc := "()Z" } : Jvm.MethodName)) := rfl
theorem w_86 : tables_1[86]? = some (Jvm.Cond.code ({ cls := "java/lang/String", name := "isLatin1", desc := "()Z" } : Jvm.MethodName) jdk_42_method_154_code (1 : Nat) (Option.some Jvm.ClassFile.FieldType.boolean)) := rfl
theorem w_87 : tables_1[87]? = some (Jvm.Cond.methodLink "java/lang/String" (495 : Nat) ({ cls := "java/lang/StringLatin1", name := "charAt", desc := "([BI)C" } : Jvm.MethodName)) := rfl
theorem w_88 : tables_1[88]? = some (Jvm.Cond.static ({ cls := "java/lang/StringLatin1", name := "charAt", desc := "([BI)C" } : Jvm.MethodName)) := rfl
theorem w_89 : tables_1[89]? = some (Jvm.Cond.initialized "java/lang/StringLatin1") := rfl
theorem w_90 : tables_1[90]? = some (Jvm.Cond.code ({ cls := "java/lang/StringLatin1", name := "charAt", desc := "([BI)C" } : Jvm.MethodName) jdk_43_method_2_code (2 : Nat) (Option.some Jvm.ClassFile.FieldType.char)) := rfl
theorem w_91 : tables_1[91]? = some (Jvm.Cond.methodLink "java/lang/StringLatin1" (9 : Nat) ({ cls := "java/lang/String", name := "checkIndex", desc := "(II)V" } : Jvm.MethodName)) := rfl
theorem w_92 : tables_1[92]? = some (Jvm.Cond.static ({ cls := "java/lang/String", name := "checkIndex", desc := "(II)V" } : Jvm.MethodName)) := rfl
theorem w_93 : tables_1[93]? = some (Jvm.Cond.code ({ cls := "java/lang/String", name := "checkIndex", desc := "(II)V" } : Jvm.MethodName) jdk_42_method_155_code (2 : Nat) (Option.none : Option Jvm.ClassFile.FieldType)) := rfl
theorem w_94 : tables_1[94]? = some (Jvm.Cond.fieldLink "java/lang/String" (1053 : Nat) "jdk/internal/util/Preconditions" "SIOOBE_FORMATTER" "Ljava/util/function/BiFunction;") := rfl
theorem w_95 : tables_1[95]? = some (Jvm.Cond.initialized "jdk/internal/util/Preconditions") := rfl
theorem w_96 : tables_1[96]? = some (Jvm.Cond.methodLink "java/lang/String" (1059 : Nat) ({ cls := "jdk/internal/util/Preconditions", name := "checkIndex", desc := "(IILjava/util/function/BiFunction;)I" } : Jvm.MethodName)) := rfl
theorem w_97 : tables_1[97]? = some (Jvm.Cond.static ({ cls := "jdk/internal/util/Preconditions", name := "checkIndex", desc := "(IILjava/util/function/BiFunction;)I" } : Jvm.MethodName)) := rfl
theorem w_98 : tables_1[98]? = some (Jvm.Cond.code ({ cls := "jdk/internal/util/Preconditions", name := "checkIndex", desc := "(IILjava/util/function/BiFunction;)I" } : Jvm.MethodName) jdk_41_method_11_code (3 : Nat) (Option.some Jvm.ClassFile.FieldType.int)) := rfl
theorem w_99 : tables_1[99]? = some (Jvm.Cond.methodLink "com/example/updatable_views/updatableviews/SqlNames" (29 : Nat) ({ cls := "com/example/updatable_views/updatableviews/SqlNames", name := "lower", desc := "(C)C" } : Jvm.MethodName)) := rfl
theorem w_100 : tables_1[100]? = some (Jvm.Cond.static ({ cls := "com/example/updatable_views/updatableviews/SqlNames", name := "lower", desc := "(C)C" } : Jvm.MethodName)) := rfl
theorem w_101 : tables_1[101]? = some (Jvm.Cond.code ({ cls := "com/example/updatable_views/updatableviews/SqlNames", name := "lower", desc := "(C)C" } : Jvm.MethodName) prog_8_method_5_code (1 : Nat) (Option.some Jvm.ClassFile.FieldType.char)) := rfl
theorem w_102 : tables_1[102]? = some (Jvm.Cond.methodLink "java/lang/String" (498 : Nat) ({ cls := "java/lang/StringUTF16", name := "charAt", desc := "([BI)C" } : Jvm.MethodName)) := rfl
theorem w_103 : tables_1[103]? = some (Jvm.Cond.static ({ cls := "java/lang/StringUTF16", name := "charAt", desc := "([BI)C" } : Jvm.MethodName)) := rfl
theorem w_104 : tables_1[104]? = some (Jvm.Cond.code ({ cls := "java/lang/StringUTF16", name := "charAt", desc := "([BI)C" } : Jvm.MethodName) jdk_52_method_83_code (2 : Nat) (Option.some Jvm.ClassFile.FieldType.char)) := rfl
theorem w_105 : tables_1[105]? = some (Jvm.Cond.methodLink "java/lang/StringUTF16" (67 : Nat) ({ cls := "java/lang/StringUTF16", name := "checkIndex", desc := "(I[B)V" } : Jvm.MethodName)) := rfl
theorem w_106 : tables_1[106]? = some (Jvm.Cond.static ({ cls := "java/lang/StringUTF16", name := "checkIndex", desc := "(I[B)V" } : Jvm.MethodName)) := rfl
theorem w_107 : tables_1[107]? = some (Jvm.Cond.code ({ cls := "java/lang/StringUTF16", name := "checkIndex", desc := "(I[B)V" } : Jvm.MethodName) jdk_52_method_91_code (2 : Nat) (Option.none : Option Jvm.ClassFile.FieldType)) := rfl
theorem w_108 : tables_1[108]? = some (Jvm.Cond.methodLink "java/lang/StringUTF16" (48 : Nat) ({ cls := "java/lang/StringUTF16", name := "length", desc := "([B)I" } : Jvm.MethodName)) := rfl
theorem w_109 : tables_1[109]? = some (Jvm.Cond.static ({ cls := "java/lang/StringUTF16", name := "length", desc := "([B)I" } : Jvm.MethodName)) := rfl
theorem w_110 : tables_1[110]? = some (Jvm.Cond.code ({ cls := "java/lang/StringUTF16", name := "length", desc := "([B)I" } : Jvm.MethodName) jdk_52_method_6_code (1 : Nat) (Option.some Jvm.ClassFile.FieldType.int)) := rfl
theorem w_111 : tables_1[111]? = some (Jvm.Cond.methodLink "java/lang/StringUTF16" (414 : Nat) ({ cls := "java/lang/String", name := "checkIndex", desc := "(II)V" } : Jvm.MethodName)) := rfl
theorem d_jdk_41_11_0 : decode jdk_41_method_11_code 0 = .ok (.iload_n 0, 1) := by decide +kernel
theorem d_jdk_41_11_1 : decode jdk_41_method_11_code 1 = .ok (.ifCond .lt 8, 3) := by decide +kernel
theorem d_jdk_41_11_4 : decode jdk_41_method_11_code 4 = .ok (.iload_n 0, 1) := by decide +kernel
theorem d_jdk_41_11_5 : decode jdk_41_method_11_code 5 = .ok (.iload_n 1, 1) := by decide +kernel
theorem d_jdk_41_11_6 : decode jdk_41_method_11_code 6 = .ok (.if_icmp .lt 10, 3) := by decide +kernel
theorem d_jdk_41_11_16 : decode jdk_41_method_11_code 16 = .ok (.iload_n 0, 1) := by decide +kernel
theorem d_jdk_41_11_17 : decode jdk_41_method_11_code 17 = .ok (.ireturn, 1) := by decide +kernel
theorem d_jdk_42_149_0 : decode jdk_42_method_149_code 0 = .ok (.aload_n 0, 1) := by decide +kernel
theorem d_jdk_42_149_1 : decode jdk_42_method_149_code 1 = .ok (.invokespecial 1, 3) := by decide +kernel
theorem d_jdk_42_149_4 : decode jdk_42_method_149_code 4 = .ok (.iload_n 3, 1) := by decide +kernel
theorem d_jdk_42_149_5 : decode jdk_42_method_149_code 5 = .ok (.ifCond .ne 22, 3) := by decide +kernel
theorem d_jdk_42_149_8 : decode jdk_42_method_149_code 8 = .ok (.aload_n 0, 1) := by decide +kernel
theorem d_jdk_42_149_9 : decode jdk_42_method_149_code 9 = .ok (.ldc 7, 2) := by decide +kernel
theorem d_jdk_42_149_11 : decode jdk_42_method_149_code 11 = .ok (.getfield 9, 3) := by decide +kernel
theorem d_jdk_42_149_14 : decode jdk_42_method_149_code 14 = .ok (.putfield 9, 3) := by decide +kernel
theorem d_jdk_42_149_17 : decode jdk_42_method_149_code 17 = .ok (.aload_n 0, 1) := by decide +kernel
theorem d_jdk_42_149_18 : decode jdk_42_method_149_code 18 = .ok (.ldc 7, 2) := by decide +kernel
theorem d_jdk_42_149_20 : decode jdk_42_method_149_code 20 = .ok (.getfield 15, 3) := by decide +kernel
theorem d_jdk_42_149_23 : decode jdk_42_method_149_code 23 = .ok (.putfield 15, 3) := by decide +kernel
theorem d_jdk_42_149_26 : decode jdk_42_method_149_code 26 = .ok (.return_, 1) := by decide +kernel
theorem d_jdk_42_149_27 : decode jdk_42_method_149_code 27 = .ok (.getstatic 38, 3) := by decide +kernel
theorem d_jdk_42_149_30 : decode jdk_42_method_149_code 30 = .ok (.ifCond .eq 28, 3) := by decide +kernel
theorem d_jdk_42_149_33 : decode jdk_42_method_149_code 33 = .ok (.aload_n 1, 1) := by decide +kernel
theorem d_jdk_42_149_34 : decode jdk_42_method_149_code 34 = .ok (.iload_n 2, 1) := by decide +kernel
theorem d_jdk_42_149_35 : decode jdk_42_method_149_code 35 = .ok (.iload_n 3, 1) := by decide +kernel
theorem d_jdk_42_149_36 : decode jdk_42_method_149_code 36 = .ok (.invokestatic 177, 3) := by decide +kernel
theorem d_jdk_42_149_39 : decode jdk_42_method_149_code 39 = .ok (.astore 5, 2) := by decide +kernel
theorem d_jdk_42_149_41 : decode jdk_42_method_149_code 41 = .ok (.aload_n 0, 1) := by decide +kernel
theorem d_jdk_42_149_42 : decode jdk_42_method_149_code 42 = .ok (.aload 5, 2) := by decide +kernel
theorem d_jdk_42_149_44 : decode jdk_42_method_149_code 44 = .ok (.iload_n 3, 1) := by decide +kernel
theorem d_jdk_42_149_45 : decode jdk_42_method_149_code 45 = .ok (.invokestatic 47, 3) := by decide +kernel
theorem d_jdk_42_149_48 : decode jdk_42_method_149_code 48 = .ok (.putfield 15, 3) := by decide +kernel
theorem d_jdk_42_149_51 : decode jdk_42_method_149_code 51 = .ok (.aload_n 0, 1) := by decide +kernel
theorem d_jdk_42_149_52 : decode jdk_42_method_149_code 52 = .ok (.aload 5, 2) := by decide +kernel
theorem d_jdk_42_149_54 : decode jdk_42_method_149_code 54 = .ok (.putfield 9, 3) := by decide +kernel
theorem d_jdk_42_149_57 : decode jdk_42_method_149_code 57 = .ok (.return_, 1) := by decide +kernel
theorem d_jdk_42_152_0 : decode jdk_42_method_152_code 0 = .ok (.getstatic 38, 3) := by decide +kernel
theorem d_jdk_42_152_3 : decode jdk_42_method_152_code 3 = .ok (.ifCond .eq 10, 3) := by decide +kernel
theorem d_jdk_42_152_6 : decode jdk_42_method_152_code 6 = .ok (.aload_n 0, 1) := by decide +kernel
theorem d_jdk_42_152_7 : decode jdk_42_method_152_code 7 = .ok (.getfield 15, 3) := by decide +kernel
theorem d_jdk_42_152_10 : decode jdk_42_method_152_code 10 = .ok (.goto 4, 3) := by decide +kernel
theorem d_jdk_42_152_14 : decode jdk_42_method_152_code 14 = .ok (.ireturn, 1) := by decide +kernel
theorem d_jdk_42_154_0 : decode jdk_42_method_154_code 0 = .ok (.getstatic 38, 3) := by decide +kernel
theorem d_jdk_42_154_3 : decode jdk_42_method_154_code 3 = .ok (.ifCond .eq 14, 3) := by decide +kernel
theorem d_jdk_42_154_6 : decode jdk_42_method_154_code 6 = .ok (.aload_n 0, 1) := by decide +kernel
theorem d_jdk_42_154_7 : decode jdk_42_method_154_code 7 = .ok (.getfield 15, 3) := by decide +kernel
theorem d_jdk_42_154_10 : decode jdk_42_method_154_code 10 = .ok (.ifCond .ne 7, 3) := by decide +kernel
theorem d_jdk_42_154_13 : decode jdk_42_method_154_code 13 = .ok (.iconst 1, 1) := by decide +kernel
theorem d_jdk_42_154_14 : decode jdk_42_method_154_code 14 = .ok (.goto 4, 3) := by decide +kernel
theorem d_jdk_42_154_17 : decode jdk_42_method_154_code 17 = .ok (.iconst 0, 1) := by decide +kernel
theorem d_jdk_42_154_18 : decode jdk_42_method_154_code 18 = .ok (.ireturn, 1) := by decide +kernel
theorem d_jdk_42_155_0 : decode jdk_42_method_155_code 0 = .ok (.iload_n 0, 1) := by decide +kernel
theorem d_jdk_42_155_1 : decode jdk_42_method_155_code 1 = .ok (.iload_n 1, 1) := by decide +kernel
theorem d_jdk_42_155_2 : decode jdk_42_method_155_code 2 = .ok (.getstatic 1053, 3) := by decide +kernel
theorem d_jdk_42_155_5 : decode jdk_42_method_155_code 5 = .ok (.invokestatic 1059, 3) := by decide +kernel
theorem d_jdk_42_155_8 : decode jdk_42_method_155_code 8 = .ok (.pop, 1) := by decide +kernel
theorem d_jdk_42_155_9 : decode jdk_42_method_155_code 9 = .ok (.return_, 1) := by decide +kernel
theorem d_jdk_42_3_0 : decode jdk_42_method_3_code 0 = .ok (.aload_n 0, 1) := by decide +kernel
theorem d_jdk_42_3_1 : decode jdk_42_method_3_code 1 = .ok (.aload_n 1, 1) := by decide +kernel
theorem d_jdk_42_3_2 : decode jdk_42_method_3_code 2 = .ok (.iconst 0, 1) := by decide +kernel
theorem d_jdk_42_3_3 : decode jdk_42_method_3_code 3 = .ok (.aload_n 1, 1) := by decide +kernel
theorem d_jdk_42_3_4 : decode jdk_42_method_3_code 4 = .ok (.arraylength, 1) := by decide +kernel
theorem d_jdk_42_3_5 : decode jdk_42_method_3_code 5 = .ok (.aconst_null, 1) := by decide +kernel
theorem d_jdk_42_3_6 : decode jdk_42_method_3_code 6 = .ok (.invokespecial 27, 3) := by decide +kernel
theorem d_jdk_42_3_9 : decode jdk_42_method_3_code 9 = .ok (.return_, 1) := by decide +kernel
theorem d_jdk_42_54_0 : decode jdk_42_method_54_code 0 = .ok (.aload_n 0, 1) := by decide +kernel
theorem d_jdk_42_54_1 : decode jdk_42_method_54_code 1 = .ok (.getfield 9, 3) := by decide +kernel
theorem d_jdk_42_54_4 : decode jdk_42_method_54_code 4 = .ok (.arraylength, 1) := by decide +kernel
theorem d_jdk_42_54_5 : decode jdk_42_method_54_code 5 = .ok (.aload_n 0, 1) := by decide +kernel
theorem d_jdk_42_54_6 : decode jdk_42_method_54_code 6 = .ok (.invokevirtual 335, 3) := by decide +kernel
theorem d_jdk_42_54_9 : decode jdk_42_method_54_code 9 = .ok (.ishr, 1) := by decide +kernel
theorem d_jdk_42_54_10 : decode jdk_42_method_54_code 10 = .ok (.ireturn, 1) := by decide +kernel
theorem d_jdk_42_56_0 : decode jdk_42_method_56_code 0 = .ok (.aload_n 0, 1) := by decide +kernel
theorem d_jdk_42_56_1 : decode jdk_42_method_56_code 1 = .ok (.invokevirtual 492, 3) := by decide +kernel
theorem d_jdk_42_56_4 : decode jdk_42_method_56_code 4 = .ok (.ifCond .eq 12, 3) := by decide +kernel
theorem d_jdk_42_56_7 : decode jdk_42_method_56_code 7 = .ok (.aload_n 0, 1) := by decide +kernel
theorem d_jdk_42_56_8 : decode jdk_42_method_56_code 8 = .ok (.getfield 9, 3) := by decide +kernel
theorem d_jdk_42_56_11 : decode jdk_42_method_56_code 11 = .ok (.iload_n 1, 1) := by decide +kernel
theorem d_jdk_42_56_12 : decode jdk_42_method_56_code 12 = .ok (.invokestatic 495, 3) := by decide +kernel
theorem d_jdk_42_56_15 : decode jdk_42_method_56_code 15 = .ok (.ireturn, 1) := by decide +kernel
theorem d_jdk_42_56_16 : decode jdk_42_method_56_code 16 = .ok (.aload_n 0, 1) := by decide +kernel
theorem d_jdk_42_56_17 : decode jdk_42_method_56_code 17 = .ok (.getfield 9, 3) := by decide +kernel
theorem d_jdk_42_56_20 : decode jdk_42_method_56_code 20 = .ok (.iload_n 1, 1) := by decide +kernel
theorem d_jdk_42_56_21 : decode jdk_42_method_56_code 21 = .ok (.invokestatic 498, 3) := by decide +kernel
theorem d_jdk_42_56_24 : decode jdk_42_method_56_code 24 = .ok (.ireturn, 1) := by decide +kernel
theorem d_jdk_43_2_0 : decode jdk_43_method_2_code 0 = .ok (.iload_n 1, 1) := by decide +kernel
theorem d_jdk_43_2_1 : decode jdk_43_method_2_code 1 = .ok (.aload_n 0, 1) := by decide +kernel
theorem d_jdk_43_2_2 : decode jdk_43_method_2_code 2 = .ok (.arraylength, 1) := by decide +kernel
theorem d_jdk_43_2_3 : decode jdk_43_method_2_code 3 = .ok (.invokestatic 9, 3) := by decide +kernel
theorem d_jdk_43_2_6 : decode jdk_43_method_2_code 6 = .ok (.aload_n 0, 1) := by decide +kernel
theorem d_jdk_43_2_7 : decode jdk_43_method_2_code 7 = .ok (.iload_n 1, 1) := by decide +kernel
theorem d_jdk_43_2_8 : decode jdk_43_method_2_code 8 = .ok (.baload, 1) := by decide +kernel
theorem d_jdk_43_2_9 : decode jdk_43_method_2_code 9 = .ok (.sipush 255, 3) := by decide +kernel
theorem d_jdk_43_2_12 : decode jdk_43_method_2_code 12 = .ok (.iand, 1) := by decide +kernel
theorem d_jdk_43_2_13 : decode jdk_43_method_2_code 13 = .ok (.i2c, 1) := by decide +kernel
theorem d_jdk_43_2_14 : decode jdk_43_method_2_code 14 = .ok (.ireturn, 1) := by decide +kernel
theorem d_jdk_52_14_0 : decode jdk_52_method_14_code 0 = .ok (.iload_n 2, 1) := by decide +kernel
theorem d_jdk_52_14_1 : decode jdk_52_method_14_code 1 = .ok (.invokestatic 107, 3) := by decide +kernel
theorem d_jdk_52_14_4 : decode jdk_52_method_14_code 4 = .ok (.astore_n 3, 1) := by decide +kernel
theorem d_jdk_52_14_5 : decode jdk_52_method_14_code 5 = .ok (.iconst 0, 1) := by decide +kernel
theorem d_jdk_52_14_6 : decode jdk_52_method_14_code 6 = .ok (.istore 4, 2) := by decide +kernel
theorem d_jdk_52_14_8 : decode jdk_52_method_14_code 8 = .ok (.iload 4, 2) := by decide +kernel
theorem d_jdk_52_14_10 : decode jdk_52_method_14_code 10 = .ok (.iload_n 2, 1) := by decide +kernel
theorem d_jdk_52_14_11 : decode jdk_52_method_14_code 11 = .ok (.if_icmp .ge 21, 3) := by decide +kernel
theorem d_jdk_52_14_14 : decode jdk_52_method_14_code 14 = .ok (.aload_n 3, 1) := by decide +kernel
theorem d_jdk_52_14_15 : decode jdk_52_method_14_code 15 = .ok (.iload 4, 2) := by decide +kernel
theorem d_jdk_52_14_17 : decode jdk_52_method_14_code 17 = .ok (.aload_n 0, 1) := by decide +kernel
theorem d_jdk_52_14_18 : decode jdk_52_method_14_code 18 = .ok (.iload_n 1, 1) := by decide +kernel
theorem d_jdk_52_14_19 : decode jdk_52_method_14_code 19 = .ok (.caload, 1) := by decide +kernel
theorem d_jdk_52_14_20 : decode jdk_52_method_14_code 20 = .ok (.invokestatic 111, 3) := by decide +kernel
theorem d_jdk_52_14_23 : decode jdk_52_method_14_code 23 = .ok (.iinc 1 1, 3) := by decide +kernel
theorem d_jdk_52_14_26 : decode jdk_52_method_14_code 26 = .ok (.iinc 4 1, 3) := by decide +kernel
theorem d_jdk_52_14_29 : decode jdk_52_method_14_code 29 = .ok (.goto (-21), 3) := by decide +kernel
theorem d_jdk_52_14_32 : decode jdk_52_method_14_code 32 = .ok (.aload_n 3, 1) := by decide +kernel
theorem d_jdk_52_14_33 : decode jdk_52_method_14_code 33 = .ok (.areturn, 1) := by decide +kernel
theorem d_jdk_52_15_0 : decode jdk_52_method_15_code 0 = .ok (.iload_n 1, 1) := by decide +kernel
theorem d_jdk_52_15_1 : decode jdk_52_method_15_code 1 = .ok (.aload_n 0, 1) := by decide +kernel
theorem d_jdk_52_15_2 : decode jdk_52_method_15_code 2 = .ok (.arraylength, 1) := by decide +kernel
theorem d_jdk_52_15_3 : decode jdk_52_method_15_code 3 = .ok (.isub, 1) := by decide +kernel
theorem d_jdk_52_15_4 : decode jdk_52_method_15_code 4 = .ok (.bipush 31, 2) := by decide +kernel
theorem d_jdk_52_15_6 : decode jdk_52_method_15_code 6 = .ok (.iushr, 1) := by decide +kernel
theorem d_jdk_52_15_7 : decode jdk_52_method_15_code 7 = .ok (.i2b, 1) := by decide +kernel
theorem d_jdk_52_15_8 : decode jdk_52_method_15_code 8 = .ok (.ireturn, 1) := by decide +kernel
theorem d_jdk_52_16_0 : decode jdk_52_method_16_code 0 = .ok (.iload_n 2, 1) := by decide +kernel
theorem d_jdk_52_16_1 : decode jdk_52_method_16_code 1 = .ok (.newarray .byte, 2) := by decide +kernel
theorem d_jdk_52_16_3 : decode jdk_52_method_16_code 3 = .ok (.astore_n 3, 1) := by decide +kernel
theorem d_jdk_52_16_4 : decode jdk_52_method_16_code 4 = .ok (.aload_n 0, 1) := by decide +kernel
theorem d_jdk_52_16_5 : decode jdk_52_method_16_code 5 = .ok (.iload_n 1, 1) := by decide +kernel
theorem d_jdk_52_16_6 : decode jdk_52_method_16_code 6 = .ok (.aload_n 3, 1) := by decide +kernel
theorem d_jdk_52_16_7 : decode jdk_52_method_16_code 7 = .ok (.iconst 0, 1) := by decide +kernel
theorem d_jdk_52_16_8 : decode jdk_52_method_16_code 8 = .ok (.iload_n 2, 1) := by decide +kernel
theorem d_jdk_52_16_9 : decode jdk_52_method_16_code 9 = .ok (.invokestatic 115, 3) := by decide +kernel
theorem d_jdk_52_16_12 : decode jdk_52_method_16_code 12 = .ok (.istore 4, 2) := by decide +kernel
theorem d_jdk_52_16_14 : decode jdk_52_method_16_code 14 = .ok (.iload 4, 2) := by decide +kernel
theorem d_jdk_52_16_16 : decode jdk_52_method_16_code 16 = .ok (.iload_n 2, 1) := by decide +kernel
theorem d_jdk_52_16_17 : decode jdk_52_method_16_code 17 = .ok (.if_icmp .eq 40, 3) := by decide +kernel
theorem d_jdk_52_16_20 : decode jdk_52_method_16_code 20 = .ok (.aload_n 0, 1) := by decide +kernel
theorem d_jdk_52_16_21 : decode jdk_52_method_16_code 21 = .ok (.iload_n 1, 1) := by decide +kernel
theorem d_jdk_52_16_22 : decode jdk_52_method_16_code 22 = .ok (.iload_n 2, 1) := by decide +kernel
theorem d_jdk_52_16_23 : decode jdk_52_method_16_code 23 = .ok (.invokestatic 119, 3) := by decide +kernel
theorem d_jdk_52_16_26 : decode jdk_52_method_16_code 26 = .ok (.astore 5, 2) := by decide +kernel
theorem d_jdk_52_16_28 : decode jdk_52_method_16_code 28 = .ok (.aload 5, 2) := by decide +kernel
theorem d_jdk_52_16_30 : decode jdk_52_method_16_code 30 = .ok (.iload 4, 2) := by decide +kernel
theorem d_jdk_52_16_32 : decode jdk_52_method_16_code 32 = .ok (.invokestatic 71, 3) := by decide +kernel
theorem d_jdk_52_16_35 : decode jdk_52_method_16_code 35 = .ok (.sipush 255, 3) := by decide +kernel
theorem d_jdk_52_16_38 : decode jdk_52_method_16_code 38 = .ok (.if_icmp .gt 16, 3) := by decide +kernel
theorem d_jdk_52_16_54 : decode jdk_52_method_16_code 54 = .ok (.aload 5, 2) := by decide +kernel
theorem d_jdk_52_16_56 : decode jdk_52_method_16_code 56 = .ok (.areturn, 1) := by decide +kernel
theorem d_jdk_52_16_57 : decode jdk_52_method_16_code 57 = .ok (.aload_n 3, 1) := by decide +kernel
theorem d_jdk_52_16_58 : decode jdk_52_method_16_code 58 = .ok (.areturn, 1) := by decide +kernel
theorem d_jdk_52_21_0 : decode jdk_52_method_21_code 0 = .ok (.iconst 0, 1) := by decide +kernel
theorem d_jdk_52_21_1 : decode jdk_52_method_21_code 1 = .ok (.istore 5, 2) := by decide +kernel
theorem d_jdk_52_21_3 : decode jdk_52_method_21_code 3 = .ok (.iload 5, 2) := by decide +kernel
theorem d_jdk_52_21_5 : decode jdk_52_method_21_code 5 = .ok (.iload 4, 2) := by decide +kernel
theorem d_jdk_52_21_7 : decode jdk_52_method_21_code 7 = .ok (.if_icmp .ge 37, 3) := by decide +kernel
theorem d_jdk_52_21_10 : decode jdk_52_method_21_code 10 = .ok (.aload_n 0, 1) := by decide +kernel
theorem d_jdk_52_21_11 : decode jdk_52_method_21_code 11 = .ok (.iload_n 1, 1) := by decide +kernel
theorem d_jdk_52_21_12 : decode jdk_52_method_21_code 12 = .ok (.caload, 1) := by decide +kernel
theorem d_jdk_52_21_13 : decode jdk_52_method_21_code 13 = .ok (.istore 6, 2) := by decide +kernel
theorem d_jdk_52_21_15 : decode jdk_52_method_21_code 15 = .ok (.iload 6, 2) := by decide +kernel
theorem d_jdk_52_21_17 : decode jdk_52_method_21_code 17 = .ok (.sipush 255, 3) := by decide +kernel
theorem d_jdk_52_21_20 : decode jdk_52_method_21_code 20 = .ok (.if_icmp .le 6, 3) := by decide +kernel
theorem d_jdk_52_21_23 : decode jdk_52_method_21_code 23 = .ok (.iload 5, 2) := by decide +kernel
theorem d_jdk_52_21_25 : decode jdk_52_method_21_code 25 = .ok (.ireturn, 1) := by decide +kernel
theorem d_jdk_52_21_26 : decode jdk_52_method_21_code 26 = .ok (.aload_n 2, 1) := by decide +kernel
theorem d_jdk_52_21_27 : decode jdk_52_method_21_code 27 = .ok (.iload_n 3, 1) := by decide +kernel
theorem d_jdk_52_21_28 : decode jdk_52_method_21_code 28 = .ok (.iload 6, 2) := by decide +kernel
theorem d_jdk_52_21_30 : decode jdk_52_method_21_code 30 = .ok (.i2b, 1) := by decide +kernel
theorem d_jdk_52_21_31 : decode jdk_52_method_21_code 31 = .ok (.bastore, 1) := by decide +kernel
theorem d_jdk_52_21_32 : decode jdk_52_method_21_code 32 = .ok (.iinc 1 1, 3) := by decide +kernel
theorem d_jdk_52_21_35 : decode jdk_52_method_21_code 35 = .ok (.iinc 3 1, 3) := by decide +kernel
theorem d_jdk_52_21_38 : decode jdk_52_method_21_code 38 = .ok (.iinc 5 1, 3) := by decide +kernel
theorem d_jdk_52_21_41 : decode jdk_52_method_21_code 41 = .ok (.goto (-38), 3) := by decide +kernel
theorem d_jdk_52_21_44 : decode jdk_52_method_21_code 44 = .ok (.iload 4, 2) := by decide +kernel
theorem d_jdk_52_21_46 : decode jdk_52_method_21_code 46 = .ok (.ireturn, 1) := by decide +kernel
theorem d_jdk_52_2_0 : decode jdk_52_method_2_code 0 = .ok (.iload_n 0, 1) := by decide +kernel
theorem d_jdk_52_2_1 : decode jdk_52_method_2_code 1 = .ok (.invokestatic 11, 3) := by decide +kernel
theorem d_jdk_52_2_4 : decode jdk_52_method_2_code 4 = .ok (.newarray .byte, 2) := by decide +kernel
theorem d_jdk_52_2_6 : decode jdk_52_method_2_code 6 = .ok (.areturn, 1) := by decide +kernel
theorem d_jdk_52_3_0 : decode jdk_52_method_3_code 0 = .ok (.iload_n 0, 1) := by decide +kernel
theorem d_jdk_52_3_1 : decode jdk_52_method_3_code 1 = .ok (.ifCond .ge 11, 3) := by decide +kernel
theorem d_jdk_52_3_12 : decode jdk_52_method_3_code 12 = .ok (.iload_n 0, 1) := by decide +kernel
theorem d_jdk_52_3_13 : decode jdk_52_method_3_code 13 = .ok (.ldc 20, 2) := by decide +kernel
theorem d_jdk_52_3_15 : decode jdk_52_method_3_code 15 = .ok (.if_icmp .lt 40, 3) := by decide +kernel
theorem d_jdk_52_3_55 : decode jdk_52_method_3_code 55 = .ok (.iload_n 0, 1) := by decide +kernel
theorem d_jdk_52_3_56 : decode jdk_52_method_3_code 56 = .ok (.iconst 1, 1) := by decide +kernel
theorem d_jdk_52_3_57 : decode jdk_52_method_3_code 57 = .ok (.ishl, 1) := by decide +kernel
theorem d_jdk_52_3_58 : decode jdk_52_method_3_code 58 = .ok (.ireturn, 1) := by decide +kernel
theorem d_jdk_52_4_0 : decode jdk_52_method_4_code 0 = .ok (.getstatic 44, 3) := by decide +kernel
theorem d_jdk_52_4_3 : decode jdk_52_method_4_code 3 = .ok (.ifCond .ne 25, 3) := by decide +kernel
theorem d_jdk_52_4_28 : decode jdk_52_method_4_code 28 = .ok (.iload_n 1, 1) := by decide +kernel
theorem d_jdk_52_4_29 : decode jdk_52_method_4_code 29 = .ok (.iconst 1, 1) := by decide +kernel
theorem d_jdk_52_4_30 : decode jdk_52_method_4_code 30 = .ok (.ishl, 1) := by decide +kernel
theorem d_jdk_52_4_31 : decode jdk_52_method_4_code 31 = .ok (.istore_n 1, 1) := by decide +kernel
theorem d_jdk_52_4_32 : decode jdk_52_method_4_code 32 = .ok (.aload_n 0, 1) := by decide +kernel
theorem d_jdk_52_4_33 : decode jdk_52_method_4_code 33 = .ok (.iload_n 1, 1) := by decide +kernel
theorem d_jdk_52_4_34 : decode jdk_52_method_4_code 34 = .ok (.iinc 1 1, 3) := by decide +kernel
theorem d_jdk_52_4_37 : decode jdk_52_method_4_code 37 = .ok (.iload_n 2, 1) := by decide +kernel
theorem d_jdk_52_4_38 : decode jdk_52_method_4_code 38 = .ok (.getstatic 59, 3) := by decide +kernel
theorem d_jdk_52_4_41 : decode jdk_52_method_4_code 41 = .ok (.ishr, 1) := by decide +kernel
theorem d_jdk_52_4_42 : decode jdk_52_method_4_code 42 = .ok (.i2b, 1) := by decide +kernel
theorem d_jdk_52_4_43 : decode jdk_52_method_4_code 43 = .ok (.bastore, 1) := by decide +kernel
theorem d_jdk_52_4_44 : decode jdk_52_method_4_code 44 = .ok (.aload_n 0, 1) := by decide +kernel
theorem d_jdk_52_4_45 : decode jdk_52_method_4_code 45 = .ok (.iload_n 1, 1) := by decide +kernel
theorem d_jdk_52_4_46 : decode jdk_52_method_4_code 46 = .ok (.iload_n 2, 1) := by decide +kernel
theorem d_jdk_52_4_47 : decode jdk_52_method_4_code 47 = .ok (.getstatic 63, 3) := by decide +kernel
theorem d_jdk_52_4_50 : decode jdk_52_method_4_code 50 = .ok (.ishr, 1) := by decide +kernel
theorem d_jdk_52_4_51 : decode jdk_52_method_4_code 51 = .ok (.i2b, 1) := by decide +kernel
theorem d_jdk_52_4_52 : decode jdk_52_method_4_code 52 = .ok (.bastore, 1) := by decide +kernel
theorem d_jdk_52_4_53 : decode jdk_52_method_4_code 53 = .ok (.return_, 1) := by decide +kernel
theorem d_jdk_52_5_0 : decode jdk_52_method_5_code 0 = .ok (.getstatic 44, 3) := by decide +kernel
theorem d_jdk_52_5_3 : decode jdk_52_method_5_code 3 = .ok (.ifCond .ne 25, 3) := by decide +kernel
theorem d_jdk_52_5_28 : decode jdk_52_method_5_code 28 = .ok (.iload_n 1, 1) := by decide +kernel
theorem d_jdk_52_5_29 : decode jdk_52_method_5_code 29 = .ok (.iconst 1, 1) := by decide +kernel
theorem d_jdk_52_5_30 : decode jdk_52_method_5_code 30 = .ok (.ishl, 1) := by decide +kernel
theorem d_jdk_52_5_31 : decode jdk_52_method_5_code 31 = .ok (.istore_n 1, 1) := by decide +kernel
theorem d_jdk_52_5_32 : decode jdk_52_method_5_code 32 = .ok (.aload_n 0, 1) := by decide +kernel
theorem d_jdk_52_5_33 : decode jdk_52_method_5_code 33 = .ok (.iload_n 1, 1) := by decide +kernel
theorem d_jdk_52_5_34 : decode jdk_52_method_5_code 34 = .ok (.iinc 1 1, 3) := by decide +kernel
theorem d_jdk_52_5_37 : decode jdk_52_method_5_code 37 = .ok (.baload, 1) := by decide +kernel
theorem d_jdk_52_5_38 : decode jdk_52_method_5_code 38 = .ok (.sipush 255, 3) := by decide +kernel
theorem d_jdk_52_5_41 : decode jdk_52_method_5_code 41 = .ok (.iand, 1) := by decide +kernel
theorem d_jdk_52_5_42 : decode jdk_52_method_5_code 42 = .ok (.getstatic 59, 3) := by decide +kernel
theorem d_jdk_52_5_45 : decode jdk_52_method_5_code 45 = .ok (.ishl, 1) := by decide +kernel
theorem d_jdk_52_5_46 : decode jdk_52_method_5_code 46 = .ok (.aload_n 0, 1) := by decide +kernel
theorem d_jdk_52_5_47 : decode jdk_52_method_5_code 47 = .ok (.iload_n 1, 1) := by decide +kernel
theorem d_jdk_52_5_48 : decode jdk_52_method_5_code 48 = .ok (.baload, 1) := by decide +kernel
theorem d_jdk_52_5_49 : decode jdk_52_method_5_code 49 = .ok (.sipush 255, 3) := by decide +kernel
theorem d_jdk_52_5_52 : decode jdk_52_method_5_code 52 = .ok (.iand, 1) := by decide +kernel
theorem d_jdk_52_5_53 : decode jdk_52_method_5_code 53 = .ok (.getstatic 63, 3) := by decide +kernel
theorem d_jdk_52_5_56 : decode jdk_52_method_5_code 56 = .ok (.ishl, 1) := by decide +kernel
theorem d_jdk_52_5_57 : decode jdk_52_method_5_code 57 = .ok (.ior, 1) := by decide +kernel
theorem d_jdk_52_5_58 : decode jdk_52_method_5_code 58 = .ok (.i2c, 1) := by decide +kernel
theorem d_jdk_52_5_59 : decode jdk_52_method_5_code 59 = .ok (.ireturn, 1) := by decide +kernel
theorem d_jdk_52_6_0 : decode jdk_52_method_6_code 0 = .ok (.aload_n 0, 1) := by decide +kernel
theorem d_jdk_52_6_1 : decode jdk_52_method_6_code 1 = .ok (.arraylength, 1) := by decide +kernel
theorem d_jdk_52_6_2 : decode jdk_52_method_6_code 2 = .ok (.iconst 1, 1) := by decide +kernel
theorem d_jdk_52_6_3 : decode jdk_52_method_6_code 3 = .ok (.ishr, 1) := by decide +kernel
theorem d_jdk_52_6_4 : decode jdk_52_method_6_code 4 = .ok (.ireturn, 1) := by decide +kernel
theorem d_jdk_52_83_0 : decode jdk_52_method_83_code 0 = .ok (.iload_n 1, 1) := by decide +kernel
theorem d_jdk_52_83_1 : decode jdk_52_method_83_code 1 = .ok (.aload_n 0, 1) := by decide +kernel
theorem d_jdk_52_83_2 : decode jdk_52_method_83_code 2 = .ok (.invokestatic 67, 3) := by decide +kernel
theorem d_jdk_52_83_5 : decode jdk_52_method_83_code 5 = .ok (.aload_n 0, 1) := by decide +kernel
theorem d_jdk_52_83_6 : decode jdk_52_method_83_code 6 = .ok (.iload_n 1, 1) := by decide +kernel
theorem d_jdk_52_83_7 : decode jdk_52_method_83_code 7 = .ok (.invokestatic 71, 3) := by decide +kernel
theorem d_jdk_52_83_10 : decode jdk_52_method_83_code 10 = .ok (.ireturn, 1) := by decide +kernel
theorem d_jdk_52_91_0 : decode jdk_52_method_91_code 0 = .ok (.iload_n 0, 1) := by decide +kernel
theorem d_jdk_52_91_1 : decode jdk_52_method_91_code 1 = .ok (.aload_n 1, 1) := by decide +kernel
theorem d_jdk_52_91_2 : decode jdk_52_method_91_code 2 = .ok (.invokestatic 48, 3) := by decide +kernel
theorem d_jdk_52_91_5 : decode jdk_52_method_91_code 5 = .ok (.invokestatic 414, 3) := by decide +kernel
theorem d_jdk_52_91_8 : decode jdk_52_method_91_code 8 = .ok (.return_, 1) := by decide +kernel
theorem d_method_3_0 : decode method_3_code 0 = .ok (.iload_n 0, 1) := by decide +kernel
theorem d_method_3_1 : decode method_3_code 1 = .ok (.ifCond .ne 5, 3) := by decide +kernel
theorem d_method_3_4 : decode method_3_code 4 = .ok (.iload_n 1, 1) := by decide +kernel
theorem d_method_3_5 : decode method_3_code 5 = .ok (.ireturn, 1) := by decide +kernel
theorem d_method_3_6 : decode method_3_code 6 = .ok (.iload_n 0, 1) := by decide +kernel
theorem d_method_3_7 : decode method_3_code 7 = .ok (.iconst 1, 1) := by decide +kernel
theorem d_method_3_8 : decode method_3_code 8 = .ok (.if_icmp .ne 9, 3) := by decide +kernel
theorem d_method_3_11 : decode method_3_code 11 = .ok (.iload_n 1, 1) := by decide +kernel
theorem d_method_3_12 : decode method_3_code 12 = .ok (.bipush 32, 2) := by decide +kernel
theorem d_method_3_14 : decode method_3_code 14 = .ok (.ixor, 1) := by decide +kernel
theorem d_method_3_15 : decode method_3_code 15 = .ok (.i2c, 1) := by decide +kernel
theorem d_method_3_16 : decode method_3_code 16 = .ok (.ireturn, 1) := by decide +kernel
theorem d_method_3_17 : decode method_3_code 17 = .ok (.iload_n 2, 1) := by decide +kernel
theorem d_method_3_18 : decode method_3_code 18 = .ok (.ireturn, 1) := by decide +kernel
theorem d_method_4_0 : decode method_4_code 0 = .ok (.iload_n 0, 1) := by decide +kernel
theorem d_method_4_1 : decode method_4_code 1 = .ok (.ifCond .ne 14, 3) := by decide +kernel
theorem d_method_4_4 : decode method_4_code 4 = .ok (.new 29, 3) := by decide +kernel
theorem d_method_4_7 : decode method_4_code 7 = .ok (.dup, 1) := by decide +kernel
theorem d_method_4_8 : decode method_4_code 8 = .ok (.iconst 0, 1) := by decide +kernel
theorem d_method_4_9 : decode method_4_code 9 = .ok (.newarray .char, 2) := by decide +kernel
theorem d_method_4_11 : decode method_4_code 11 = .ok (.invokespecial 31, 3) := by decide +kernel
theorem d_method_4_14 : decode method_4_code 14 = .ok (.areturn, 1) := by decide +kernel
theorem d_method_4_15 : decode method_4_code 15 = .ok (.iload_n 0, 1) := by decide +kernel
theorem d_method_4_16 : decode method_4_code 16 = .ok (.iconst 1, 1) := by decide +kernel
theorem d_method_4_17 : decode method_4_code 17 = .ok (.if_icmp .ne 18, 3) := by decide +kernel
theorem d_method_4_20 : decode method_4_code 20 = .ok (.new 29, 3) := by decide +kernel
theorem d_method_4_23 : decode method_4_code 23 = .ok (.dup, 1) := by decide +kernel
theorem d_method_4_24 : decode method_4_code 24 = .ok (.iconst 1, 1) := by decide +kernel
theorem d_method_4_25 : decode method_4_code 25 = .ok (.newarray .char, 2) := by decide +kernel
theorem d_method_4_27 : decode method_4_code 27 = .ok (.dup, 1) := by decide +kernel
theorem d_method_4_28 : decode method_4_code 28 = .ok (.iconst 0, 1) := by decide +kernel
theorem d_method_4_29 : decode method_4_code 29 = .ok (.iload_n 1, 1) := by decide +kernel
theorem d_method_4_30 : decode method_4_code 30 = .ok (.castore, 1) := by decide +kernel
theorem d_method_4_31 : decode method_4_code 31 = .ok (.invokespecial 31, 3) := by decide +kernel
theorem d_method_4_34 : decode method_4_code 34 = .ok (.areturn, 1) := by decide +kernel
theorem d_method_4_35 : decode method_4_code 35 = .ok (.iload_n 0, 1) := by decide +kernel
theorem d_method_4_36 : decode method_4_code 36 = .ok (.iconst 2, 1) := by decide +kernel
theorem d_method_4_37 : decode method_4_code 37 = .ok (.if_icmp .ne 22, 3) := by decide +kernel
theorem d_method_4_40 : decode method_4_code 40 = .ok (.new 29, 3) := by decide +kernel
theorem d_method_4_43 : decode method_4_code 43 = .ok (.dup, 1) := by decide +kernel
theorem d_method_4_44 : decode method_4_code 44 = .ok (.iconst 2, 1) := by decide +kernel
theorem d_method_4_45 : decode method_4_code 45 = .ok (.newarray .char, 2) := by decide +kernel
theorem d_method_4_47 : decode method_4_code 47 = .ok (.dup, 1) := by decide +kernel
theorem d_method_4_48 : decode method_4_code 48 = .ok (.iconst 0, 1) := by decide +kernel
theorem d_method_4_49 : decode method_4_code 49 = .ok (.iload_n 1, 1) := by decide +kernel
theorem d_method_4_50 : decode method_4_code 50 = .ok (.castore, 1) := by decide +kernel
theorem d_method_4_51 : decode method_4_code 51 = .ok (.dup, 1) := by decide +kernel
theorem d_method_4_52 : decode method_4_code 52 = .ok (.iconst 1, 1) := by decide +kernel
theorem d_method_4_53 : decode method_4_code 53 = .ok (.iload_n 2, 1) := by decide +kernel
theorem d_method_4_54 : decode method_4_code 54 = .ok (.castore, 1) := by decide +kernel
theorem d_method_4_55 : decode method_4_code 55 = .ok (.invokespecial 31, 3) := by decide +kernel
theorem d_method_4_58 : decode method_4_code 58 = .ok (.areturn, 1) := by decide +kernel
theorem d_method_4_59 : decode method_4_code 59 = .ok (.new 29, 3) := by decide +kernel
theorem d_method_4_62 : decode method_4_code 62 = .ok (.dup, 1) := by decide +kernel
theorem d_method_4_63 : decode method_4_code 63 = .ok (.iconst 3, 1) := by decide +kernel
theorem d_method_4_64 : decode method_4_code 64 = .ok (.newarray .char, 2) := by decide +kernel
theorem d_method_4_66 : decode method_4_code 66 = .ok (.dup, 1) := by decide +kernel
theorem d_method_4_67 : decode method_4_code 67 = .ok (.iconst 0, 1) := by decide +kernel
theorem d_method_4_68 : decode method_4_code 68 = .ok (.iload_n 1, 1) := by decide +kernel
theorem d_method_4_69 : decode method_4_code 69 = .ok (.castore, 1) := by decide +kernel
theorem d_method_4_70 : decode method_4_code 70 = .ok (.dup, 1) := by decide +kernel
theorem d_method_4_71 : decode method_4_code 71 = .ok (.iconst 1, 1) := by decide +kernel
theorem d_method_4_72 : decode method_4_code 72 = .ok (.iload_n 2, 1) := by decide +kernel
theorem d_method_4_73 : decode method_4_code 73 = .ok (.castore, 1) := by decide +kernel
theorem d_method_4_74 : decode method_4_code 74 = .ok (.dup, 1) := by decide +kernel
theorem d_method_4_75 : decode method_4_code 75 = .ok (.iconst 2, 1) := by decide +kernel
theorem d_method_4_76 : decode method_4_code 76 = .ok (.iload_n 3, 1) := by decide +kernel
theorem d_method_4_77 : decode method_4_code 77 = .ok (.castore, 1) := by decide +kernel
theorem d_method_4_78 : decode method_4_code 78 = .ok (.invokespecial 31, 3) := by decide +kernel
theorem d_method_4_81 : decode method_4_code 81 = .ok (.areturn, 1) := by decide +kernel
theorem d_method_5_0 : decode method_5_code 0 = .ok (.iload_n 0, 1) := by decide +kernel
theorem d_method_5_1 : decode method_5_code 1 = .ok (.iload_n 1, 1) := by decide +kernel
theorem d_method_5_2 : decode method_5_code 2 = .ok (.if_icmp .ne 5, 3) := by decide +kernel
theorem d_method_5_5 : decode method_5_code 5 = .ok (.iconst 1, 1) := by decide +kernel
theorem d_method_5_6 : decode method_5_code 6 = .ok (.ireturn, 1) := by decide +kernel
theorem d_method_5_7 : decode method_5_code 7 = .ok (.iload_n 0, 1) := by decide +kernel
theorem d_method_5_8 : decode method_5_code 8 = .ok (.bipush 65, 2) := by decide +kernel
theorem d_method_5_10 : decode method_5_code 10 = .ok (.if_icmp .lt 19, 3) := by decide +kernel
theorem d_method_5_13 : decode method_5_code 13 = .ok (.iload_n 0, 1) := by decide +kernel
theorem d_method_5_14 : decode method_5_code 14 = .ok (.bipush 90, 2) := by decide +kernel
theorem d_method_5_16 : decode method_5_code 16 = .ok (.if_icmp .gt 13, 3) := by decide +kernel
theorem d_method_5_19 : decode method_5_code 19 = .ok (.iload_n 1, 1) := by decide +kernel
theorem d_method_5_20 : decode method_5_code 20 = .ok (.iload_n 0, 1) := by decide +kernel
theorem d_method_5_21 : decode method_5_code 21 = .ok (.bipush 32, 2) := by decide +kernel
theorem d_method_5_23 : decode method_5_code 23 = .ok (.iadd, 1) := by decide +kernel
theorem d_method_5_24 : decode method_5_code 24 = .ok (.if_icmp .ne 5, 3) := by decide +kernel
theorem d_method_5_27 : decode method_5_code 27 = .ok (.iconst 1, 1) := by decide +kernel
theorem d_method_5_28 : decode method_5_code 28 = .ok (.ireturn, 1) := by decide +kernel
theorem d_method_5_29 : decode method_5_code 29 = .ok (.iload_n 1, 1) := by decide +kernel
theorem d_method_5_30 : decode method_5_code 30 = .ok (.bipush 65, 2) := by decide +kernel
theorem d_method_5_32 : decode method_5_code 32 = .ok (.if_icmp .lt 19, 3) := by decide +kernel
theorem d_method_5_35 : decode method_5_code 35 = .ok (.iload_n 1, 1) := by decide +kernel
theorem d_method_5_36 : decode method_5_code 36 = .ok (.bipush 90, 2) := by decide +kernel
theorem d_method_5_38 : decode method_5_code 38 = .ok (.if_icmp .gt 13, 3) := by decide +kernel
theorem d_method_5_41 : decode method_5_code 41 = .ok (.iload_n 0, 1) := by decide +kernel
theorem d_method_5_42 : decode method_5_code 42 = .ok (.iload_n 1, 1) := by decide +kernel
theorem d_method_5_43 : decode method_5_code 43 = .ok (.bipush 32, 2) := by decide +kernel
theorem d_method_5_45 : decode method_5_code 45 = .ok (.iadd, 1) := by decide +kernel
theorem d_method_5_46 : decode method_5_code 46 = .ok (.if_icmp .ne 5, 3) := by decide +kernel
theorem d_method_5_49 : decode method_5_code 49 = .ok (.iconst 1, 1) := by decide +kernel
theorem d_method_5_50 : decode method_5_code 50 = .ok (.ireturn, 1) := by decide +kernel
theorem d_method_5_51 : decode method_5_code 51 = .ok (.iconst 0, 1) := by decide +kernel
theorem d_method_5_52 : decode method_5_code 52 = .ok (.ireturn, 1) := by decide +kernel
theorem d_prog_8_3_0 : decode prog_8_method_3_code 0 = .ok (.aload_n 0, 1) := by decide +kernel
theorem d_prog_8_3_1 : decode prog_8_method_3_code 1 = .ok (.invokevirtual 21, 3) := by decide +kernel
theorem d_prog_8_3_4 : decode prog_8_method_3_code 4 = .ok (.aload_n 1, 1) := by decide +kernel
theorem d_prog_8_3_5 : decode prog_8_method_3_code 5 = .ok (.invokevirtual 21, 3) := by decide +kernel
theorem d_prog_8_3_8 : decode prog_8_method_3_code 8 = .ok (.if_icmp .eq 5, 3) := by decide +kernel
theorem d_prog_8_3_11 : decode prog_8_method_3_code 11 = .ok (.iconst 0, 1) := by decide +kernel
theorem d_prog_8_3_12 : decode prog_8_method_3_code 12 = .ok (.ireturn, 1) := by decide +kernel
theorem d_prog_8_3_13 : decode prog_8_method_3_code 13 = .ok (.iconst 0, 1) := by decide +kernel
theorem d_prog_8_3_14 : decode prog_8_method_3_code 14 = .ok (.istore_n 2, 1) := by decide +kernel
theorem d_prog_8_3_15 : decode prog_8_method_3_code 15 = .ok (.iload_n 2, 1) := by decide +kernel
theorem d_prog_8_3_16 : decode prog_8_method_3_code 16 = .ok (.aload_n 0, 1) := by decide +kernel
theorem d_prog_8_3_17 : decode prog_8_method_3_code 17 = .ok (.invokevirtual 21, 3) := by decide +kernel
theorem d_prog_8_3_20 : decode prog_8_method_3_code 20 = .ok (.if_icmp .ge 30, 3) := by decide +kernel
theorem d_prog_8_3_23 : decode prog_8_method_3_code 23 = .ok (.aload_n 0, 1) := by decide +kernel
theorem d_prog_8_3_24 : decode prog_8_method_3_code 24 = .ok (.iload_n 2, 1) := by decide +kernel
theorem d_prog_8_3_25 : decode prog_8_method_3_code 25 = .ok (.invokevirtual 25, 3) := by decide +kernel
theorem d_prog_8_3_28 : decode prog_8_method_3_code 28 = .ok (.invokestatic 29, 3) := by decide +kernel
theorem d_prog_8_3_31 : decode prog_8_method_3_code 31 = .ok (.aload_n 1, 1) := by decide +kernel
theorem d_prog_8_3_32 : decode prog_8_method_3_code 32 = .ok (.iload_n 2, 1) := by decide +kernel
theorem d_prog_8_3_33 : decode prog_8_method_3_code 33 = .ok (.invokevirtual 25, 3) := by decide +kernel
theorem d_prog_8_3_36 : decode prog_8_method_3_code 36 = .ok (.invokestatic 29, 3) := by decide +kernel
theorem d_prog_8_3_39 : decode prog_8_method_3_code 39 = .ok (.if_icmp .eq 5, 3) := by decide +kernel
theorem d_prog_8_3_42 : decode prog_8_method_3_code 42 = .ok (.iconst 0, 1) := by decide +kernel
theorem d_prog_8_3_43 : decode prog_8_method_3_code 43 = .ok (.ireturn, 1) := by decide +kernel
theorem d_prog_8_3_44 : decode prog_8_method_3_code 44 = .ok (.iinc 2 1, 3) := by decide +kernel
theorem d_prog_8_3_47 : decode prog_8_method_3_code 47 = .ok (.goto (-32), 3) := by decide +kernel
theorem d_prog_8_3_50 : decode prog_8_method_3_code 50 = .ok (.iconst 1, 1) := by decide +kernel
theorem d_prog_8_3_51 : decode prog_8_method_3_code 51 = .ok (.ireturn, 1) := by decide +kernel
theorem d_prog_8_5_0 : decode prog_8_method_5_code 0 = .ok (.iload_n 0, 1) := by decide +kernel
theorem d_prog_8_5_1 : decode prog_8_method_5_code 1 = .ok (.bipush 65, 2) := by decide +kernel
theorem d_prog_8_5_3 : decode prog_8_method_5_code 3 = .ok (.if_icmp .lt 20, 3) := by decide +kernel
theorem d_prog_8_5_6 : decode prog_8_method_5_code 6 = .ok (.iload_n 0, 1) := by decide +kernel
theorem d_prog_8_5_7 : decode prog_8_method_5_code 7 = .ok (.bipush 90, 2) := by decide +kernel
theorem d_prog_8_5_9 : decode prog_8_method_5_code 9 = .ok (.if_icmp .gt 14, 3) := by decide +kernel
theorem d_prog_8_5_12 : decode prog_8_method_5_code 12 = .ok (.iload_n 0, 1) := by decide +kernel
theorem d_prog_8_5_13 : decode prog_8_method_5_code 13 = .ok (.bipush 65, 2) := by decide +kernel
theorem d_prog_8_5_15 : decode prog_8_method_5_code 15 = .ok (.isub, 1) := by decide +kernel
theorem d_prog_8_5_16 : decode prog_8_method_5_code 16 = .ok (.bipush 97, 2) := by decide +kernel
theorem d_prog_8_5_18 : decode prog_8_method_5_code 18 = .ok (.iadd, 1) := by decide +kernel
theorem d_prog_8_5_19 : decode prog_8_method_5_code 19 = .ok (.i2c, 1) := by decide +kernel
theorem d_prog_8_5_20 : decode prog_8_method_5_code 20 = .ok (.goto 4, 3) := by decide +kernel
theorem d_prog_8_5_23 : decode prog_8_method_5_code 23 = .ok (.iload_n 0, 1) := by decide +kernel
theorem d_prog_8_5_24 : decode prog_8_method_5_code 24 = .ok (.ireturn, 1) := by decide +kernel
theorem pd_0 : parseMethodDescriptor "(I)I" = some ⟨[.int], some .int⟩ := by decide +kernel
theorem pd_1 : parseMethodDescriptor "(I)[B" = some ⟨[.int], some (.array .byte)⟩ := by decide +kernel
theorem pd_2 : parseMethodDescriptor "([BII)V" = some ⟨[(.array .byte), .int, .int], none⟩ := by decide +kernel
theorem pd_3 : parseMethodDescriptor "([CI[BII)I" = some ⟨[(.array .char), .int, (.array .byte), .int, .int], some .int⟩ := by decide +kernel
theorem pd_4 : parseMethodDescriptor "([CII)[B" = some ⟨[(.array .char), .int, .int], some (.array .byte)⟩ := by decide +kernel
theorem pd_5 : parseMethodDescriptor "([BI)C" = some ⟨[(.array .byte), .int], some .char⟩ := by decide +kernel
theorem pd_6 : parseMethodDescriptor "([BI)B" = some ⟨[(.array .byte), .int], some .byte⟩ := by decide +kernel
theorem pd_7 : parseMethodDescriptor "([CIILjava/lang/Void;)V" = some ⟨[(.array .char), .int, .int, (.object "java/lang/Void")], none⟩ := by decide +kernel
theorem pd_8 : parseMethodDescriptor "()B" = some ⟨[], some .byte⟩ := by decide +kernel
theorem pd_9 : parseMethodDescriptor "(IILjava/util/function/BiFunction;)I" = some ⟨[.int, .int, (.object "java/util/function/BiFunction")], some .int⟩ := by decide +kernel
theorem pd_10 : parseMethodDescriptor "(II)V" = some ⟨[.int, .int], none⟩ := by decide +kernel
theorem pd_11 : parseMethodDescriptor "([B)I" = some ⟨[(.array .byte)], some .int⟩ := by decide +kernel
theorem pd_12 : parseMethodDescriptor "(I[B)V" = some ⟨[.int, (.array .byte)], none⟩ := by decide +kernel
theorem pd_13 : parseMethodDescriptor "()Z" = some ⟨[], some .boolean⟩ := by decide +kernel
theorem pd_14 : parseMethodDescriptor "([C)V" = some ⟨[(.array .char)], none⟩ := by decide +kernel
theorem pd_15 : parseMethodDescriptor "()I" = some ⟨[], some .int⟩ := by decide +kernel
theorem pd_16 : parseMethodDescriptor "(I)C" = some ⟨[.int], some .char⟩ := by decide +kernel
theorem pd_17 : parseMethodDescriptor "(C)C" = some ⟨[.char], some .char⟩ := by decide +kernel
theorem pd_18 : parseMethodDescriptor "(ICC)C" = some ⟨[.int, .char, .char], some .char⟩ := by decide +kernel
theorem pd_19 : parseMethodDescriptor "(ICCC)Ljava/lang/String;" = some ⟨[.int, .char, .char, .char], some (.object "java/lang/String")⟩ := by decide +kernel
theorem pd_20 : parseMethodDescriptor "(Ljava/lang/String;Ljava/lang/String;)Z" = some ⟨[(.object "java/lang/String"), (.object "java/lang/String")], some .boolean⟩ := by decide +kernel
theorem pd_21 : parseMethodDescriptor "(CC)Z" = some ⟨[.char, .char], some .boolean⟩ := by decide +kernel
theorem pn_0 : plainName "java/lang/StringUTF16" = true := by first | (simp [plainName, overriddenIn]; done) | decide +kernel
theorem pn_1 : plainName "java/lang/String" = true := by first | (simp [plainName, overriddenIn]; done) | decide +kernel
theorem pn_2 : plainName "jdk/internal/util/Preconditions" = true := by first | (simp [plainName, overriddenIn]; done) | decide +kernel
theorem pn_3 : plainName "java/lang/StringLatin1" = true := by first | (simp [plainName, overriddenIn]; done) | decide +kernel
theorem pn_4 : plainName "com/example/updatable_views/updatableviews/SqlNames" = true := by first | (simp [plainName, overriddenIn]; done) | decide +kernel
theorem pn_5 : plainName "com/example/updatable_views/updatableviews/SqlNamesSamePinLaw" = true := by first | (simp [plainName, overriddenIn]; done) | decide +kernel
theorem own_t0 : (0 : Int32).toInt = 0 := rfl
theorem own_t1 : (1 : Int32).toInt = 1 := rfl
theorem own_t2 : (2 : Int32).toInt = 2 := rfl
theorem own_t3 : (3 : Int32).toInt = 3 := rfl
theorem own_t32 : (32 : Int32).toInt = 32 := rfl
theorem own_t65 : (65 : Int32).toInt = 65 := rfl
theorem own_t90 : (90 : Int32).toInt = 90 := rfl
theorem own_t97 : (97 : Int32).toInt = 97 := rfl
theorem own_all0 {P : Int32 → Prop} : ∀ c ∈ ([] : List Int32), P c := fun _ q => nomatch q
theorem own_allS {P : Int32 → Prop} {a : Int32} {L : List Int32} (q : P a) (r : ∀ c ∈ L, P c) : ∀ c ∈ a :: L, P c := fun x z => (List.mem_cons.mp z).elim (fun u => u ▸ q) (r x)
def latB (c : Int32) : Value := .int c.toInt8.toInt32
/-- the object at a is a Latin-1 String of the chars cs; its bytes lie at b -/
def SL (Z : State) (h : Heap) (a b : Nat) (cs : List Int32) : Prop := Exa Z h a "java/lang/String" ∧ Fld Z h a "java/lang/String" "coder" "B" (.int 0) ∧ Fld Z h a "java/lang/String" "value" "[B" (.ref b) ∧ Ary Z h b .byte (cs.map latB) ∧ ∀ c ∈ cs, 0 ≤ c.toInt ∧ c.toInt ≤ 255
theorem SL.keep {Z : State} {h h' : Heap} {a b : Addr} {cs : List Int32} {ws : List Addr} (S : SL Z h a b cs) (K : Keep h h' ws) (qa : a ∉ ws) (qb : b ∉ ws) : SL Z h' a b cs := by
  obtain ⟨E, F1, F2, V, q⟩ := S
  exact ⟨E.keep K, F1.keep K qa, F2.keep K qa, V.keep K qb, q⟩
theorem SL.lt {Z : State} {h : Heap} {a b : Addr} {cs : List Int32} (S : SL Z h a b cs) : a < h.size := S.1.lt
theorem SL.ltb {Z : State} {h : Heap} {a b : Addr} {cs : List Int32} (S : SL Z h a b cs) : b < h.size := S.2.2.2.1.lt
theorem own_b8 (c : Int32) : c.toInt8.toInt32.toInt8.toInt32 = c.toInt8.toInt32 := by simp
theorem own_toInt {n : Nat} (h : n < 2 ^ 31) : n.toInt32.toInt = n := len_toInt h
theorem own_ltn {i n : Nat} (h : i < n) (hn : n < 2 ^ 31) : i.toInt32 < n.toInt32 := by
  rw [Int32.lt_iff_toInt_lt, own_toInt (by omega), own_toInt hn]; omega
theorem own_nltn {i n : Nat} (h : n ≤ i) (hn : i < 2 ^ 31) : ¬ i.toInt32 < n.toInt32 := by
  rw [Int32.lt_iff_toInt_lt, own_toInt hn, own_toInt (by omega)]; omega
theorem own_nneg {n : Nat} (hn : n < 2 ^ 31) : ¬ n.toInt32 < 0 := by
  rw [Int32.lt_iff_toInt_lt, own_toInt hn]; simp
theorem own_succ (i : Nat) : i.toInt32 + Int32.ofInt 1 = (i + 1).toInt32 := by
  show Int32.ofNat i + Int32.ofInt 1 = Int32.ofNat (i + 1)
  rw [Int32.ofNat_add]; rfl
theorem own_fill {cs : List Int32} {bs : List Value} {i : Nat} {c : Int32} (hl : bs.length = cs.length) (hc : cs[i]? = some c) : ((cs.take i).map latB ++ bs.drop i).set i (latB c) = (cs.take (i + 1)).map latB ++ bs.drop (i + 1) := by
  have hi : i < cs.length := (List.getElem?_eq_some_iff.mp hc).1
  have e1 : ((cs.take i).map latB).length = i := by simp; omega
  have e2 : bs.drop i = bs[i] :: bs.drop (i + 1) := List.drop_eq_getElem_cons (by omega)
  have e3 : cs.take (i + 1) = cs.take i ++ [c] := by rw [List.take_add_one, hc]; rfl
  rw [List.set_append_right _ _ (by omega), e1, e2, e3, Nat.sub_self, List.set_cons_zero, List.map_append, List.append_assoc]
  rfl
theorem own_back (c : Int32) (h : 0 ≤ c.toInt ∧ c.toInt ≤ 255) : nar .char (c.toInt8.toInt32 &&& 255).toUInt32.toUInt16.toUInt32.toInt32 = c := by
  have e : ∀ n : Fin 256, nar .char ((Int32.ofNat n.1).toInt8.toInt32 &&& 255).toUInt32.toUInt16.toUInt32.toInt32 = Int32.ofNat n.1 := by decide +kernel
  have q : c = Int32.ofNat c.toInt.toNat := by
    apply Int32.toInt_inj.mp
    rw [show Int32.ofNat c.toInt.toNat = c.toInt.toNat.toInt32 from rfl, own_toInt (by omega)]; omega
  rw [q]
  exact e ⟨c.toInt.toNat, by omega⟩
theorem own_csub (n : Int32) : (((n - n).toUInt32 >>> ((31 : Int32) &&& 31).toUInt32).toInt32).toInt8.toInt32 = 0 := by
  rw [Int32.sub_self]; decide
theorem own_nchar {c : Int32} (h : 0 ≤ c.toInt ∧ c.toInt < 65536) : nar .char c = c := by
  have q := c_i2c c
  apply Int32.toInt_inj.mp
  show c.toUInt32.toUInt16.toUInt32.toInt32.toInt = c.toInt
  omega
/-- the JDK's statics that String's methods read -/
def SEnv (Z : State) (cc : Int32) (fm : Value) : Prop := Sta Z Z.heap "java/lang/String" "COMPACT_STRINGS" "Z" (.int cc) ∧ ¬ cc = 0 ∧ Sta Z Z.heap "jdk/internal/util/Preconditions" "SIOOBE_FORMATTER" "Ljava/util/function/BiFunction;" fm ∧ fm.isRef = true
def loB (c : Int32) : Value := .int c.toInt8.toInt32
def hiB (c : Int32) : Value := .int (c >>> ((8 : Int32) &&& 31)).toInt8.toInt32
def utfB : List Int32 → List Value
  | [] => []
  | c :: t => loB c :: hiB c :: utfB t
theorem own_ulen : ∀ cs : List Int32, (utfB cs).length = 2 * cs.length
  | [] => rfl
  | c :: t => by simp only [utfB, List.length_cons, own_ulen t]; omega
theorem own_uapp : ∀ xs ys : List Int32, utfB (xs ++ ys) = utfB xs ++ utfB ys
  | [], ys => rfl
  | c :: t, ys => by simp only [List.cons_append, utfB, own_uapp t ys]
theorem own_uget : ∀ (cs : List Int32) (i : Nat) (c : Int32), cs[i]? = some c → (utfB cs)[2 * i]? = some (loB c) ∧ (utfB cs)[2 * i + 1]? = some (hiB c)
  | [], i, c, h => by simp at h
  | d :: t, 0, c, h => by simp at h; subst h; exact ⟨rfl, rfl⟩
  | d :: t, i + 1, c, h => by
    have q := own_uget t i c (by simpa using h)
    exact ⟨by rw [show 2 * (i + 1) = 2 * i + 1 + 1 from by omega]; simpa [utfB] using q.1, by rw [show 2 * (i + 1) + 1 = 2 * i + 1 + 1 + 1 from by omega]; simpa [utfB] using q.2⟩
theorem own_ufill {cs : List Int32} {bs : List Value} {i : Nat} {c : Int32} (hl : bs.length = 2 * cs.length) (hc : cs[i]? = some c) : ((utfB (cs.take i) ++ bs.drop (2 * i)).set (2 * i) (loB c)).set (2 * i + 1) (hiB c) = utfB (cs.take (i + 1)) ++ bs.drop (2 * (i + 1)) := by
  have hi : i < cs.length := (List.getElem?_eq_some_iff.mp hc).1
  have e1 : (utfB (cs.take i)).length = 2 * i := by rw [own_ulen, List.length_take]; omega
  have e2 : bs.drop (2 * i) = bs[2 * i] :: bs[2 * i + 1] :: bs.drop (2 * i + 1 + 1) := by
    rw [List.drop_eq_getElem_cons (by omega), List.drop_eq_getElem_cons (i := 2 * i + 1) (by omega)]
  have e3 : cs.take (i + 1) = cs.take i ++ [c] := by rw [List.take_add_one, hc]; rfl
  rw [List.set_append_right _ _ (by omega), List.set_append_right _ _ (by omega), e1, e2, e3, own_uapp, List.append_assoc, Nat.sub_self, show 2 * i + 1 - 2 * i = 1 from by omega, show 2 * (i + 1) = 2 * i + 1 + 1 from by omega]
  rfl
theorem own_u16 (c : Int32) (h : 0 ≤ c.toInt ∧ c.toInt < 65536) : nar .char ((((c.toInt8.toInt32 &&& (255 : Int32)) <<< ((0 : Int32) &&& 31)) ||| (((c >>> ((8 : Int32) &&& 31)).toInt8.toInt32 &&& (255 : Int32)) <<< ((8 : Int32) &&& 31))).toUInt32.toUInt16.toUInt32.toInt32) = c := by
  have a1 := c_mask c.toInt8.toInt32 255 8 (by decide) (by decide)
  have a2 := (c_i2b c).1
  have a3 := c_ishl (c.toInt8.toInt32 &&& (255 : Int32)) 0 0 (by decide)
  have r3 := rng32 ((c.toInt8.toInt32 &&& (255 : Int32)) <<< ((0 : Int32) &&& 31))
  have b0 := c_ishr c 8 8 (by decide)
  have b1 := c_mask (c >>> ((8 : Int32) &&& 31)).toInt8.toInt32 255 8 (by decide) (by decide)
  have b2 := (c_i2b (c >>> ((8 : Int32) &&& 31))).1
  have b3 := c_ishl ((c >>> ((8 : Int32) &&& 31)).toInt8.toInt32 &&& (255 : Int32)) 8 8 (by decide)
  have r4 := rng32 (((c >>> ((8 : Int32) &&& 31)).toInt8.toInt32 &&& (255 : Int32)) <<< ((8 : Int32) &&& 31))
  generalize (c.toInt8.toInt32 &&& (255 : Int32)) <<< ((0 : Int32) &&& 31) = X at *
  generalize ((c >>> ((8 : Int32) &&& 31)).toInt8.toInt32 &&& (255 : Int32)) <<< ((8 : Int32) &&& 31) = Y at *
  have o := c_or' X Y 8 (by decide) 256 (by decide) (by omega) (by omega) (by omega)
  have r5 := rng32 (X ||| Y)
  generalize X ||| Y = W at *
  have e : W.toInt = c.toInt := by omega
  have e2 : W = c := Int32.toInt_inj.mp e
  subst e2
  have q := c_i2c W
  have e3 : W.toUInt32.toUInt16.toUInt32.toInt32 = W := by apply Int32.toInt_inj.mp; omega
  rw [e3]; exact own_nchar h
theorem own_shr0 (x : Int32) : x >>> ((0 : Int32) &&& 31) = x := by
  apply Int32.toInt_inj.mp
  rw [c_ishr x 0 0 rfl]
  simp
theorem own_shl1 {k : Nat} (h : k < 2 ^ 29) : k.toInt32 <<< ((1 : Int32) &&& 31) = (2 * k).toInt32 := by
  apply Int32.toInt_inj.mp
  have a := c_ishl k.toInt32 1 1 (by decide)
  have r := rng32 (k.toInt32 <<< ((1 : Int32) &&& 31))
  rw [own_toInt (by omega)] at a ⊢
  omega
theorem own_shr1 {k : Nat} (h : k < 2 ^ 29) : (2 * k).toInt32 >>> ((1 : Int32) &&& 31) = k.toInt32 := by
  apply Int32.toInt_inj.mp
  rw [c_ishr _ 1 1 (by decide), own_toInt (by omega), own_toInt (by omega)]
  omega
theorem own_csub1 {k : Nat} (h0 : 0 < k) (h : k < 2 ^ 29) : (((k.toInt32 - (2 * k).toInt32).toUInt32 >>> ((31 : Int32) &&& 31).toUInt32).toInt32).toInt8.toInt32 = 1 := by
  have a := c_iushr (k.toInt32 - (2 * k).toInt32) 31 31 (by decide) (by decide)
  have b := c_isub k.toInt32 (2 * k).toInt32
  have r := rng32 (k.toInt32 - (2 * k).toInt32)
  rw [own_toInt (by omega), own_toInt (by omega)] at b
  have e : ((k.toInt32 - (2 * k).toInt32).toUInt32 >>> ((31 : Int32) &&& 31).toUInt32).toInt32 = 1 := by
    apply Int32.toInt_inj.mp
    rw [a]
    have : (1 : Int32).toInt = 1 := rfl
    omega
  rw [e]; rfl
/-- a UTF-16 String -/
def SU (Z : State) (h : Heap) (a b : Addr) (cs : List Int32) : Prop := Exa Z h a "java/lang/String" ∧ Fld Z h a "java/lang/String" "coder" "B" (.int 1) ∧ Fld Z h a "java/lang/String" "value" "[B" (.ref b) ∧ Ary Z h b .byte (utfB cs) ∧ (∀ c ∈ cs, 0 ≤ c.toInt ∧ c.toInt < 65536) ∧ cs.length < 2 ^ 29
def SG (Z : State) (h : Heap) (a b : Addr) (cs : List Int32) : Prop := SL Z h a b cs ∨ SU Z h a b cs
theorem SU.keep {Z : State} {h h' : Heap} {a b : Addr} {cs : List Int32} {ws : List Addr} (S : SU Z h a b cs) (K : Keep h h' ws) (qa : a ∉ ws) (qb : b ∉ ws) : SU Z h' a b cs := by
  obtain ⟨E, F1, F2, V, q⟩ := S
  exact ⟨E.keep K, F1.keep K qa, F2.keep K qa, V.keep K qb, q⟩
theorem SG.keep {Z : State} {h h' : Heap} {a b : Addr} {cs : List Int32} {ws : List Addr} (S : SG Z h a b cs) (K : Keep h h' ws) (qa : a ∉ ws) (qb : b ∉ ws) : SG Z h' a b cs := S.imp (fun s => s.keep K qa qb) (fun s => s.keep K qa qb)
theorem SG.exa {Z : State} {h : Heap} {a b : Addr} {cs : List Int32} (S : SG Z h a b cs) : Exa Z h a "java/lang/String" := S.elim (fun s => s.1) (fun s => s.1)
theorem SG.lt {Z : State} {h : Heap} {a b : Addr} {cs : List Int32} (S : SG Z h a b cs) : a < h.size := S.exa.lt
theorem SG.ltb {Z : State} {h : Heap} {a b : Addr} {cs : List Int32} (S : SG Z h a b cs) : b < h.size := S.elim (fun s => s.2.2.2.1.lt) (fun s => s.2.2.2.1.lt)
def SEnvU (Z : State) : Prop := Sta Z Z.heap "java/lang/StringUTF16" "$assertionsDisabled" "Z" (.int 1) ∧ Sta Z Z.heap "java/lang/StringUTF16" "HI_BYTE_SHIFT" "I" (.int 0) ∧ Sta Z Z.heap "java/lang/StringUTF16" "LO_BYTE_SHIFT" "I" (.int 8)
set_option maxRecDepth 65536 in
set_option maxHeartbeats 40000000 in
theorem c_nbl (l : Launch) (Z : State) (a0 : Array Value) (hw : ∀ d ∈ tables_1, d.before a0 Z = true) (hE : EW Z a0 consts_1) (k : Nat) (h0 : Heap) (O : Ext Z.heap h0) (hk : k < 2 ^ 29) :
    Con l Z consts_1 (⟨"java/lang/StringUTF16", "newBytesLength", "(I)I"⟩ : MethodName) jdk_52_method_3_code 1 (Option.some Jvm.ClassFile.FieldType.int) ({ frames := 0, cells := 0, slots := 0, locals := 0 } : Room) #[(.int k.toInt32)] h0 [] (pureQ (some (.int (2 * k).toInt32)) h0) := by
  refine Con.of (a0 := a0) #[.val (.int k.toInt32)] (plainFor_of_name pn_0) hE O all0 (fun m => by first | (simp [entryFrame, mkF, argsToLocals, Value.category]; done) | rfl) ?_
  intro p e s m below meth c T0 hx hby hml hnm hret hlk hh W0
  refine g_iloadN (pc' := 1) W0.here hx (hb hby d_jdk_52_3_0) rfl rfl ?_
  refine g_ifY (pc' := 12) W0.here hx (hb hby d_jdk_52_3_1) rfl (flt (show ¬ (k.toInt32 < (0 : Int32)) from (own_nneg (by omega)))).2.1 ?_
  refine g_iloadN (pc' := 13) W0.here hx (hb hby d_jdk_52_3_12) rfl rfl ?_
  refine w_ldcI (pc' := 15) W0 hx (hw _ (List.mem_of_getElem? w_64)) (hb hby d_jdk_52_3_13) rfl ?_
  refine g_icmpY (pc' := 55) W0.here hx (hb hby d_jdk_52_3_15) rfl (tlt (show k.toInt32 < (1073741823 : Int32) from (by rw [Int32.lt_iff_toInt_lt, own_toInt (by omega)]; have : (1073741823 : Int32).toInt = 1073741823 := rfl; omega))).1 ?_
  refine g_iloadN (pc' := 56) W0.here hx (hb hby d_jdk_52_3_55) rfl rfl ?_
  refine g_iconst (1 : Int32) (pc' := 57) W0.here hx (hb hby d_jdk_52_3_56) rfl rfl ?_
  refine g_ishl (pc' := 58) W0.here hx (hb hby d_jdk_52_3_57) rfl ?_
  refine w_retI W0 hx hh hlk hret (hb hby d_jdk_52_3_58) (Nat.le_of_ble_eq_true rfl) (Nat.le_of_ble_eq_true rfl) ?_
  exact ⟨congrArg (fun z => some (Value.int z)) (own_shl1 hk), rfl⟩
set_option maxRecDepth 65536 in
set_option maxHeartbeats 40000000 in
theorem c_nbf (l : Launch) (Z : State) (a0 : Array Value) (hw : ∀ d ∈ tables_1, d.before a0 Z = true) (hE : EW Z a0 consts_1) (k : Nat) (h0 : Heap) (O : Ext Z.heap h0) (hk : k ≤ 3) :
    ConF l Z consts_1 (⟨"java/lang/StringUTF16", "newBytesFor", "(I)[B"⟩ : MethodName) jdk_52_method_2_code 1 (Option.some (Jvm.ClassFile.FieldType.array Jvm.ClassFile.FieldType.byte)) ({ frames := 1, cells := 1, slots := 6, locals := 12 } : Room) #[(.int k.toInt32)] h0 [] (fun N v h => ∃ ba : Nat, N = [ba] ∧ v = some (.ref ba) ∧ Ary Z h ba .byte (List.replicate (2 * k) (.int 0))) := by
  refine ConF.of (a0 := a0) #[.val (.int k.toInt32)] (plainFor_of_name pn_0) hE O all0 (fun m => by first | (simp [entryFrame, mkF, argsToLocals, Value.category]; done) | rfl) ?_
  intro p e s m below meth c T0 hx hby hml hnm hret hlk hh W0
  refine g_iloadN (pc' := 1) W0.here hx (hb hby d_jdk_52_2_0) rfl rfl ?_
  refine w_callSp (pc' := 4) (st := []) (y := (⟨"java/lang/StringUTF16", "newBytesLength", "(I)I"⟩ : MethodName)) W0 hx [(.int k.toInt32)] (hw _ (List.mem_of_getElem? w_61)) (hw _ (List.mem_of_getElem? w_62)) (hw _ (List.mem_of_getElem? w_25)) (hw _ (List.mem_of_getElem? w_63)) (by decide) (c_nbl l Z a0 hw hE k h0 W0.old (by omega)) (by rw [hml]; rfl) (lenOf pd_0 rfl) rfl (hb hby d_jdk_52_2_1) (Nat.le_of_ble_eq_true rfl) (Nat.le_of_ble_eq_true rfl) rfl rfl (Nat.le_of_ble_eq_true rfl) (Nat.le_of_ble_eq_true rfl) rfl fun T1 W1 => ?_
  refine w_newarr (pc' := 6) (cap := 6) W1 hx (hw _ (List.mem_of_getElem? w_27)) (hb hby d_jdk_52_2_4) (own_nneg (by omega)) (by rw [i32_nat (by omega)]; omega) (Nat.le_of_ble_eq_true rfl) (Nat.le_of_ble_eq_true rfl) (Nat.le_of_ble_eq_true rfl) rfl rfl fun T2 h2 b2 g2 W2 K2 V2 => ?_
  have z_K2 : h0.size ≤ h2.size := K2.1
  have lt_b2 : b2 < h2.size := W2.lt (List.mem_cons_self ..)
  rw [i32_nat (by omega)] at V2
  refine w_retAF W2 hx hh hlk hret rfl rfl (hb hby d_jdk_52_2_6) (Nat.le_of_ble_eq_true rfl) (Nat.le_of_ble_eq_true rfl) [b2] (allS (List.mem_of_getElem? (i := 0) rfl) all0) ?_
  exact ⟨_, rfl, rfl, V2⟩
set_option maxRecDepth 65536 in
set_option maxHeartbeats 40000000 in
theorem c_putChar (l : Launch) (Z : State) (a0 : Array Value) (hw : ∀ d ∈ tables_1, d.before a0 Z = true) (hE : EW Z a0 consts_1) (cc : Int32) (fm : Value) (ba i : Nat) (cv : Int32) (bs : List Value) (h0 : Heap) (O : Ext Z.heap h0) (G : SEnv Z cc fm) (GU : SEnvU Z) (VB : Ary Z h0 ba .byte bs) (hi : 2 * i + 1 < bs.length) (hbl : bs.length < 2 ^ 29) (hz : Z.heap.size ≤ ba) :
    Con l Z consts_1 (⟨"java/lang/StringUTF16", "putChar", "([BII)V"⟩ : MethodName) jdk_52_method_4_code 3 (Option.none : Option Jvm.ClassFile.FieldType) ({ frames := 0, cells := 0, slots := 0, locals := 0 } : Room) #[(.ref ba), (.int i.toInt32), (.int cv)] h0 [ba] (fun v h => v = none ∧ Ary Z h ba .byte ((bs.set (2 * i) (loB cv)).set (2 * i + 1) (hiB cv))) := by
  refine Con.of (a0 := a0) #[.val (.ref ba), .val (.int i.toInt32), .val (.int cv)] (plainFor_of_name pn_0) hE O (allS ⟨hz, VB.lt⟩ all0) (fun m => by first | (simp [entryFrame, mkF, argsToLocals, Value.category]; done) | rfl) ?_
  intro p e s m below meth c T0 hx hby hml hnm hret hlk hh W0
  refine w_getS (pc' := 3) W0 hx (hw _ (List.mem_of_getElem? w_68)) Via.refl GU.1 (hb hby d_jdk_52_4_0) rfl fun T3 W3 => ?_
  refine g_ifY (pc' := 28) W3.here hx (hb hby d_jdk_52_4_3) rfl (feq (show ¬ ((1 : Int32) = (0 : Int32)) from (by decide))).2 ?_
  refine g_iloadN (pc' := 29) W3.here hx (hb hby d_jdk_52_4_28) rfl rfl ?_
  refine g_iconst (1 : Int32) (pc' := 30) W3.here hx (hb hby d_jdk_52_4_29) rfl rfl ?_
  refine g_ishl (pc' := 31) W3.here hx (hb hby d_jdk_52_4_30) rfl ?_
  refine g_name (w := .int (2 * i).toInt32) (congrArg Value.int (own_shl1 (by omega)).symm) ?_
  refine g_istoreN (pc' := 32) (Ls' := #[.val (.ref ba), .val (.int (2 * i).toInt32), .val (.int cv)]) W3.here hx (hb hby d_jdk_52_4_31) rfl rfl ?_
  refine g_aloadN (pc' := 33) W3.here hx (hb hby d_jdk_52_4_32) rfl rfl rfl ?_
  refine g_iloadN (pc' := 34) W3.here hx (hb hby d_jdk_52_4_33) rfl rfl ?_
  refine g_iincV (2 * i + 1).toInt32 (pc' := 37) (Ls' := #[.val (.ref ba), .val (.int (2 * i + 1).toInt32), .val (.int cv)]) W3.here hx (hb hby d_jdk_52_4_34) (own_succ (2 * i)) rfl rfl rfl ?_
  refine g_iloadN (pc' := 38) W3.here hx (hb hby d_jdk_52_4_37) rfl rfl ?_
  refine w_getS (pc' := 41) W3 hx (hw _ (List.mem_of_getElem? w_69)) Via.refl GU.2.1 (hb hby d_jdk_52_4_38) rfl fun T4 W4 => ?_
  refine g_ishr (pc' := 42) W4.here hx (hb hby d_jdk_52_4_41) rfl ?_
  refine g_i2b (pc' := 43) W4.here hx (hb hby d_jdk_52_4_42) rfl ?_
  refine w_bastore (pc' := 44) (x' := cv.toInt8.toInt32) W4 hx VB (own_nneg (by omega)) (by rw [i32_nat (by omega)]; first | omega | (simp; omega)) (List.mem_of_getElem? (i := 0) rfl) (by rw [own_shr0, own_b8]) (hb hby d_jdk_52_4_43) rfl fun T5 h5 W5 K5 V5 => ?_
  have z_K5 : h0.size ≤ h5.size := K5.1
  have V5 : Ary Z h5 ba .byte (bs.set (2 * i) (loB cv)) := by rw [i32_nat (by omega)] at V5; exact V5
  refine g_aloadN (pc' := 45) W5.here hx (hb hby d_jdk_52_4_44) rfl rfl rfl ?_
  refine g_iloadN (pc' := 46) W5.here hx (hb hby d_jdk_52_4_45) rfl rfl ?_
  refine g_iloadN (pc' := 47) W5.here hx (hb hby d_jdk_52_4_46) rfl rfl ?_
  refine w_getS (pc' := 50) W5 hx (hw _ (List.mem_of_getElem? w_70)) Via.refl GU.2.2 (hb hby d_jdk_52_4_47) rfl fun T6 W6 => ?_
  refine g_ishr (pc' := 51) W6.here hx (hb hby d_jdk_52_4_50) rfl ?_
  refine g_i2b (pc' := 52) W6.here hx (hb hby d_jdk_52_4_51) rfl ?_
  refine w_bastore (pc' := 53) (x' := (cv >>> ((8 : Int32) &&& 31)).toInt8.toInt32) W6 hx V5 (own_nneg (by omega)) (by rw [i32_nat (by omega)]; first | omega | (simp; omega)) (List.mem_of_getElem? (i := 0) rfl) (own_b8 _) (hb hby d_jdk_52_4_52) rfl fun T7 h7 W7 K7 V7 => ?_
  have z_K7 : h5.size ≤ h7.size := K7.1
  have V7 : Ary Z h7 ba .byte ((bs.set (2 * i) (loB cv)).set (2 * i + 1) (hiB cv)) := by rw [i32_nat (by omega)] at V7; exact V7
  refine w_retV W7 hx hh hlk hret (hb hby d_jdk_52_4_53) (Nat.le_of_ble_eq_true rfl) (Nat.le_of_ble_eq_true rfl) ?_
  exact ⟨rfl, V7⟩
set_option maxRecDepth 65536 in
set_option maxHeartbeats 40000000 in
theorem c_getChar (l : Launch) (Z : State) (a0 : Array Value) (hw : ∀ d ∈ tables_1, d.before a0 Z = true) (hE : EW Z a0 consts_1) (cc : Int32) (fm : Value) (ba i : Nat) (cv : Int32) (bs : List Value) (h0 : Heap) (O : Ext Z.heap h0) (G : SEnv Z cc fm) (GU : SEnvU Z) (VB : Ary Z h0 ba .byte bs) (hi : i < 2 ^ 28) (hg1 : bs[2 * i]? = some (loB cv)) (hg2 : bs[2 * i + 1]? = some (hiB cv)) (hcv : 0 ≤ cv.toInt ∧ cv.toInt < 65536) :
    Con l Z consts_1 (⟨"java/lang/StringUTF16", "getChar", "([BI)C"⟩ : MethodName) jdk_52_method_5_code 2 (Option.some Jvm.ClassFile.FieldType.char) ({ frames := 0, cells := 0, slots := 0, locals := 0 } : Room) #[(.ref ba), (.int i.toInt32)] h0 [] (pureQ (some (.int cv)) h0) := by
  refine Con.of (a0 := a0) #[.val (.ref ba), .val (.int i.toInt32)] (plainFor_of_name pn_0) hE O all0 (fun m => by first | (simp [entryFrame, mkF, argsToLocals, Value.category]; done) | rfl) ?_
  intro p e s m below meth c T0 hx hby hml hnm hret hlk hh W0
  refine w_getS (pc' := 3) W0 hx (hw _ (List.mem_of_getElem? w_68)) Via.refl GU.1 (hb hby d_jdk_52_5_0) rfl fun T8 W8 => ?_
  refine g_ifY (pc' := 28) W8.here hx (hb hby d_jdk_52_5_3) rfl (feq (show ¬ ((1 : Int32) = (0 : Int32)) from (by decide))).2 ?_
  refine g_iloadN (pc' := 29) W8.here hx (hb hby d_jdk_52_5_28) rfl rfl ?_
  refine g_iconst (1 : Int32) (pc' := 30) W8.here hx (hb hby d_jdk_52_5_29) rfl rfl ?_
  refine g_ishl (pc' := 31) W8.here hx (hb hby d_jdk_52_5_30) rfl ?_
  refine g_name (w := .int (2 * i).toInt32) (congrArg Value.int (own_shl1 (by omega)).symm) ?_
  refine g_istoreN (pc' := 32) (Ls' := #[.val (.ref ba), .val (.int (2 * i).toInt32)]) W8.here hx (hb hby d_jdk_52_5_31) rfl rfl ?_
  refine g_aloadN (pc' := 33) W8.here hx (hb hby d_jdk_52_5_32) rfl rfl rfl ?_
  refine g_iloadN (pc' := 34) W8.here hx (hb hby d_jdk_52_5_33) rfl rfl ?_
  refine g_iincV (2 * i + 1).toInt32 (pc' := 37) (Ls' := #[.val (.ref ba), .val (.int (2 * i + 1).toInt32)]) W8.here hx (hb hby d_jdk_52_5_34) (own_succ (2 * i)) rfl rfl rfl ?_
  refine w_baload (pc' := 38) (v := (.int cv.toInt8.toInt32)) W8 hx VB (own_nneg (by omega)) (by rw [i32_nat (by omega)]; exact hg1) (hb hby d_jdk_52_5_37) rfl ?_
  refine g_sipush (255 : Int32) (pc' := 41) W8.here hx (hb hby d_jdk_52_5_38) rfl rfl ?_
  refine g_iand (pc' := 42) W8.here hx (hb hby d_jdk_52_5_41) rfl ?_
  refine w_getS (pc' := 45) W8 hx (hw _ (List.mem_of_getElem? w_69)) Via.refl GU.2.1 (hb hby d_jdk_52_5_42) rfl fun T9 W9 => ?_
  refine g_ishl (pc' := 46) W9.here hx (hb hby d_jdk_52_5_45) rfl ?_
  refine g_aloadN (pc' := 47) W9.here hx (hb hby d_jdk_52_5_46) rfl rfl rfl ?_
  refine g_iloadN (pc' := 48) W9.here hx (hb hby d_jdk_52_5_47) rfl rfl ?_
  refine w_baload (pc' := 49) (v := (.int (cv >>> ((8 : Int32) &&& 31)).toInt8.toInt32)) W9 hx VB (own_nneg (by omega)) (by rw [i32_nat (by omega)]; exact hg2) (hb hby d_jdk_52_5_48) rfl ?_
  refine g_sipush (255 : Int32) (pc' := 52) W9.here hx (hb hby d_jdk_52_5_49) rfl rfl ?_
  refine g_iand (pc' := 53) W9.here hx (hb hby d_jdk_52_5_52) rfl ?_
  refine w_getS (pc' := 56) W9 hx (hw _ (List.mem_of_getElem? w_70)) Via.refl GU.2.2 (hb hby d_jdk_52_5_53) rfl fun T10 W10 => ?_
  refine g_ishl (pc' := 57) W10.here hx (hb hby d_jdk_52_5_56) rfl ?_
  refine g_ior (pc' := 58) W10.here hx (hb hby d_jdk_52_5_57) rfl ?_
  refine g_i2c (pc' := 59) W10.here hx (hb hby d_jdk_52_5_58) rfl ?_
  refine w_retN (t := .char) W10 hx hh hlk hret (by simp) (hb hby d_jdk_52_5_59) (Nat.le_of_ble_eq_true rfl) (Nat.le_of_ble_eq_true rfl) ?_
  exact ⟨congrArg (fun z => some (Value.int z)) (own_u16 cv hcv), rfl⟩
set_option maxRecDepth 65536 in
set_option maxHeartbeats 40000000 in
theorem c_toBytes (l : Launch) (Z : State) (a0 : Array Value) (hw : ∀ d ∈ tables_1, d.before a0 Z = true) (hE : EW Z a0 consts_1) (cc : Int32) (fm : Value) (ca : Nat) (cs : List Int32) (h0 : Heap) (O : Ext Z.heap h0) (G : SEnv Z cc fm) (GU : SEnvU Z) (hn : cs.length ≤ 3) (hch : ∀ c ∈ cs, 0 ≤ c.toInt ∧ c.toInt < 65536) (VA : Ary Z h0 ca .char (cs.map Value.int))  :
    Con l Z consts_1 (⟨"java/lang/StringUTF16", "toBytes", "([CII)[B"⟩ : MethodName) jdk_52_method_14_code 5 (Option.some (Jvm.ClassFile.FieldType.array Jvm.ClassFile.FieldType.byte)) ({ frames := 2, cells := 1, slots := 6, locals := 24 } : Room) #[(.ref ca), (.int (0 : Int32)), (.int cs.length.toInt32)] h0 [] (fun v h => ∃ ba : Nat, v = some (.ref ba) ∧ h0.size ≤ ba ∧ Ary Z h ba .byte (utfB cs)) := by
  refine Con.of (a0 := a0) #[.val (.ref ca), .val (.int (0 : Int32)), .val (.int cs.length.toInt32), .unset, .unset] (plainFor_of_name pn_0) hE O all0 (fun m => by first | (simp [entryFrame, mkF, argsToLocals, Value.category]; done) | rfl) ?_
  intro p e s m below meth c T0 hx hby hml hnm hret hlk hh W0
  have hn31 : cs.length < 2 ^ 29 := by omega
  have lt_ca : ca < h0.size := VA.lt
  refine g_iloadN (pc' := 1) W0.here hx (hb hby d_jdk_52_14_0) rfl rfl ?_
  refine w_callSF (pc' := 4) (st := []) (y := (⟨"java/lang/StringUTF16", "newBytesFor", "(I)[B"⟩ : MethodName)) W0 hx [(.int cs.length.toInt32)] (hw _ (List.mem_of_getElem? w_58)) (hw _ (List.mem_of_getElem? w_59)) (hw _ (List.mem_of_getElem? w_25)) (hw _ (List.mem_of_getElem? w_60)) (by decide) (c_nbf l Z a0 hw hE cs.length h0 W0.old hn) all0 (by rw [hml]; rfl) (lenOf pd_1 rfl) rfl (hb hby d_jdk_52_14_1) (Nat.le_of_ble_eq_true rfl) (Nat.le_of_ble_eq_true rfl) (Nat.le_of_ble_eq_true rfl) (Nat.le_of_ble_eq_true rfl) rfl fun N11 v11 T11 h11 W11 K11 G11 Q11 => ?_
  have z_K11 : h0.size ≤ h11.size := K11.1
  obtain ⟨ba12, rfl, rfl, V12⟩ := Q11
  have gz12 := (G11 ba12 (List.mem_cons_self ..)).1
  have ne_ca_ba12 : ca ≠ ba12 := by omega
  have lt_ba12 : ba12 < h11.size := V12.lt
  refine g_astoreN (pc' := 5) (Ls' := #[.val (.ref ca), .val (.int (0 : Int32)), .val (.int cs.length.toInt32), .val (.ref ba12), .unset]) W11.here hx (hb hby d_jdk_52_14_4) rfl rfl rfl ?_
  refine g_iconst (0 : Int32) (pc' := 6) W11.here hx (hb hby d_jdk_52_14_5) rfl rfl ?_
  refine g_istore (pc' := 8) (Ls' := #[.val (.ref ca), .val (.int (0 : Int32)), .val (.int cs.length.toInt32), .val (.ref ba12), .val (.int (0 : Int32))]) W11.here hx (hb hby d_jdk_52_14_6) rfl rfl ?_
  obtain ⟨ba, hba⟩ : ∃ z : Nat, z = ba12 := ⟨_, rfl⟩
  have hzb : Z.heap.size ≤ ba := by have := O.1; omega
  obtain ⟨bs, hbs⟩ : ∃ z : List Value, z = List.replicate (2 * cs.length) (.int 0) := ⟨_, rfl⟩
  have hbl : bs.length = 2 * cs.length := by rw [hbs]; simp
  have hneb : ca ≠ ba := by omega
  have c13 := (VA.keep K11 nin0)
  have LOOP : ∀ (k i : Nat), i + k = cs.length → ∀ (TL : State) (hL : Heap), Wk p l e ({ frames := 2, cells := 1, slots := 6, locals := 24 } : Room) s m #[(.ref ca), (.int (0 : Int32)), (.int cs.length.toInt32)] below meth c Z consts_1 "java/lang/StringUTF16" [] [ba] TL hL 1 6 → Keep h11 hL [ba] → Ary Z hL ba .byte (utfB (cs.take i) ++ bs.drop (2 * i)) → Gets p.tables e below (Post s Z consts_1 ({ frames := 2, cells := 1, slots := 6, locals := 24 } : Room) h0 [] (fun v h => ∃ ba : Nat, v = some (.ref ba) ∧ h0.size ≤ ba ∧ Ary Z h ba .byte (utfB cs))) TL (mkF m 8 #[.val (.ref ca), .val (.int i.toInt32), .val (.int cs.length.toInt32), .val (.ref ba), .val (.int i.toInt32)] []) := by
    intro k
    induction k with
    | zero =>
      intro i hi TL hL WL KL VBL
      have VAL := (c13).keep KL (ninS hneb nin0)
      refine g_iload (pc' := 10) WL.here hx (hb hby d_jdk_52_14_8) rfl rfl ?_
      refine g_iloadN (pc' := 11) WL.here hx (hb hby d_jdk_52_14_10) rfl rfl ?_
      refine g_icmpY (pc' := 32) WL.here hx (hb hby d_jdk_52_14_11) rfl (flt (show ¬ (i.toInt32 < cs.length.toInt32) from (own_nltn (by omega) (by omega)))).2.1 ?_
      refine g_aloadN (pc' := 33) WL.here hx (hb hby d_jdk_52_14_32) rfl rfl rfl ?_
      refine w_retA WL hx hh hlk hret rfl rfl (hb hby d_jdk_52_14_33) (Nat.le_of_ble_eq_true rfl) (Nat.le_of_ble_eq_true rfl) ?_
      have e1 : i = cs.length := by omega
      subst e1
      rw [List.take_length, List.drop_eq_nil_of_le (by omega), List.append_nil] at VBL
      exact ⟨_, rfl, by omega, VBL⟩
    | succ k ih =>
      intro i hi TL hL WL KL VBL
      have VAL := (c13).keep KL (ninS hneb nin0)
      obtain ⟨ci, hci⟩ : ∃ ci, cs[i]? = some ci := ⟨_, List.getElem?_eq_getElem (by omega)⟩
      refine g_iload (pc' := 10) WL.here hx (hb hby d_jdk_52_14_8) rfl rfl ?_
      refine g_iloadN (pc' := 11) WL.here hx (hb hby d_jdk_52_14_10) rfl rfl ?_
      refine g_icmpN (pc' := 14) WL.here hx (hb hby d_jdk_52_14_11) rfl (tlt (show i.toInt32 < cs.length.toInt32 from (own_ltn (by omega) (by omega)))).2.1 ?_
      refine g_aloadN (pc' := 15) WL.here hx (hb hby d_jdk_52_14_14) rfl rfl rfl ?_
      refine g_iload (pc' := 17) WL.here hx (hb hby d_jdk_52_14_15) rfl rfl ?_
      refine g_aloadN (pc' := 18) WL.here hx (hb hby d_jdk_52_14_17) rfl rfl rfl ?_
      refine g_iloadN (pc' := 19) WL.here hx (hb hby d_jdk_52_14_18) rfl rfl ?_
      refine w_caload (pc' := 20) (v := (.int ci)) WL hx VAL (own_nneg (by omega)) (by rw [i32_nat (by omega), List.getElem?_map, hci]; rfl) (hb hby d_jdk_52_14_19) rfl ?_
      refine w_callS (pc' := 23) (st := []) (y := (⟨"java/lang/StringUTF16", "putChar", "([BII)V"⟩ : MethodName)) WL hx [(.ref ba), (.int i.toInt32), (.int ci)] (hw _ (List.mem_of_getElem? w_65)) (hw _ (List.mem_of_getElem? w_66)) (hw _ (List.mem_of_getElem? w_25)) (hw _ (List.mem_of_getElem? w_67)) (by decide) (c_putChar l Z a0 hw hE cc fm ba i ci _ hL WL.old G GU VBL (by rw [List.length_append, own_ulen, List.length_take, List.length_drop]; omega) (by rw [List.length_append, own_ulen, List.length_take, List.length_drop]; omega) hzb) (allS (List.mem_of_getElem? (i := 0) rfl) all0) (by rw [hml]; rfl) (lenOf pd_2 rfl) rfl (hb hby d_jdk_52_14_20) (Nat.le_of_ble_eq_true rfl) (Nat.le_of_ble_eq_true rfl) (Nat.le_of_ble_eq_true rfl) (Nat.le_of_ble_eq_true rfl) rfl fun v14 T14 h14 W14 K14 Q14 => ?_
      have z_K14 : hL.size ≤ h14.size := K14.1
      obtain ⟨rfl, V15⟩ := Q14
      rw [own_ufill hbl hci] at V15
      refine g_iincV (i + 1).toInt32 (pc' := 26) (Ls' := #[.val (.ref ca), .val (.int (i + 1).toInt32), .val (.int cs.length.toInt32), .val (.ref ba), .val (.int i.toInt32)]) W14.here hx (hb hby d_jdk_52_14_23) (own_succ i) rfl rfl rfl ?_
      refine g_iincV (i + 1).toInt32 (pc' := 29) (Ls' := #[.val (.ref ca), .val (.int (i + 1).toInt32), .val (.int cs.length.toInt32), .val (.ref ba), .val (.int (i + 1).toInt32)]) W14.here hx (hb hby d_jdk_52_14_26) (own_succ i) rfl rfl rfl ?_
      refine g_goto (pc' := 8) W14.here hx (hb hby d_jdk_52_14_29) rfl ?_
      exact ih (i + 1) (by omega) _ _ W14 (KL.trans K14 (fun x q => Or.inl q)) V15
  rw [← hba] at V12 W11 ⊢
  rw [← hbs] at V12
  exact LOOP cs.length 0 (by omega) _ _ W11 (Keep.refl _ _) (by simpa [utfB] using V12)
theorem own_pre1 {cs : List Int32} {i : Nat} {ci : Int32} (H : ∀ c ∈ cs.take i, ¬ (255 : Int32) < c) (hc : cs[i]? = some ci) (q : ¬ (255 : Int32) < ci) : ∀ c ∈ cs.take (i + 1), ¬ (255 : Int32) < c := fun c hm => by
  rw [List.take_add_one, hc] at hm
  rcases List.mem_append.mp hm with z | z
  · exact H c z
  · simp at z; rw [z]; exact q
set_option maxRecDepth 65536 in
set_option maxHeartbeats 40000000 in
theorem c_compr (l : Launch) (Z : State) (a0 : Array Value) (hw : ∀ d ∈ tables_1, d.before a0 Z = true) (hE : EW Z a0 consts_1) (ca ba : Nat) (cs : List Int32) (bs : List Value) (h0 : Heap) (O : Ext Z.heap h0) (hn : cs.length ≤ 3) (hch : ∀ c ∈ cs, 0 ≤ c.toInt ∧ c.toInt < 65536) (VA : Ary Z h0 ca .char (cs.map Value.int)) (VB : Ary Z h0 ba .byte bs) (hbl : bs.length = cs.length) (hne : ca ≠ ba) (hz : Z.heap.size ≤ ba) :
    Con l Z consts_1 (⟨"java/lang/StringUTF16", "compress", "([CI[BII)I"⟩ : MethodName) jdk_52_method_21_code 7 (Option.some Jvm.ClassFile.FieldType.int) ({ frames := 0, cells := 0, slots := 0, locals := 0 } : Room) #[(.ref ca), (.int (0 : Int32)), (.ref ba), (.int (0 : Int32)), (.int cs.length.toInt32)] h0 [ba] (fun v h => (v = some (.int cs.length.toInt32) ∧ (∀ c ∈ cs, ¬ (255 : Int32) < c) ∧ Ary Z h ba .byte (cs.map latB)) ∨ (∃ (i : Nat) (ci : Int32), i < cs.length ∧ cs[i]? = some ci ∧ (255 : Int32) < ci ∧ v = some (.int i.toInt32))) := by
  refine Con.of (a0 := a0) #[.val (.ref ca), .val (.int (0 : Int32)), .val (.ref ba), .val (.int (0 : Int32)), .val (.int cs.length.toInt32), .unset, .unset] (plainFor_of_name pn_0) hE O (allS ⟨hz, VB.lt⟩ all0) (fun m => by first | (simp [entryFrame, mkF, argsToLocals, Value.category]; done) | rfl) ?_
  intro p e s m below meth c T0 hx hby hml hnm hret hlk hh W0
  have hn31 : cs.length < 2 ^ 29 := by omega
  refine g_iconst (0 : Int32) (pc' := 1) W0.here hx (hb hby d_jdk_52_21_0) rfl rfl ?_
  refine g_istore (pc' := 3) (Ls' := #[.val (.ref ca), .val (.int (0 : Int32)), .val (.ref ba), .val (.int (0 : Int32)), .val (.int cs.length.toInt32), .val (.int (0 : Int32)), .unset]) W0.here hx (hb hby d_jdk_52_21_1) rfl rfl ?_
  have LOOP : ∀ (k i : Nat), i + k = cs.length → ∀ (TL : State) (hL : Heap) (o6 : Slot), One o6 → Wk p l e ({ frames := 0, cells := 0, slots := 0, locals := 0 } : Room) s m #[(.ref ca), (.int (0 : Int32)), (.ref ba), (.int (0 : Int32)), (.int cs.length.toInt32)] below meth c Z consts_1 "java/lang/StringUTF16" [ba] [] TL hL 0 0 → Keep h0 hL [ba] → Ary Z hL ba .byte ((cs.take i).map latB ++ bs.drop i) → (∀ c ∈ cs.take i, ¬ (255 : Int32) < c) → Gets p.tables e below (Post s Z consts_1 ({ frames := 0, cells := 0, slots := 0, locals := 0 } : Room) h0 [ba] (fun v h => (v = some (.int cs.length.toInt32) ∧ (∀ c ∈ cs, ¬ (255 : Int32) < c) ∧ Ary Z h ba .byte (cs.map latB)) ∨ (∃ (i : Nat) (ci : Int32), i < cs.length ∧ cs[i]? = some ci ∧ (255 : Int32) < ci ∧ v = some (.int i.toInt32)))) TL (mkF m 3 #[.val (.ref ca), .val (.int i.toInt32), .val (.ref ba), .val (.int i.toInt32), .val (.int cs.length.toInt32), .val (.int i.toInt32), o6] []) := by
    intro k
    induction k with
    | zero =>
      intro i hi TL hL o6 ho6 WL KL VBL HP
      have VAL := VA.keep KL (ninS hne nin0)
      refine g_iload (pc' := 5) WL.here hx (hb hby d_jdk_52_21_3) rfl rfl ?_
      refine g_iload (pc' := 7) WL.here hx (hb hby d_jdk_52_21_5) rfl rfl ?_
      refine g_icmpY (pc' := 44) WL.here hx (hb hby d_jdk_52_21_7) rfl (flt (show ¬ (i.toInt32 < cs.length.toInt32) from (own_nltn (by omega) (by omega)))).2.1 ?_
      refine g_iload (pc' := 46) WL.here hx (hb hby d_jdk_52_21_44) rfl rfl ?_
      refine w_retI WL hx hh hlk hret (hb hby d_jdk_52_21_46) (Nat.le_of_ble_eq_true rfl) (Nat.le_of_ble_eq_true rfl) ?_
      have e1 : i = cs.length := by omega
      subst e1
      rw [List.take_length] at HP VBL
      rw [List.drop_eq_nil_of_le (by omega), List.append_nil] at VBL
      exact Or.inl ⟨rfl, HP, VBL⟩
    | succ k ih =>
      intro i hi TL hL o6 ho6 WL KL VBL HP
      have VAL := VA.keep KL (ninS hne nin0)
      have hi2 : i < cs.length := by omega
      obtain ⟨ci, hci⟩ : ∃ ci, cs[i]? = some ci := ⟨_, List.getElem?_eq_getElem hi2⟩
      refine g_iload (pc' := 5) WL.here hx (hb hby d_jdk_52_21_3) rfl rfl ?_
      refine g_iload (pc' := 7) WL.here hx (hb hby d_jdk_52_21_5) rfl rfl ?_
      refine g_icmpN (pc' := 10) WL.here hx (hb hby d_jdk_52_21_7) rfl (tlt (show i.toInt32 < cs.length.toInt32 from (own_ltn hi2 (by omega)))).2.1 ?_
      refine g_aloadN (pc' := 11) WL.here hx (hb hby d_jdk_52_21_10) rfl rfl rfl ?_
      refine g_iloadN (pc' := 12) WL.here hx (hb hby d_jdk_52_21_11) rfl rfl ?_
      refine w_caload (pc' := 13) (v := (.int ci)) WL hx VAL (own_nneg (by omega)) (by rw [i32_nat (by omega), List.getElem?_map, hci]; rfl) (hb hby d_jdk_52_21_12) rfl ?_
      refine g_istore (pc' := 15) (Ls' := #[.val (.ref ca), .val (.int i.toInt32), .val (.ref ba), .val (.int i.toInt32), .val (.int cs.length.toInt32), .val (.int i.toInt32), .val (.int ci)]) WL.here hx (hb hby d_jdk_52_21_13) (XS.store1 (o := o6) rfl ho6 rfl) rfl ?_
      refine g_iload (pc' := 17) WL.here hx (hb hby d_jdk_52_21_15) rfl rfl ?_
      refine g_sipush (255 : Int32) (pc' := 20) WL.here hx (hb hby d_jdk_52_21_17) rfl rfl ?_
      by_cases hc20_16 : (255 : Int32) < ci
      · refine g_icmpN (pc' := 23) WL.here hx (hb hby d_jdk_52_21_20) rfl (tlt hc20_16).2.2.2 ?_
        refine g_iload (pc' := 25) WL.here hx (hb hby d_jdk_52_21_23) rfl rfl ?_
        refine w_retI WL hx hh hlk hret (hb hby d_jdk_52_21_25) (Nat.le_of_ble_eq_true rfl) (Nat.le_of_ble_eq_true rfl) ?_
        exact Or.inr ⟨i, ci, hi2, hci, hc20_16, rfl⟩
      · refine g_icmpY (pc' := 26) WL.here hx (hb hby d_jdk_52_21_20) rfl (flt hc20_16).2.2.2 ?_
        refine g_aloadN (pc' := 27) WL.here hx (hb hby d_jdk_52_21_26) rfl rfl rfl ?_
        refine g_iloadN (pc' := 28) WL.here hx (hb hby d_jdk_52_21_27) rfl rfl ?_
        refine g_iload (pc' := 30) WL.here hx (hb hby d_jdk_52_21_28) rfl rfl ?_
        refine g_i2b (pc' := 31) WL.here hx (hb hby d_jdk_52_21_30) rfl ?_
        refine w_bastore (pc' := 32) (x' := ci.toInt8.toInt32) WL hx VBL (own_nneg (by omega)) (by rw [i32_nat (by omega)]; simp; omega) (List.mem_of_getElem? (i := 0) rfl) (own_b8 ci) (hb hby d_jdk_52_21_31) rfl fun T17 h17 W17 K17 V17 => ?_
        have z_K17 : hL.size ≤ h17.size := K17.1
        have V17 : Ary Z h17 ba .byte ((cs.take (i + 1)).map latB ++ bs.drop (i + 1)) := by rw [i32_nat (by omega)] at V17; rw [← own_fill hbl hci]; exact V17
        refine g_iincV (i + 1).toInt32 (pc' := 35) (Ls' := #[.val (.ref ca), .val (.int (i + 1).toInt32), .val (.ref ba), .val (.int i.toInt32), .val (.int cs.length.toInt32), .val (.int i.toInt32), .val (.int ci)]) W17.here hx (hb hby d_jdk_52_21_32) (own_succ i) rfl rfl rfl ?_
        refine g_iincV (i + 1).toInt32 (pc' := 38) (Ls' := #[.val (.ref ca), .val (.int (i + 1).toInt32), .val (.ref ba), .val (.int (i + 1).toInt32), .val (.int cs.length.toInt32), .val (.int i.toInt32), .val (.int ci)]) W17.here hx (hb hby d_jdk_52_21_35) (own_succ i) rfl rfl rfl ?_
        refine g_iincV (i + 1).toInt32 (pc' := 41) (Ls' := #[.val (.ref ca), .val (.int (i + 1).toInt32), .val (.ref ba), .val (.int (i + 1).toInt32), .val (.int cs.length.toInt32), .val (.int (i + 1).toInt32), .val (.int ci)]) W17.here hx (hb hby d_jdk_52_21_38) (own_succ i) rfl rfl rfl ?_
        refine g_goto (pc' := 3) W17.here hx (hb hby d_jdk_52_21_41) rfl ?_
        exact ih (i + 1) (by omega) _ _ _ (One.val rfl) W17 (KL.trans K17 (fun x q => Or.inl q)) V17 (own_pre1 HP hci hc20_16)
  exact LOOP cs.length 0 (by omega) _ _ _ One.u W0 (Keep.refl _ _) (by simpa using VB) (by simp)
theorem own_n32 {n k : Nat} (hn : n < 2 ^ 31) (hk : k < 2 ^ 31) : n.toInt32 = k.toInt32 ↔ n = k := by
  constructor
  · intro q
    have := congrArg Int32.toInt q
    rw [own_toInt hn, own_toInt hk] at this; omega
  · intro q; rw [q]
set_option maxRecDepth 65536 in
set_option maxHeartbeats 40000000 in
theorem c_compress (l : Launch) (Z : State) (a0 : Array Value) (hw : ∀ d ∈ tables_1, d.before a0 Z = true) (hE : EW Z a0 consts_1) (cc : Int32) (fm : Value) (ca : Nat) (cs : List Int32) (h0 : Heap) (O : Ext Z.heap h0) (G : SEnv Z cc fm) (GU : SEnvU Z) (hn : cs.length ≤ 3) (hch : ∀ c ∈ cs, 0 ≤ c.toInt ∧ c.toInt < 65536) (VA : Ary Z h0 ca .char (cs.map Value.int))  :
    Con l Z consts_1 (⟨"java/lang/StringUTF16", "compress", "([CII)[B"⟩ : MethodName) jdk_52_method_16_code 6 (Option.some (Jvm.ClassFile.FieldType.array Jvm.ClassFile.FieldType.byte)) ({ frames := 3, cells := 2, slots := 9, locals := 40 } : Room) #[(.ref ca), (.int (0 : Int32)), (.int cs.length.toInt32)] h0 [] (fun v h => ∃ (ba : Nat) (bs : List Value), v = some (.ref ba) ∧ h0.size ≤ ba ∧ Ary Z h ba .byte bs ∧ (((∀ c ∈ cs, ¬ (255 : Int32) < c) ∧ bs = cs.map latB) ∨ ((∃ c ∈ cs, (255 : Int32) < c) ∧ bs = utfB cs))) := by
  refine Con.of (a0 := a0) #[.val (.ref ca), .val (.int (0 : Int32)), .val (.int cs.length.toInt32), .unset, .unset, .unset] (plainFor_of_name pn_0) hE O all0 (fun m => by first | (simp [entryFrame, mkF, argsToLocals, Value.category]; done) | rfl) ?_
  intro p e s m below meth c T0 hx hby hml hnm hret hlk hh W0
  have hn31 : cs.length < 2 ^ 29 := by omega
  have lt_ca : ca < h0.size := VA.lt
  refine g_iloadN (pc' := 1) W0.here hx (hb hby d_jdk_52_16_0) rfl rfl ?_
  refine w_newarr (pc' := 3) (cap := 3) W0 hx (hw _ (List.mem_of_getElem? w_27)) (hb hby d_jdk_52_16_1) (own_nneg (by omega)) (by rw [i32_nat (by omega)]; exact hn) (Nat.le_of_ble_eq_true rfl) (Nat.le_of_ble_eq_true rfl) (Nat.le_of_ble_eq_true rfl) rfl rfl fun T18 h18 b18 g18 W18 K18 V18 => ?_
  have z_K18 : h0.size ≤ h18.size := K18.1
  have ne_ca_b18 : ca ≠ b18 := by omega
  have lt_b18 : b18 < h18.size := W18.lt (List.mem_cons_self ..)
  have V19 : Ary Z h18 b18 .byte (List.replicate cs.length (.int 0)) := by rw [i32_nat (by omega)] at V18; exact V18
  refine g_astoreN (pc' := 4) (Ls' := #[.val (.ref ca), .val (.int (0 : Int32)), .val (.int cs.length.toInt32), .val (.ref b18), .unset, .unset]) W18.here hx (hb hby d_jdk_52_16_3) rfl rfl rfl ?_
  refine g_aloadN (pc' := 5) W18.here hx (hb hby d_jdk_52_16_4) rfl rfl rfl ?_
  refine g_iloadN (pc' := 6) W18.here hx (hb hby d_jdk_52_16_5) rfl rfl ?_
  refine g_aloadN (pc' := 7) W18.here hx (hb hby d_jdk_52_16_6) rfl rfl rfl ?_
  refine g_iconst (0 : Int32) (pc' := 8) W18.here hx (hb hby d_jdk_52_16_7) rfl rfl ?_
  refine g_iloadN (pc' := 9) W18.here hx (hb hby d_jdk_52_16_8) rfl rfl ?_
  have c20 := (VA.keep K18 nin0)
  refine w_callS (pc' := 12) (st := []) (y := (⟨"java/lang/StringUTF16", "compress", "([CI[BII)I"⟩ : MethodName)) W18 hx [(.ref ca), (.int (0 : Int32)), (.ref b18), (.int (0 : Int32)), (.int cs.length.toInt32)] (hw _ (List.mem_of_getElem? w_28)) (hw _ (List.mem_of_getElem? w_29)) (hw _ (List.mem_of_getElem? w_25)) (hw _ (List.mem_of_getElem? w_30)) (by decide) (c_compr l Z a0 hw hE ca b18 cs _ h18 W18.old hn hch c20 V19 (by simp) ne_ca_b18 (by have := O.1; omega)) (allS (List.mem_of_getElem? (i := 0) rfl) all0) (by rw [hml]; rfl) (lenOf pd_3 rfl) rfl (hb hby d_jdk_52_16_9) (Nat.le_of_ble_eq_true rfl) (Nat.le_of_ble_eq_true rfl) (Nat.le_of_ble_eq_true rfl) (Nat.le_of_ble_eq_true rfl) rfl fun v21 T21 h21 W21 K21 Q21 => ?_
  have z_K21 : h18.size ≤ h21.size := K21.1
  rcases Q21 with ⟨rfl, hlat, V22⟩ | ⟨gi, gc, hgi, hgc, hbig, rfl⟩
  · have hz9 := hlat
    refine g_istore (pc' := 14) (Ls' := #[.val (.ref ca), .val (.int (0 : Int32)), .val (.int cs.length.toInt32), .val (.ref b18), .val (.int cs.length.toInt32), .unset]) W21.here hx (hb hby d_jdk_52_16_12) rfl rfl ?_
    refine g_iload (pc' := 16) W21.here hx (hb hby d_jdk_52_16_14) rfl rfl ?_
    refine g_iloadN (pc' := 17) W21.here hx (hb hby d_jdk_52_16_16) rfl rfl ?_
    refine g_icmpY (pc' := 57) W21.here hx (hb hby d_jdk_52_16_17) rfl (teq (show cs.length.toInt32 = cs.length.toInt32 from rfl)).1 ?_
    refine g_aloadN (pc' := 58) W21.here hx (hb hby d_jdk_52_16_57) rfl rfl rfl ?_
    refine w_retA W21 hx hh hlk hret rfl rfl (hb hby d_jdk_52_16_58) (Nat.le_of_ble_eq_true rfl) (Nat.le_of_ble_eq_true rfl) ?_
    exact ⟨_, _, rfl, by omega, V22, Or.inl ⟨hlat, rfl⟩⟩
  · have hz9 := hbig
    refine g_istore (pc' := 14) (Ls' := #[.val (.ref ca), .val (.int (0 : Int32)), .val (.int cs.length.toInt32), .val (.ref b18), .val (.int gi.toInt32), .unset]) W21.here hx (hb hby d_jdk_52_16_12) rfl rfl ?_
    refine g_iload (pc' := 16) W21.here hx (hb hby d_jdk_52_16_14) rfl rfl ?_
    refine g_iloadN (pc' := 17) W21.here hx (hb hby d_jdk_52_16_16) rfl rfl ?_
    refine g_icmpN (pc' := 20) W21.here hx (hb hby d_jdk_52_16_17) rfl (feq (show ¬ (gi.toInt32 = cs.length.toInt32) from (fun q => by have := (own_n32 (by omega) (by omega)).mp q; omega))).1 ?_
    refine g_aloadN (pc' := 21) W21.here hx (hb hby d_jdk_52_16_20) rfl rfl rfl ?_
    refine g_iloadN (pc' := 22) W21.here hx (hb hby d_jdk_52_16_21) rfl rfl ?_
    refine g_iloadN (pc' := 23) W21.here hx (hb hby d_jdk_52_16_22) rfl rfl ?_
    have c23 := (c20.keep K21 (ninS ne_ca_b18 nin0))
    refine w_callS (pc' := 26) (st := []) (y := (⟨"java/lang/StringUTF16", "toBytes", "([CII)[B"⟩ : MethodName)) W21 hx [(.ref ca), (.int (0 : Int32)), (.int cs.length.toInt32)] (hw _ (List.mem_of_getElem? w_55)) (hw _ (List.mem_of_getElem? w_56)) (hw _ (List.mem_of_getElem? w_25)) (hw _ (List.mem_of_getElem? w_57)) (by decide) (c_toBytes l Z a0 hw hE cc fm ca cs h21 W21.old G GU hn hch c23) all0 (by rw [hml]; rfl) (lenOf pd_4 rfl) rfl (hb hby d_jdk_52_16_23) (Nat.le_of_ble_eq_true rfl) (Nat.le_of_ble_eq_true rfl) (Nat.le_of_ble_eq_true rfl) (Nat.le_of_ble_eq_true rfl) rfl fun v24 T24 h24 W24 K24 Q24 => ?_
    have z_K24 : h21.size ≤ h24.size := K24.1
    obtain ⟨ba25, rfl, gz25, V25⟩ := Q24
    have ne_ca_ba25 : ca ≠ ba25 := by omega
    have ne_b18_ba25 : b18 ≠ ba25 := by omega
    have lt_ba25 : ba25 < h24.size := V25.lt
    refine g_astore (pc' := 28) (Ls' := #[.val (.ref ca), .val (.int (0 : Int32)), .val (.int cs.length.toInt32), .val (.ref b18), .val (.int gi.toInt32), .val (.ref ba25)]) W24.here hx (hb hby d_jdk_52_16_26) rfl rfl rfl ?_
    refine g_aload (pc' := 30) W24.here hx (hb hby d_jdk_52_16_28) rfl rfl rfl ?_
    refine g_iload (pc' := 32) W24.here hx (hb hby d_jdk_52_16_30) rfl rfl ?_
    refine w_callSp (pc' := 35) (st := []) (y := (⟨"java/lang/StringUTF16", "getChar", "([BI)C"⟩ : MethodName)) W24 hx [(.ref ba25), (.int gi.toInt32)] (hw _ (List.mem_of_getElem? w_71)) (hw _ (List.mem_of_getElem? w_72)) (hw _ (List.mem_of_getElem? w_25)) (hw _ (List.mem_of_getElem? w_73)) (by decide) (c_getChar l Z a0 hw hE cc fm ba25 gi gc _ h24 W24.old G GU V25 (by omega) (own_uget cs gi gc hgc).1 (own_uget cs gi gc hgc).2 (hch gc (List.mem_of_getElem? hgc))) (by rw [hml]; rfl) (lenOf pd_5 rfl) rfl (hb hby d_jdk_52_16_32) (Nat.le_of_ble_eq_true rfl) (Nat.le_of_ble_eq_true rfl) rfl rfl (Nat.le_of_ble_eq_true rfl) (Nat.le_of_ble_eq_true rfl) rfl fun T26 W26 => ?_
    refine g_sipush (255 : Int32) (pc' := 38) W26.here hx (hb hby d_jdk_52_16_35) rfl rfl ?_
    refine g_icmpY (pc' := 54) W26.here hx (hb hby d_jdk_52_16_38) rfl (tlt (show (255 : Int32) < gc from hbig)).2.2.1 ?_
    refine g_aload (pc' := 56) W26.here hx (hb hby d_jdk_52_16_54) rfl rfl rfl ?_
    refine w_retA W26 hx hh hlk hret rfl rfl (hb hby d_jdk_52_16_56) (Nat.le_of_ble_eq_true rfl) (Nat.le_of_ble_eq_true rfl) ?_
    exact ⟨_, _, rfl, by omega, V25, Or.inr ⟨⟨gc, List.mem_of_getElem? hgc, hbig⟩, rfl⟩⟩
set_option maxRecDepth 65536 in
set_option maxHeartbeats 40000000 in
theorem c_coderFromL (l : Launch) (Z : State) (a0 : Array Value) (hw : ∀ d ∈ tables_1, d.before a0 Z = true) (hE : EW Z a0 consts_1) (ba : Nat) (cs : List Int32) (bs : List Value) (h0 : Heap) (O : Ext Z.heap h0) (VB : Ary Z h0 ba .byte bs) (hbl : bs.length = cs.length) (hpos : 0 < cs.length) (hn : cs.length < 2 ^ 29) :
    Con l Z consts_1 (⟨"java/lang/StringUTF16", "coderFromArrayLen", "([BI)B"⟩ : MethodName) jdk_52_method_15_code 2 (Option.some Jvm.ClassFile.FieldType.byte) ({ frames := 0, cells := 0, slots := 0, locals := 0 } : Room) #[(.ref ba), (.int cs.length.toInt32)] h0 [] (pureQ (some (.int 0)) h0) := by
  refine Con.of (a0 := a0) #[.val (.ref ba), .val (.int cs.length.toInt32)] (plainFor_of_name pn_0) hE O all0 (fun m => by first | (simp [entryFrame, mkF, argsToLocals, Value.category]; done) | rfl) ?_
  intro p e s m below meth c T0 hx hby hml hnm hret hlk hh W0
  refine g_iloadN (pc' := 1) W0.here hx (hb hby d_jdk_52_15_0) rfl rfl ?_
  refine g_aloadN (pc' := 2) W0.here hx (hb hby d_jdk_52_15_1) rfl rfl rfl ?_
  refine w_len (pc' := 3) W0 hx VB (hb hby d_jdk_52_15_2) rfl ?_
  refine g_name (w := .int cs.length.toInt32) (congrArg Value.int (by rw [hbl])) ?_
  refine g_isub (pc' := 4) W0.here hx (hb hby d_jdk_52_15_3) rfl ?_
  refine g_bipush (31 : Int32) (pc' := 6) W0.here hx (hb hby d_jdk_52_15_4) rfl rfl ?_
  refine g_iushr (pc' := 7) W0.here hx (hb hby d_jdk_52_15_6) rfl ?_
  refine g_i2b (pc' := 8) W0.here hx (hb hby d_jdk_52_15_7) rfl ?_
  refine w_retN (t := .byte) W0 hx hh hlk hret (by simp) (hb hby d_jdk_52_15_8) (Nat.le_of_ble_eq_true rfl) (Nat.le_of_ble_eq_true rfl) ?_
  exact ⟨congrArg (fun z => some (Value.int z)) (by rw [own_csub]; rfl), rfl⟩
set_option maxRecDepth 65536 in
set_option maxHeartbeats 40000000 in
theorem c_coderFromU (l : Launch) (Z : State) (a0 : Array Value) (hw : ∀ d ∈ tables_1, d.before a0 Z = true) (hE : EW Z a0 consts_1) (ba : Nat) (cs : List Int32) (bs : List Value) (h0 : Heap) (O : Ext Z.heap h0) (VB : Ary Z h0 ba .byte bs) (hbl : bs.length = 2 * cs.length) (hpos : 0 < cs.length) (hn : cs.length < 2 ^ 29) :
    Con l Z consts_1 (⟨"java/lang/StringUTF16", "coderFromArrayLen", "([BI)B"⟩ : MethodName) jdk_52_method_15_code 2 (Option.some Jvm.ClassFile.FieldType.byte) ({ frames := 0, cells := 0, slots := 0, locals := 0 } : Room) #[(.ref ba), (.int cs.length.toInt32)] h0 [] (pureQ (some (.int 1)) h0) := by
  refine Con.of (a0 := a0) #[.val (.ref ba), .val (.int cs.length.toInt32)] (plainFor_of_name pn_0) hE O all0 (fun m => by first | (simp [entryFrame, mkF, argsToLocals, Value.category]; done) | rfl) ?_
  intro p e s m below meth c T0 hx hby hml hnm hret hlk hh W0
  refine g_iloadN (pc' := 1) W0.here hx (hb hby d_jdk_52_15_0) rfl rfl ?_
  refine g_aloadN (pc' := 2) W0.here hx (hb hby d_jdk_52_15_1) rfl rfl rfl ?_
  refine w_len (pc' := 3) W0 hx VB (hb hby d_jdk_52_15_2) rfl ?_
  refine g_name (w := .int (2 * cs.length).toInt32) (congrArg Value.int (by rw [hbl])) ?_
  refine g_isub (pc' := 4) W0.here hx (hb hby d_jdk_52_15_3) rfl ?_
  refine g_bipush (31 : Int32) (pc' := 6) W0.here hx (hb hby d_jdk_52_15_4) rfl rfl ?_
  refine g_iushr (pc' := 7) W0.here hx (hb hby d_jdk_52_15_6) rfl ?_
  refine g_i2b (pc' := 8) W0.here hx (hb hby d_jdk_52_15_7) rfl ?_
  refine w_retN (t := .byte) W0 hx hh hlk hret (by simp) (hb hby d_jdk_52_15_8) (Nat.le_of_ble_eq_true rfl) (Nat.le_of_ble_eq_true rfl) ?_
  exact ⟨congrArg (fun z => some (Value.int z)) (by rw [own_csub1 hpos hn]; rfl), rfl⟩
theorem own_pos0 {n : Nat} (h : 0 < n) (hn : n < 2 ^ 31) : ¬ n.toInt32 = 0 := fun q => by
  have := congrArg Int32.toInt q
  rw [own_toInt hn] at this
  simp at this; omega
theorem own_nil {cs : List Int32} (hn : cs.length < 2 ^ 31) (q : cs.length.toInt32 = (0 : Int32)) : cs = [] := by
  cases cs with
  | nil => rfl
  | cons a t => exact absurd q (own_pos0 (by simp) hn)
theorem own_lat2 {cs : List Int32} (h : ∀ c ∈ cs, 0 ≤ c.toInt ∧ c.toInt < 65536) (q : ∀ c ∈ cs, ¬ (255 : Int32) < c) : ∀ c ∈ cs, 0 ≤ c.toInt ∧ c.toInt ≤ 255 := fun c hc => by
  have a := h c hc
  have b := q c hc
  rw [Int32.lt_iff_toInt_lt] at b
  have e : (255 : Int32).toInt = 255 := rfl
  omega
theorem own_atoms {Z : State} {a0 : Array Value} (hw : ∀ d ∈ tables_1, d.before a0 Z = true) : ∀ a ∈ Bundle.stringAtoms, a.before a0 Z = true := fun d hd => by
  simp only [Bundle.stringAtoms, Bundle.sN, List.mem_cons, List.not_mem_nil, or_false] at hd
  rcases hd with rfl | rfl | rfl | rfl | rfl | rfl | rfl
  · exact (hw _ (List.mem_of_getElem? w_10))
  · exact (hw _ (List.mem_of_getElem? w_9))
  · exact (hw _ (List.mem_of_getElem? w_27))
  · exact (hw _ (List.mem_of_getElem? w_37))
  · exact (hw _ (List.mem_of_getElem? w_35))
  · exact (hw _ (List.mem_of_getElem? w_39))
  · exact (hw _ (List.mem_of_getElem? w_40))
set_option maxRecDepth 65536 in
set_option maxHeartbeats 40000000 in
theorem c_str4 (l : Launch) (Z : State) (a0 : Array Value) (hw : ∀ d ∈ tables_1, d.before a0 Z = true) (hE : EW Z a0 consts_1) (cc : Int32) (fm : Value) (o ca : Nat) (cs : List Int32) (h0 : Heap) (O : Ext Z.heap h0) (G : SEnv Z cc fm) (GU : SEnvU Z) (hn : cs.length ≤ 3) (hch : ∀ c ∈ cs, 0 ≤ c.toInt ∧ c.toInt < 65536) (VA : Ary Z h0 ca .char (cs.map Value.int)) (hz : Z.heap.size ≤ o) (E0 : Exa Z h0 o "java/lang/String") (u1 u2 : Value) (F1 : Fld Z h0 o "java/lang/String" "coder" "B" u1) (F2 : Fld Z h0 o "java/lang/String" "value" "[B" u2) (hoc : o ≠ ca)  :
    Con l Z consts_1 (⟨"java/lang/String", "<init>", "([CIILjava/lang/Void;)V"⟩ : MethodName) jdk_42_method_149_code 6 (Option.none : Option Jvm.ClassFile.FieldType) ({ frames := 4, cells := 4, slots := 9, locals := 57 } : Room) #[(.ref o), (.ref ca), (.int (0 : Int32)), (.int cs.length.toInt32), .null] h0 [o] (fun v h => v = none ∧ ∃ b : Nat, SG Z h o b cs) := by
  refine Con.of (a0 := a0) #[.val (.ref o), .val (.ref ca), .val (.int (0 : Int32)), .val (.int cs.length.toInt32), .val .null, .unset] (plainFor_of_name pn_1) hE O (allS ⟨hz, E0.lt⟩ all0) (fun m => by first | (simp [entryFrame, mkF, argsToLocals, Value.category]; done) | rfl) ?_
  intro p e s m below meth c T0 hx hby hml hnm hret hlk hh W0
  have hn31 : cs.length < 2 ^ 29 := by omega
  have lt_ca : ca < h0.size := VA.lt
  have lt_o : o < h0.size := E0.lt
  refine g_aloadN (pc' := 1) W0.here hx (hb hby d_jdk_42_149_0) rfl rfl rfl ?_
  refine w_initO (pc' := 4) W0 hx (hw _ (List.mem_of_getElem? w_19)) (hw _ (List.mem_of_getElem? w_20)) (hw _ (List.mem_of_getElem? w_21)) (by rw [hml]; rfl) (hb hby d_jdk_42_149_1) (Nat.le_of_ble_eq_true rfl) (Nat.le_of_ble_eq_true rfl) rfl fun T27 W27 => ?_
  refine g_iloadN (pc' := 5) W27.here hx (hb hby d_jdk_42_149_4) rfl rfl ?_
  by_cases hc5_28 : cs.length.toInt32 = (0 : Int32)
  · refine g_ifN (pc' := 8) W27.here hx (hb hby d_jdk_42_149_5) rfl (teq hc5_28).2 ?_
    have e0 : cs = [] := own_nil (by omega) hc5_28
    refine g_aloadN (pc' := 9) W27.here hx (hb hby d_jdk_42_149_8) rfl rfl rfl ?_
    refine w_ldcS (pc' := 11) (vs := []) (z := 0) W27 hx (hw _ (List.mem_of_getElem? w_38)) (own_atoms hw) (List.mem_of_getElem? (i := 0) rfl) ⟨fun _ q => (nomatch q), rfl⟩ (by decide) rfl (hb hby d_jdk_42_149_9) 0 (Nat.le_of_ble_eq_true rfl) (Nat.le_of_ble_eq_true rfl) (Nat.le_of_ble_eq_true rfl) (Nat.le_of_ble_eq_true rfl) rfl fun T29 h29 sa29 sb29 W29 K29 A29 C29 F29 V29 N29 => ?_
    have z_K29 : h0.size ≤ h29.size := K29.1
    obtain ⟨ne_o_sa29, ne_o_sb29⟩ := N29 o (List.mem_of_getElem? (i := 0) rfl)
    refine w_get (pc' := 14) W29 hx (hw _ (List.mem_of_getElem? w_36)) Via.refl F29 (hb hby d_jdk_42_149_11) rfl fun T30 W30 => ?_
    have c31 := (F2.keep K29 nin0)
    have c32 := (E0.keep K29)
    refine w_put (pc' := 17) W30 hx (hw _ (List.mem_of_getElem? w_36)) Via.refl c31 c32 (Or.inr ⟨(hw _ (List.mem_of_getElem? w_37)), rfl, hnm⟩) (hw _ (List.mem_of_getElem? w_9)) (ty := (.array .byte)) (by decide) rfl rfl (List.mem_of_getElem? (i := 0) rfl) (hb hby d_jdk_42_149_14) rfl fun T33 h33 W33 K33 R33 F33 A33 => ?_
    have c34 := (F1.keep K29 nin0)
    have z_K33 : h29.size ≤ h33.size := K33.1
    have c35 := (c34.other R33 (Or.inr (slot_ne (Or.inr (hw _ (List.mem_of_getElem? w_35))) (Or.inr (hw _ (List.mem_of_getElem? w_37))) (by decide) (t := .byte) (t' := (.array .byte)) (by decide) (by decide))))
    refine g_aloadN (pc' := 18) W33.here hx (hb hby d_jdk_42_149_17) rfl rfl rfl ?_
    refine w_ldcS (pc' := 20) (vs := []) (z := 0) W33 hx (hw _ (List.mem_of_getElem? w_38)) (own_atoms hw) (List.mem_of_getElem? (i := 0) rfl) ⟨fun _ q => (nomatch q), rfl⟩ (by decide) rfl (hb hby d_jdk_42_149_18) 0 (Nat.le_of_ble_eq_true rfl) (Nat.le_of_ble_eq_true rfl) (Nat.le_of_ble_eq_true rfl) (Nat.le_of_ble_eq_true rfl) rfl fun T36 h36 sa36 sb36 W36 K36 A36 C36 F36 V36 N36 => ?_
    have z_K36 : h33.size ≤ h36.size := K36.1
    obtain ⟨ne_o_sa36, ne_o_sb36⟩ := N36 o (List.mem_of_getElem? (i := 0) rfl)
    refine w_get (pc' := 23) W36 hx (hw _ (List.mem_of_getElem? w_34)) Via.refl C36 (hb hby d_jdk_42_149_20) rfl fun T37 W37 => ?_
    have c38 := (c35.keep K36 nin0)
    have c39 := (A33.keep K36)
    refine w_putN (pc' := 26) (v' := (.int (0 : Int32))) W37 hx (hw _ (List.mem_of_getElem? w_34)) Via.refl c38 c39 (Or.inr ⟨(hw _ (List.mem_of_getElem? w_35)), rfl, hnm⟩) (hw _ (List.mem_of_getElem? w_9)) (ty := .byte) (by decide) rfl rfl (List.mem_of_getElem? (i := 0) rfl) (hb hby d_jdk_42_149_23) rfl fun T40 h40 W40 K40 R40 F40 A40 => ?_
    have c41 := (F33.keep K36 nin0)
    have z_K40 : h36.size ≤ h40.size := K40.1
    have c42 := (c41.other R40 (Or.inr (slot_ne (Or.inr (hw _ (List.mem_of_getElem? w_37))) (Or.inr (hw _ (List.mem_of_getElem? w_35))) (by decide) (t := (.array .byte)) (t' := .byte) (by decide) (by decide))))
    have c43 := (((V29.keep K33 (ninS (Ne.symm ne_o_sb29) nin0)).keep K36 nin0).keep K40 (ninS (Ne.symm ne_o_sb29) nin0))
    refine w_retV W40 hx hh hlk hret (hb hby d_jdk_42_149_26) (Nat.le_of_ble_eq_true rfl) (Nat.le_of_ble_eq_true rfl) ?_
    refine ⟨rfl, sb29, Or.inl ⟨A40, F40, c42, ?_, by rw [e0]; exact own_all0⟩⟩
    rw [e0]; exact c43
  · refine g_ifY (pc' := 27) W27.here hx (hb hby d_jdk_42_149_5) rfl (feq hc5_28).2 ?_
    have hpos : 0 < cs.length := by rcases Nat.eq_zero_or_pos cs.length with q | q; exact absurd (by rw [q]; rfl) hc5_28; exact q
    refine w_getS (pc' := 30) W27 hx (hw _ (List.mem_of_getElem? w_22)) Via.refl G.1 (hb hby d_jdk_42_149_27) rfl fun T44 W44 => ?_
    refine g_ifN (pc' := 33) W44.here hx (hb hby d_jdk_42_149_30) rfl (feq (show ¬ (cc = (0 : Int32)) from G.2.1)).1 ?_
    refine g_aloadN (pc' := 34) W44.here hx (hb hby d_jdk_42_149_33) rfl rfl rfl ?_
    refine g_iloadN (pc' := 35) W44.here hx (hb hby d_jdk_42_149_34) rfl rfl ?_
    refine g_iloadN (pc' := 36) W44.here hx (hb hby d_jdk_42_149_35) rfl rfl ?_
    refine w_callS (pc' := 39) (st := []) (y := (⟨"java/lang/StringUTF16", "compress", "([CII)[B"⟩ : MethodName)) W44 hx [(.ref ca), (.int (0 : Int32)), (.int cs.length.toInt32)] (hw _ (List.mem_of_getElem? w_23)) (hw _ (List.mem_of_getElem? w_24)) (hw _ (List.mem_of_getElem? w_25)) (hw _ (List.mem_of_getElem? w_26)) (by decide) (c_compress l Z a0 hw hE cc fm ca cs h0 W44.old G GU hn hch VA) all0 (by rw [hml]; rfl) (lenOf pd_4 rfl) rfl (hb hby d_jdk_42_149_36) (Nat.le_of_ble_eq_true rfl) (Nat.le_of_ble_eq_true rfl) (Nat.le_of_ble_eq_true rfl) (Nat.le_of_ble_eq_true rfl) rfl fun v45 T45 h45 W45 K45 Q45 => ?_
    have z_K45 : h0.size ≤ h45.size := K45.1
    obtain ⟨ba46, bs, rfl, gz46, V46, hcase⟩ := Q45
    have ne_ca_ba46 : ca ≠ ba46 := by omega
    have ne_o_ba46 : o ≠ ba46 := by omega
    have lt_ba46 : ba46 < h45.size := V46.lt
    rcases hcase with ⟨hlat, rfl⟩ | ⟨hbig, rfl⟩
    · have hz8 := hlat
      refine g_astore (pc' := 41) (Ls' := #[.val (.ref o), .val (.ref ca), .val (.int (0 : Int32)), .val (.int cs.length.toInt32), .val .null, .val (.ref ba46)]) W45.here hx (hb hby d_jdk_42_149_39) rfl rfl rfl ?_
      refine g_aloadN (pc' := 42) W45.here hx (hb hby d_jdk_42_149_41) rfl rfl rfl ?_
      refine g_aload (pc' := 44) W45.here hx (hb hby d_jdk_42_149_42) rfl rfl rfl ?_
      refine g_iloadN (pc' := 45) W45.here hx (hb hby d_jdk_42_149_44) rfl rfl ?_
      refine w_callSp (pc' := 48) (st := [(.ref o)]) (y := (⟨"java/lang/StringUTF16", "coderFromArrayLen", "([BI)B"⟩ : MethodName)) W45 hx [(.ref ba46), (.int cs.length.toInt32)] (hw _ (List.mem_of_getElem? w_31)) (hw _ (List.mem_of_getElem? w_32)) (hw _ (List.mem_of_getElem? w_25)) (hw _ (List.mem_of_getElem? w_33)) (by decide) (c_coderFromL l Z a0 hw hE ba46 cs _ h45 W45.old V46 (by simp) hpos hn31) (by rw [hml]; rfl) (lenOf pd_6 rfl) rfl (hb hby d_jdk_42_149_45) (Nat.le_of_ble_eq_true rfl) (Nat.le_of_ble_eq_true rfl) rfl rfl (Nat.le_of_ble_eq_true rfl) (Nat.le_of_ble_eq_true rfl) rfl fun T47 W47 => ?_
      have c48 := (F1.keep K45 nin0)
      have c49 := (E0.keep K45)
      refine w_putN (pc' := 51) (v' := (.int (0 : Int32))) W47 hx (hw _ (List.mem_of_getElem? w_34)) Via.refl c48 c49 (Or.inr ⟨(hw _ (List.mem_of_getElem? w_35)), rfl, hnm⟩) (hw _ (List.mem_of_getElem? w_9)) (ty := .byte) (by decide) rfl rfl (List.mem_of_getElem? (i := 0) rfl) (hb hby d_jdk_42_149_48) rfl fun T50 h50 W50 K50 R50 F50 A50 => ?_
      have c51 := (F2.keep K45 nin0)
      have z_K50 : h45.size ≤ h50.size := K50.1
      have c52 := (c51.other R50 (Or.inr (slot_ne (Or.inr (hw _ (List.mem_of_getElem? w_37))) (Or.inr (hw _ (List.mem_of_getElem? w_35))) (by decide) (t := (.array .byte)) (t' := .byte) (by decide) (by decide))))
      refine g_aloadN (pc' := 52) W50.here hx (hb hby d_jdk_42_149_51) rfl rfl rfl ?_
      refine g_aload (pc' := 54) W50.here hx (hb hby d_jdk_42_149_52) rfl rfl rfl ?_
      refine w_put (pc' := 57) W50 hx (hw _ (List.mem_of_getElem? w_36)) Via.refl c52 A50 (Or.inr ⟨(hw _ (List.mem_of_getElem? w_37)), rfl, hnm⟩) (hw _ (List.mem_of_getElem? w_9)) (ty := (.array .byte)) (by decide) rfl rfl (List.mem_of_getElem? (i := 0) rfl) (hb hby d_jdk_42_149_54) rfl fun T53 h53 W53 K53 R53 F53 A53 => ?_
      have z_K53 : h50.size ≤ h53.size := K53.1
      have c54 := (F50.other R53 (Or.inr (slot_ne (Or.inr (hw _ (List.mem_of_getElem? w_35))) (Or.inr (hw _ (List.mem_of_getElem? w_37))) (by decide) (t := .byte) (t' := (.array .byte)) (by decide) (by decide))))
      have c55 := ((V46.keep K50 (ninS (Ne.symm ne_o_ba46) nin0)).keep K53 (ninS (Ne.symm ne_o_ba46) nin0))
      refine w_retV W53 hx hh hlk hret (hb hby d_jdk_42_149_57) (Nat.le_of_ble_eq_true rfl) (Nat.le_of_ble_eq_true rfl) ?_
      exact ⟨rfl, ba46, Or.inl ⟨A53, c54, F53, c55, own_lat2 hch hlat⟩⟩
    · have hz8 := hbig
      refine g_astore (pc' := 41) (Ls' := #[.val (.ref o), .val (.ref ca), .val (.int (0 : Int32)), .val (.int cs.length.toInt32), .val .null, .val (.ref ba46)]) W45.here hx (hb hby d_jdk_42_149_39) rfl rfl rfl ?_
      refine g_aloadN (pc' := 42) W45.here hx (hb hby d_jdk_42_149_41) rfl rfl rfl ?_
      refine g_aload (pc' := 44) W45.here hx (hb hby d_jdk_42_149_42) rfl rfl rfl ?_
      refine g_iloadN (pc' := 45) W45.here hx (hb hby d_jdk_42_149_44) rfl rfl ?_
      refine w_callSp (pc' := 48) (st := [(.ref o)]) (y := (⟨"java/lang/StringUTF16", "coderFromArrayLen", "([BI)B"⟩ : MethodName)) W45 hx [(.ref ba46), (.int cs.length.toInt32)] (hw _ (List.mem_of_getElem? w_31)) (hw _ (List.mem_of_getElem? w_32)) (hw _ (List.mem_of_getElem? w_25)) (hw _ (List.mem_of_getElem? w_33)) (by decide) (c_coderFromU l Z a0 hw hE ba46 cs _ h45 W45.old V46 (own_ulen cs) hpos hn31) (by rw [hml]; rfl) (lenOf pd_6 rfl) rfl (hb hby d_jdk_42_149_45) (Nat.le_of_ble_eq_true rfl) (Nat.le_of_ble_eq_true rfl) rfl rfl (Nat.le_of_ble_eq_true rfl) (Nat.le_of_ble_eq_true rfl) rfl fun T56 W56 => ?_
      have c57 := (F1.keep K45 nin0)
      have c58 := (E0.keep K45)
      refine w_putN (pc' := 51) (v' := (.int (1 : Int32))) W56 hx (hw _ (List.mem_of_getElem? w_34)) Via.refl c57 c58 (Or.inr ⟨(hw _ (List.mem_of_getElem? w_35)), rfl, hnm⟩) (hw _ (List.mem_of_getElem? w_9)) (ty := .byte) (by decide) rfl rfl (List.mem_of_getElem? (i := 0) rfl) (hb hby d_jdk_42_149_48) rfl fun T59 h59 W59 K59 R59 F59 A59 => ?_
      have c60 := (F2.keep K45 nin0)
      have z_K59 : h45.size ≤ h59.size := K59.1
      have c61 := (c60.other R59 (Or.inr (slot_ne (Or.inr (hw _ (List.mem_of_getElem? w_37))) (Or.inr (hw _ (List.mem_of_getElem? w_35))) (by decide) (t := (.array .byte)) (t' := .byte) (by decide) (by decide))))
      refine g_aloadN (pc' := 52) W59.here hx (hb hby d_jdk_42_149_51) rfl rfl rfl ?_
      refine g_aload (pc' := 54) W59.here hx (hb hby d_jdk_42_149_52) rfl rfl rfl ?_
      refine w_put (pc' := 57) W59 hx (hw _ (List.mem_of_getElem? w_36)) Via.refl c61 A59 (Or.inr ⟨(hw _ (List.mem_of_getElem? w_37)), rfl, hnm⟩) (hw _ (List.mem_of_getElem? w_9)) (ty := (.array .byte)) (by decide) rfl rfl (List.mem_of_getElem? (i := 0) rfl) (hb hby d_jdk_42_149_54) rfl fun T62 h62 W62 K62 R62 F62 A62 => ?_
      have z_K62 : h59.size ≤ h62.size := K62.1
      have c63 := (F59.other R62 (Or.inr (slot_ne (Or.inr (hw _ (List.mem_of_getElem? w_35))) (Or.inr (hw _ (List.mem_of_getElem? w_37))) (by decide) (t := .byte) (t' := (.array .byte)) (by decide) (by decide))))
      have c64 := ((V46.keep K59 (ninS (Ne.symm ne_o_ba46) nin0)).keep K62 (ninS (Ne.symm ne_o_ba46) nin0))
      refine w_retV W62 hx hh hlk hret (hb hby d_jdk_42_149_57) (Nat.le_of_ble_eq_true rfl) (Nat.le_of_ble_eq_true rfl) ?_
      exact ⟨rfl, ba46, Or.inr ⟨A62, c63, F62, c64, hch, hn31⟩⟩
set_option maxRecDepth 65536 in
set_option maxHeartbeats 40000000 in
theorem c_strC (l : Launch) (Z : State) (a0 : Array Value) (hw : ∀ d ∈ tables_1, d.before a0 Z = true) (hE : EW Z a0 consts_1) (cc : Int32) (fm : Value) (o ca : Nat) (cs : List Int32) (h0 : Heap) (O : Ext Z.heap h0) (G : SEnv Z cc fm) (GU : SEnvU Z) (hn : cs.length ≤ 3) (hch : ∀ c ∈ cs, 0 ≤ c.toInt ∧ c.toInt < 65536) (VA : Ary Z h0 ca .char (cs.map Value.int)) (hz : Z.heap.size ≤ o) (E0 : Exa Z h0 o "java/lang/String") (u1 u2 : Value) (F1 : Fld Z h0 o "java/lang/String" "coder" "B" u1) (F2 : Fld Z h0 o "java/lang/String" "value" "[B" u2) (hoc : o ≠ ca)  :
    Con l Z consts_1 (⟨"java/lang/String", "<init>", "([C)V"⟩ : MethodName) jdk_42_method_3_code 2 (Option.none : Option Jvm.ClassFile.FieldType) ({ frames := 5, cells := 4, slots := 9, locals := 74 } : Room) #[(.ref o), (.ref ca)] h0 [o] (fun v h => v = none ∧ ∃ b : Nat, SG Z h o b cs) := by
  refine Con.of (a0 := a0) #[.val (.ref o), .val (.ref ca)] (plainFor_of_name pn_1) hE O (allS ⟨hz, E0.lt⟩ all0) (fun m => by first | (simp [entryFrame, mkF, argsToLocals, Value.category]; done) | rfl) ?_
  intro p e s m below meth c T0 hx hby hml hnm hret hlk hh W0
  have hn31 : cs.length < 2 ^ 29 := by omega
  have lt_ca : ca < h0.size := VA.lt
  have lt_o : o < h0.size := E0.lt
  refine g_aloadN (pc' := 1) W0.here hx (hb hby d_jdk_42_3_0) rfl rfl rfl ?_
  refine g_aloadN (pc' := 2) W0.here hx (hb hby d_jdk_42_3_1) rfl rfl rfl ?_
  refine g_iconst (0 : Int32) (pc' := 3) W0.here hx (hb hby d_jdk_42_3_2) rfl rfl ?_
  refine g_aloadN (pc' := 4) W0.here hx (hb hby d_jdk_42_3_3) rfl rfl rfl ?_
  refine w_len (pc' := 5) W0 hx VA (hb hby d_jdk_42_3_4) rfl ?_
  refine g_name (w := .int cs.length.toInt32) (congrArg Value.int (by rw [List.length_map])) ?_
  refine g_aconstNull (pc' := 6) W0.here hx (hb hby d_jdk_42_3_5) rfl ?_
  refine w_special (pc' := 9) (st := []) (y := (⟨"java/lang/String", "<init>", "([CIILjava/lang/Void;)V"⟩ : MethodName)) (a := o) W0 hx [(.ref ca), (.int (0 : Int32)), (.int cs.length.toInt32), .null] rfl (hw _ (List.mem_of_getElem? w_15)) (hw _ (List.mem_of_getElem? w_16)) (hw _ (List.mem_of_getElem? w_10)) (hw _ (List.mem_of_getElem? w_18)) (by decide) (c_str4 l Z a0 hw hE cc fm o ca cs h0 W0.old G GU hn hch VA (by have := O.1; omega) E0 _ _ F1 F2 hoc) (allS (List.mem_of_getElem? (i := 0) rfl) all0) (by rw [hml]; rfl) (lenOf pd_7 rfl) rfl (hb hby d_jdk_42_3_6) (Nat.le_of_ble_eq_true rfl) (Nat.le_of_ble_eq_true rfl) (Nat.le_of_ble_eq_true rfl) (Nat.le_of_ble_eq_true rfl) rfl fun v65 T65 h65 W65 K65 Q65 => ?_
  have z_K65 : h0.size ≤ h65.size := K65.1
  obtain ⟨rfl, sb66, S66⟩ := Q65
  have ES66 := S66.exa
  have lt_sb66 : sb66 < h65.size := S66.ltb
  refine w_retV W65 hx hh hlk hret (hb hby d_jdk_42_3_9) (Nat.le_of_ble_eq_true rfl) (Nat.le_of_ble_eq_true rfl) ?_
  exact ⟨rfl, _, S66⟩
set_option maxRecDepth 65536 in
set_option maxHeartbeats 40000000 in
theorem c_coderL (l : Launch) (Z : State) (a0 : Array Value) (hw : ∀ d ∈ tables_1, d.before a0 Z = true) (hE : EW Z a0 consts_1) (cc : Int32) (fm : Value) (a b : Nat) (cs : List Int32)  (h0 : Heap) (O : Ext Z.heap h0) (G : SEnv Z cc fm) (GU : SEnvU Z) (S0 : SL Z h0 a b cs)  :
    Con l Z consts_1 (⟨"java/lang/String", "coder", "()B"⟩ : MethodName) jdk_42_method_152_code 1 (Option.some Jvm.ClassFile.FieldType.byte) ({ frames := 0, cells := 0, slots := 0, locals := 0 } : Room) #[(.ref a)] h0 [] (pureQ (some (.int 0)) h0) := by
  refine Con.of (a0 := a0) #[.val (.ref a)] (plainFor_of_name pn_1) hE O all0 (fun m => by first | (simp [entryFrame, mkF, argsToLocals, Value.category]; done) | rfl) ?_
  intro p e s m below meth c T0 hx hby hml hnm hret hlk hh W0
  obtain ⟨E_a, FC_a, FV_a, V_b, L_a⟩ := id S0
  have hl29 : cs.length < 2 ^ 31 := by have := V_b.len; simpa using this
  refine w_getS (pc' := 3) W0 hx (hw _ (List.mem_of_getElem? w_22)) Via.refl G.1 (hb hby d_jdk_42_152_0) rfl fun T71 W71 => ?_
  refine g_ifN (pc' := 6) W71.here hx (hb hby d_jdk_42_152_3) rfl (feq (show ¬ (cc = (0 : Int32)) from G.2.1)).1 ?_
  refine g_aloadN (pc' := 7) W71.here hx (hb hby d_jdk_42_152_6) rfl rfl rfl ?_
  refine w_get (pc' := 10) W71 hx (hw _ (List.mem_of_getElem? w_34)) Via.refl FC_a (hb hby d_jdk_42_152_7) rfl fun T72 W72 => ?_
  refine g_goto (pc' := 14) W72.here hx (hb hby d_jdk_42_152_10) rfl ?_
  refine w_retN (t := .byte) W72 hx hh hlk hret (by simp) (hb hby d_jdk_42_152_14) (Nat.le_of_ble_eq_true rfl) (Nat.le_of_ble_eq_true rfl) ?_
  exact ⟨rfl, rfl⟩
set_option maxRecDepth 65536 in
set_option maxHeartbeats 40000000 in
theorem c_coderU (l : Launch) (Z : State) (a0 : Array Value) (hw : ∀ d ∈ tables_1, d.before a0 Z = true) (hE : EW Z a0 consts_1) (cc : Int32) (fm : Value) (a b : Nat) (cs : List Int32)  (h0 : Heap) (O : Ext Z.heap h0) (G : SEnv Z cc fm) (GU : SEnvU Z) (S0 : SU Z h0 a b cs)  :
    Con l Z consts_1 (⟨"java/lang/String", "coder", "()B"⟩ : MethodName) jdk_42_method_152_code 1 (Option.some Jvm.ClassFile.FieldType.byte) ({ frames := 0, cells := 0, slots := 0, locals := 0 } : Room) #[(.ref a)] h0 [] (pureQ (some (.int 1)) h0) := by
  refine Con.of (a0 := a0) #[.val (.ref a)] (plainFor_of_name pn_1) hE O all0 (fun m => by first | (simp [entryFrame, mkF, argsToLocals, Value.category]; done) | rfl) ?_
  intro p e s m below meth c T0 hx hby hml hnm hret hlk hh W0
  obtain ⟨E_a, FC_a, FV_a, V_b, L_a, hl29⟩ := id S0
  refine w_getS (pc' := 3) W0 hx (hw _ (List.mem_of_getElem? w_22)) Via.refl G.1 (hb hby d_jdk_42_152_0) rfl fun T73 W73 => ?_
  refine g_ifN (pc' := 6) W73.here hx (hb hby d_jdk_42_152_3) rfl (feq (show ¬ (cc = (0 : Int32)) from G.2.1)).1 ?_
  refine g_aloadN (pc' := 7) W73.here hx (hb hby d_jdk_42_152_6) rfl rfl rfl ?_
  refine w_get (pc' := 10) W73 hx (hw _ (List.mem_of_getElem? w_34)) Via.refl FC_a (hb hby d_jdk_42_152_7) rfl fun T74 W74 => ?_
  refine g_goto (pc' := 14) W74.here hx (hb hby d_jdk_42_152_10) rfl ?_
  refine w_retN (t := .byte) W74 hx hh hlk hret (by simp) (hb hby d_jdk_42_152_14) (Nat.le_of_ble_eq_true rfl) (Nat.le_of_ble_eq_true rfl) ?_
  exact ⟨rfl, rfl⟩
set_option maxRecDepth 65536 in
set_option maxHeartbeats 40000000 in
theorem c_lengthL (l : Launch) (Z : State) (a0 : Array Value) (hw : ∀ d ∈ tables_1, d.before a0 Z = true) (hE : EW Z a0 consts_1) (cc : Int32) (fm : Value) (a b : Nat) (cs : List Int32)  (h0 : Heap) (O : Ext Z.heap h0) (G : SEnv Z cc fm) (GU : SEnvU Z) (S0 : SL Z h0 a b cs)  :
    Con l Z consts_1 (⟨"java/lang/String", "length", "()I"⟩ : MethodName) jdk_42_method_54_code 1 (Option.some Jvm.ClassFile.FieldType.int) ({ frames := 1, cells := 0, slots := 0, locals := 13 } : Room) #[(.ref a)] h0 [] (pureQ (some (.int cs.length.toInt32)) h0) := by
  refine Con.of (a0 := a0) #[.val (.ref a)] (plainFor_of_name pn_1) hE O all0 (fun m => by first | (simp [entryFrame, mkF, argsToLocals, Value.category]; done) | rfl) ?_
  intro p e s m below meth c T0 hx hby hml hnm hret hlk hh W0
  obtain ⟨E_a, FC_a, FV_a, V_b, L_a⟩ := id S0
  have hl29 : cs.length < 2 ^ 31 := by have := V_b.len; simpa using this
  refine g_aloadN (pc' := 1) W0.here hx (hb hby d_jdk_42_54_0) rfl rfl rfl ?_
  refine w_get (pc' := 4) W0 hx (hw _ (List.mem_of_getElem? w_36)) Via.refl FV_a (hb hby d_jdk_42_54_1) rfl fun T79 W79 => ?_
  refine w_len (pc' := 5) W79 hx V_b (hb hby d_jdk_42_54_4) rfl ?_
  refine g_name (w := .int cs.length.toInt32) (congrArg Value.int (by rw [List.length_map])) ?_
  refine g_aloadN (pc' := 6) W79.here hx (hb hby d_jdk_42_54_5) rfl rfl rfl ?_
  refine w_virtualp (pc' := 9) (st := [(.int cs.length.toInt32)]) (y := (⟨"java/lang/String", "coder", "()B"⟩ : MethodName)) (z := (⟨"java/lang/String", "coder", "()B"⟩ : MethodName)) (a := a) W79 hx [] (hw _ (List.mem_of_getElem? w_50)) (hw _ (List.mem_of_getElem? w_51)) (nfS (z := (⟨"java/lang/String", "coder", "()B"⟩ : MethodName)) (hw _ (List.mem_of_getElem? w_53))) (hw _ (List.mem_of_getElem? w_53)) (hw _ (List.mem_of_getElem? w_52)) (hw _ (List.mem_of_getElem? w_10)) (hw _ (List.mem_of_getElem? w_54)) (by decide) (c_coderL l Z a0 hw hE cc fm a b cs  h0 W79.old G GU S0 ) E_a (by rw [hml]; rfl) (lenOf pd_8 rfl) rfl (hb hby d_jdk_42_54_6) (Nat.le_of_ble_eq_true rfl) (Nat.le_of_ble_eq_true rfl) rfl rfl (Nat.le_of_ble_eq_true rfl) (Nat.le_of_ble_eq_true rfl) rfl fun T80 W80 => ?_
  refine g_ishr (pc' := 10) W80.here hx (hb hby d_jdk_42_54_9) rfl ?_
  refine w_retI W80 hx hh hlk hret (hb hby d_jdk_42_54_10) (Nat.le_of_ble_eq_true rfl) (Nat.le_of_ble_eq_true rfl) ?_
  exact ⟨congrArg (fun z => some (Value.int z)) (own_shr0 _), rfl⟩
set_option maxRecDepth 65536 in
set_option maxHeartbeats 40000000 in
theorem c_lengthU (l : Launch) (Z : State) (a0 : Array Value) (hw : ∀ d ∈ tables_1, d.before a0 Z = true) (hE : EW Z a0 consts_1) (cc : Int32) (fm : Value) (a b : Nat) (cs : List Int32)  (h0 : Heap) (O : Ext Z.heap h0) (G : SEnv Z cc fm) (GU : SEnvU Z) (S0 : SU Z h0 a b cs)  :
    Con l Z consts_1 (⟨"java/lang/String", "length", "()I"⟩ : MethodName) jdk_42_method_54_code 1 (Option.some Jvm.ClassFile.FieldType.int) ({ frames := 1, cells := 0, slots := 0, locals := 13 } : Room) #[(.ref a)] h0 [] (pureQ (some (.int cs.length.toInt32)) h0) := by
  refine Con.of (a0 := a0) #[.val (.ref a)] (plainFor_of_name pn_1) hE O all0 (fun m => by first | (simp [entryFrame, mkF, argsToLocals, Value.category]; done) | rfl) ?_
  intro p e s m below meth c T0 hx hby hml hnm hret hlk hh W0
  obtain ⟨E_a, FC_a, FV_a, V_b, L_a, hl29⟩ := id S0
  refine g_aloadN (pc' := 1) W0.here hx (hb hby d_jdk_42_54_0) rfl rfl rfl ?_
  refine w_get (pc' := 4) W0 hx (hw _ (List.mem_of_getElem? w_36)) Via.refl FV_a (hb hby d_jdk_42_54_1) rfl fun T81 W81 => ?_
  refine w_len (pc' := 5) W81 hx V_b (hb hby d_jdk_42_54_4) rfl ?_
  refine g_name (w := .int (2 * cs.length).toInt32) (congrArg Value.int (by rw [own_ulen])) ?_
  refine g_aloadN (pc' := 6) W81.here hx (hb hby d_jdk_42_54_5) rfl rfl rfl ?_
  refine w_virtualp (pc' := 9) (st := [(.int (2 * cs.length).toInt32)]) (y := (⟨"java/lang/String", "coder", "()B"⟩ : MethodName)) (z := (⟨"java/lang/String", "coder", "()B"⟩ : MethodName)) (a := a) W81 hx [] (hw _ (List.mem_of_getElem? w_50)) (hw _ (List.mem_of_getElem? w_51)) (nfS (z := (⟨"java/lang/String", "coder", "()B"⟩ : MethodName)) (hw _ (List.mem_of_getElem? w_53))) (hw _ (List.mem_of_getElem? w_53)) (hw _ (List.mem_of_getElem? w_52)) (hw _ (List.mem_of_getElem? w_10)) (hw _ (List.mem_of_getElem? w_54)) (by decide) (c_coderU l Z a0 hw hE cc fm a b cs  h0 W81.old G GU S0 ) E_a (by rw [hml]; rfl) (lenOf pd_8 rfl) rfl (hb hby d_jdk_42_54_6) (Nat.le_of_ble_eq_true rfl) (Nat.le_of_ble_eq_true rfl) rfl rfl (Nat.le_of_ble_eq_true rfl) (Nat.le_of_ble_eq_true rfl) rfl fun T82 W82 => ?_
  refine g_ishr (pc' := 10) W82.here hx (hb hby d_jdk_42_54_9) rfl ?_
  refine w_retI W82 hx hh hlk hret (hb hby d_jdk_42_54_10) (Nat.le_of_ble_eq_true rfl) (Nat.le_of_ble_eq_true rfl) ?_
  exact ⟨congrArg (fun z => some (Value.int z)) (own_shr1 hl29), rfl⟩
theorem c_length (l : Launch) (Z : State) (a0 : Array Value) (hw : ∀ d ∈ tables_1, d.before a0 Z = true) (hE : EW Z a0 consts_1) (cc : Int32) (fm : Value) (a b : Nat) (cs : List Int32)  (h0 : Heap) (O : Ext Z.heap h0) (G : SEnv Z cc fm) (GU : SEnvU Z) (S0 : SG Z h0 a b cs)  :
       Con l Z consts_1 (⟨"java/lang/String", "length", "()I"⟩ : MethodName) jdk_42_method_54_code 1 (Option.some Jvm.ClassFile.FieldType.int) ({ frames := 1, cells := 0, slots := 0, locals := 13 } : Room) #[(.ref a)] h0 [] (pureQ (some (.int cs.length.toInt32)) h0) := by
  rcases S0 with S0 | S0
  · exact c_lengthL l Z a0 hw hE cc fm a b cs h0 O G GU S0
  · exact c_lengthU l Z a0 hw hE cc fm a b cs h0 O G GU S0
set_option maxRecDepth 65536 in
set_option maxHeartbeats 40000000 in
theorem c_isLatL (l : Launch) (Z : State) (a0 : Array Value) (hw : ∀ d ∈ tables_1, d.before a0 Z = true) (hE : EW Z a0 consts_1) (cc : Int32) (fm : Value) (a b : Nat) (cs : List Int32)  (h0 : Heap) (O : Ext Z.heap h0) (G : SEnv Z cc fm) (GU : SEnvU Z) (S0 : SL Z h0 a b cs)  :
    Con l Z consts_1 (⟨"java/lang/String", "isLatin1", "()Z"⟩ : MethodName) jdk_42_method_154_code 1 (Option.some Jvm.ClassFile.FieldType.boolean) ({ frames := 0, cells := 0, slots := 0, locals := 0 } : Room) #[(.ref a)] h0 [] (pureQ (some (.int 1)) h0) := by
  refine Con.of (a0 := a0) #[.val (.ref a)] (plainFor_of_name pn_1) hE O all0 (fun m => by first | (simp [entryFrame, mkF, argsToLocals, Value.category]; done) | rfl) ?_
  intro p e s m below meth c T0 hx hby hml hnm hret hlk hh W0
  obtain ⟨E_a, FC_a, FV_a, V_b, L_a⟩ := id S0
  have hl29 : cs.length < 2 ^ 31 := by have := V_b.len; simpa using this
  refine w_getS (pc' := 3) W0 hx (hw _ (List.mem_of_getElem? w_22)) Via.refl G.1 (hb hby d_jdk_42_154_0) rfl fun T87 W87 => ?_
  refine g_ifN (pc' := 6) W87.here hx (hb hby d_jdk_42_154_3) rfl (feq (show ¬ (cc = (0 : Int32)) from G.2.1)).1 ?_
  refine g_aloadN (pc' := 7) W87.here hx (hb hby d_jdk_42_154_6) rfl rfl rfl ?_
  refine w_get (pc' := 10) W87 hx (hw _ (List.mem_of_getElem? w_34)) Via.refl FC_a (hb hby d_jdk_42_154_7) rfl fun T88 W88 => ?_
  refine g_ifN (pc' := 13) W88.here hx (hb hby d_jdk_42_154_10) rfl (teq (show (0 : Int32) = (0 : Int32) from (by decide))).2 ?_
  refine g_iconst (1 : Int32) (pc' := 14) W88.here hx (hb hby d_jdk_42_154_13) rfl rfl ?_
  refine g_goto (pc' := 18) W88.here hx (hb hby d_jdk_42_154_14) rfl ?_
  refine w_retN (t := .boolean) W88 hx hh hlk hret (by simp) (hb hby d_jdk_42_154_18) (Nat.le_of_ble_eq_true rfl) (Nat.le_of_ble_eq_true rfl) ?_
  exact ⟨rfl, rfl⟩
set_option maxRecDepth 65536 in
set_option maxHeartbeats 40000000 in
theorem c_isLatU (l : Launch) (Z : State) (a0 : Array Value) (hw : ∀ d ∈ tables_1, d.before a0 Z = true) (hE : EW Z a0 consts_1) (cc : Int32) (fm : Value) (a b : Nat) (cs : List Int32)  (h0 : Heap) (O : Ext Z.heap h0) (G : SEnv Z cc fm) (GU : SEnvU Z) (S0 : SU Z h0 a b cs)  :
    Con l Z consts_1 (⟨"java/lang/String", "isLatin1", "()Z"⟩ : MethodName) jdk_42_method_154_code 1 (Option.some Jvm.ClassFile.FieldType.boolean) ({ frames := 0, cells := 0, slots := 0, locals := 0 } : Room) #[(.ref a)] h0 [] (pureQ (some (.int 0)) h0) := by
  refine Con.of (a0 := a0) #[.val (.ref a)] (plainFor_of_name pn_1) hE O all0 (fun m => by first | (simp [entryFrame, mkF, argsToLocals, Value.category]; done) | rfl) ?_
  intro p e s m below meth c T0 hx hby hml hnm hret hlk hh W0
  obtain ⟨E_a, FC_a, FV_a, V_b, L_a, hl29⟩ := id S0
  refine w_getS (pc' := 3) W0 hx (hw _ (List.mem_of_getElem? w_22)) Via.refl G.1 (hb hby d_jdk_42_154_0) rfl fun T89 W89 => ?_
  refine g_ifN (pc' := 6) W89.here hx (hb hby d_jdk_42_154_3) rfl (feq (show ¬ (cc = (0 : Int32)) from G.2.1)).1 ?_
  refine g_aloadN (pc' := 7) W89.here hx (hb hby d_jdk_42_154_6) rfl rfl rfl ?_
  refine w_get (pc' := 10) W89 hx (hw _ (List.mem_of_getElem? w_34)) Via.refl FC_a (hb hby d_jdk_42_154_7) rfl fun T90 W90 => ?_
  refine g_ifY (pc' := 17) W90.here hx (hb hby d_jdk_42_154_10) rfl (feq (show ¬ ((1 : Int32) = (0 : Int32)) from (by decide))).2 ?_
  refine g_iconst (0 : Int32) (pc' := 18) W90.here hx (hb hby d_jdk_42_154_17) rfl rfl ?_
  refine w_retN (t := .boolean) W90 hx hh hlk hret (by simp) (hb hby d_jdk_42_154_18) (Nat.le_of_ble_eq_true rfl) (Nat.le_of_ble_eq_true rfl) ?_
  exact ⟨rfl, rfl⟩
set_option maxRecDepth 65536 in
set_option maxHeartbeats 40000000 in
theorem c_chk3 (l : Launch) (Z : State) (a0 : Array Value) (hw : ∀ d ∈ tables_1, d.before a0 Z = true) (hE : EW Z a0 consts_1) (j n : Int32) (fm : Value) (h0 : Heap) (O : Ext Z.heap h0) (hfm : fm.isRef = true) (hj : ¬ j < 0) (hjn : j < n) :
    Con l Z consts_1 (⟨"jdk/internal/util/Preconditions", "checkIndex", "(IILjava/util/function/BiFunction;)I"⟩ : MethodName) jdk_41_method_11_code 3 (Option.some Jvm.ClassFile.FieldType.int) ({ frames := 0, cells := 0, slots := 0, locals := 0 } : Room) #[(.int j), (.int n), fm] h0 [] (pureQ (some (.int j)) h0) := by
  refine Con.of (a0 := a0) #[.val (.int j), .val (.int n), .val fm] (plainFor_of_name pn_2) hE O all0 (fun m => by rcases ref_cases hfm with rfl | ⟨_, rfl⟩ <;> rfl) ?_
  intro p e s m below meth c T0 hx hby hml hnm hret hlk hh W0
  refine g_iloadN (pc' := 1) W0.here hx (hb hby d_jdk_41_11_0) rfl rfl ?_
  refine g_ifN (pc' := 4) W0.here hx (hb hby d_jdk_41_11_1) rfl (flt (show ¬ (j < (0 : Int32)) from hj)).1 ?_
  refine g_iloadN (pc' := 5) W0.here hx (hb hby d_jdk_41_11_4) rfl rfl ?_
  refine g_iloadN (pc' := 6) W0.here hx (hb hby d_jdk_41_11_5) rfl rfl ?_
  refine g_icmpY (pc' := 16) W0.here hx (hb hby d_jdk_41_11_6) rfl (tlt (show j < n from hjn)).1 ?_
  refine g_iloadN (pc' := 17) W0.here hx (hb hby d_jdk_41_11_16) rfl rfl ?_
  refine w_retI W0 hx hh hlk hret (hb hby d_jdk_41_11_17) (Nat.le_of_ble_eq_true rfl) (Nat.le_of_ble_eq_true rfl) ?_
  exact ⟨rfl, rfl⟩
set_option maxRecDepth 65536 in
set_option maxHeartbeats 40000000 in
theorem c_chk2 (l : Launch) (Z : State) (a0 : Array Value) (hw : ∀ d ∈ tables_1, d.before a0 Z = true) (hE : EW Z a0 consts_1) (cc : Int32) (fm : Value) (j n : Int32) (h0 : Heap) (O : Ext Z.heap h0) (G : SEnv Z cc fm) (GU : SEnvU Z) (hj : ¬ j < 0) (hjn : j < n) :
    Con l Z consts_1 (⟨"java/lang/String", "checkIndex", "(II)V"⟩ : MethodName) jdk_42_method_155_code 2 (Option.none : Option Jvm.ClassFile.FieldType) ({ frames := 1, cells := 0, slots := 0, locals := 14 } : Room) #[(.int j), (.int n)] h0 [] (pureQ none h0) := by
  refine Con.of (a0 := a0) #[.val (.int j), .val (.int n)] (plainFor_of_name pn_1) hE O all0 (fun m => by first | (simp [entryFrame, mkF, argsToLocals, Value.category]; done) | rfl) ?_
  intro p e s m below meth c T0 hx hby hml hnm hret hlk hh W0
  refine g_iloadN (pc' := 1) W0.here hx (hb hby d_jdk_42_155_0) rfl rfl ?_
  refine g_iloadN (pc' := 2) W0.here hx (hb hby d_jdk_42_155_1) rfl rfl ?_
  refine w_getS (pc' := 5) W0 hx (hw _ (List.mem_of_getElem? w_94)) Via.refl G.2.2.1 (hb hby d_jdk_42_155_2) rfl fun T91 W91 => ?_
  refine w_callSp (pc' := 8) (st := []) (y := (⟨"jdk/internal/util/Preconditions", "checkIndex", "(IILjava/util/function/BiFunction;)I"⟩ : MethodName)) W91 hx [(.int j), (.int n), fm] (hw _ (List.mem_of_getElem? w_96)) (hw _ (List.mem_of_getElem? w_97)) (hw _ (List.mem_of_getElem? w_95)) (hw _ (List.mem_of_getElem? w_98)) (by decide) (c_chk3 l Z a0 hw hE j n fm h0 W91.old G.2.2.2 hj hjn) (by rw [hml]; rfl) (lenOf pd_9 rfl) rfl (hb hby d_jdk_42_155_5) (Nat.le_of_ble_eq_true rfl) (Nat.le_of_ble_eq_true rfl) rfl rfl (Nat.le_of_ble_eq_true rfl) (Nat.le_of_ble_eq_true rfl) rfl fun T92 W92 => ?_
  refine g_pop (pc' := 9) W92.here hx (hb hby d_jdk_42_155_8) rfl rfl ?_
  refine w_retV W92 hx hh hlk hret (hb hby d_jdk_42_155_9) (Nat.le_of_ble_eq_true rfl) (Nat.le_of_ble_eq_true rfl) ?_
  exact ⟨rfl, rfl⟩
set_option maxRecDepth 65536 in
set_option maxHeartbeats 40000000 in
theorem c_l1at (l : Launch) (Z : State) (a0 : Array Value) (hw : ∀ d ∈ tables_1, d.before a0 Z = true) (hE : EW Z a0 consts_1) (cc : Int32) (fm : Value) (a b : Nat) (cs : List Int32) (j cj : Int32) (h0 : Heap) (O : Ext Z.heap h0) (G : SEnv Z cc fm) (GU : SEnvU Z) (S0 : SL Z h0 a b cs) (hj : ¬ j < 0) (hjn : j < cs.length.toInt32) (hcj : cs[j.toNatClampNeg]? = some cj) :
    Con l Z consts_1 (⟨"java/lang/StringLatin1", "charAt", "([BI)C"⟩ : MethodName) jdk_43_method_2_code 2 (Option.some Jvm.ClassFile.FieldType.char) ({ frames := 2, cells := 0, slots := 0, locals := 27 } : Room) #[(.ref b), (.int j)] h0 [] (pureQ (some (.int cj)) h0) := by
  refine Con.of (a0 := a0) #[.val (.ref b), .val (.int j)] (plainFor_of_name pn_3) hE O all0 (fun m => by first | (simp [entryFrame, mkF, argsToLocals, Value.category]; done) | rfl) ?_
  intro p e s m below meth c T0 hx hby hml hnm hret hlk hh W0
  obtain ⟨E_a, FC_a, FV_a, V_b, L_a⟩ := id S0
  have hl29 : cs.length < 2 ^ 31 := by have := V_b.len; simpa using this
  refine g_iloadN (pc' := 1) W0.here hx (hb hby d_jdk_43_2_0) rfl rfl ?_
  refine g_aloadN (pc' := 2) W0.here hx (hb hby d_jdk_43_2_1) rfl rfl rfl ?_
  refine w_len (pc' := 3) W0 hx V_b (hb hby d_jdk_43_2_2) rfl ?_
  refine g_name (w := .int cs.length.toInt32) (congrArg Value.int (by rw [List.length_map])) ?_
  refine w_callSp (pc' := 6) (st := []) (y := (⟨"java/lang/String", "checkIndex", "(II)V"⟩ : MethodName)) W0 hx [(.int j), (.int cs.length.toInt32)] (hw _ (List.mem_of_getElem? w_91)) (hw _ (List.mem_of_getElem? w_92)) (hw _ (List.mem_of_getElem? w_10)) (hw _ (List.mem_of_getElem? w_93)) (by decide) (c_chk2 l Z a0 hw hE cc fm j cs.length.toInt32 h0 W0.old G GU hj hjn) (by rw [hml]; rfl) (lenOf pd_10 rfl) rfl (hb hby d_jdk_43_2_3) (Nat.le_of_ble_eq_true rfl) (Nat.le_of_ble_eq_true rfl) rfl rfl (Nat.le_of_ble_eq_true rfl) (Nat.le_of_ble_eq_true rfl) rfl fun T93 W93 => ?_
  refine g_aloadN (pc' := 7) W93.here hx (hb hby d_jdk_43_2_6) rfl rfl rfl ?_
  refine g_iloadN (pc' := 8) W93.here hx (hb hby d_jdk_43_2_7) rfl rfl ?_
  refine w_baload (pc' := 9) (v := (.int cj.toInt8.toInt32)) W93 hx V_b hj (by rw [List.getElem?_map, hcj]; rfl) (hb hby d_jdk_43_2_8) rfl ?_
  refine g_sipush (255 : Int32) (pc' := 12) W93.here hx (hb hby d_jdk_43_2_9) rfl rfl ?_
  refine g_iand (pc' := 13) W93.here hx (hb hby d_jdk_43_2_12) rfl ?_
  refine g_i2c (pc' := 14) W93.here hx (hb hby d_jdk_43_2_13) rfl ?_
  refine w_retN (t := .char) W93 hx hh hlk hret (by simp) (hb hby d_jdk_43_2_14) (Nat.le_of_ble_eq_true rfl) (Nat.le_of_ble_eq_true rfl) ?_
  exact ⟨congrArg (fun z => some (Value.int z)) (own_back cj (L_a cj (List.mem_of_getElem? hcj))), rfl⟩
set_option maxRecDepth 65536 in
set_option maxHeartbeats 40000000 in
theorem c_ulen (l : Launch) (Z : State) (a0 : Array Value) (hw : ∀ d ∈ tables_1, d.before a0 Z = true) (hE : EW Z a0 consts_1) (cc : Int32) (fm : Value) (a b : Nat) (cs : List Int32)  (h0 : Heap) (O : Ext Z.heap h0) (G : SEnv Z cc fm) (GU : SEnvU Z) (S0 : SU Z h0 a b cs)  :
    Con l Z consts_1 (⟨"java/lang/StringUTF16", "length", "([B)I"⟩ : MethodName) jdk_52_method_6_code 1 (Option.some Jvm.ClassFile.FieldType.int) ({ frames := 0, cells := 0, slots := 0, locals := 0 } : Room) #[(.ref b)] h0 [] (pureQ (some (.int cs.length.toInt32)) h0) := by
  refine Con.of (a0 := a0) #[.val (.ref b)] (plainFor_of_name pn_0) hE O all0 (fun m => by first | (simp [entryFrame, mkF, argsToLocals, Value.category]; done) | rfl) ?_
  intro p e s m below meth c T0 hx hby hml hnm hret hlk hh W0
  obtain ⟨E_a, FC_a, FV_a, V_b, L_a, hl29⟩ := id S0
  refine g_aloadN (pc' := 1) W0.here hx (hb hby d_jdk_52_6_0) rfl rfl rfl ?_
  refine w_len (pc' := 2) W0 hx V_b (hb hby d_jdk_52_6_1) rfl ?_
  refine g_name (w := .int (2 * cs.length).toInt32) (congrArg Value.int (by rw [own_ulen])) ?_
  refine g_iconst (1 : Int32) (pc' := 3) W0.here hx (hb hby d_jdk_52_6_2) rfl rfl ?_
  refine g_ishr (pc' := 4) W0.here hx (hb hby d_jdk_52_6_3) rfl ?_
  refine w_retI W0 hx hh hlk hret (hb hby d_jdk_52_6_4) (Nat.le_of_ble_eq_true rfl) (Nat.le_of_ble_eq_true rfl) ?_
  exact ⟨congrArg (fun z => some (Value.int z)) (own_shr1 hl29), rfl⟩
set_option maxRecDepth 65536 in
set_option maxHeartbeats 40000000 in
theorem c_uchk (l : Launch) (Z : State) (a0 : Array Value) (hw : ∀ d ∈ tables_1, d.before a0 Z = true) (hE : EW Z a0 consts_1) (cc : Int32) (fm : Value) (a b : Nat) (cs : List Int32) (j : Int32) (h0 : Heap) (O : Ext Z.heap h0) (G : SEnv Z cc fm) (GU : SEnvU Z) (S0 : SU Z h0 a b cs) (hj : ¬ j < 0) (hjn : j < cs.length.toInt32) :
    Con l Z consts_1 (⟨"java/lang/StringUTF16", "checkIndex", "(I[B)V"⟩ : MethodName) jdk_52_method_91_code 2 (Option.none : Option Jvm.ClassFile.FieldType) ({ frames := 2, cells := 0, slots := 0, locals := 27 } : Room) #[(.int j), (.ref b)] h0 [] (pureQ none h0) := by
  refine Con.of (a0 := a0) #[.val (.int j), .val (.ref b)] (plainFor_of_name pn_0) hE O all0 (fun m => by first | (simp [entryFrame, mkF, argsToLocals, Value.category]; done) | rfl) ?_
  intro p e s m below meth c T0 hx hby hml hnm hret hlk hh W0
  obtain ⟨E_a, FC_a, FV_a, V_b, L_a, hl29⟩ := id S0
  refine g_iloadN (pc' := 1) W0.here hx (hb hby d_jdk_52_91_0) rfl rfl ?_
  refine g_aloadN (pc' := 2) W0.here hx (hb hby d_jdk_52_91_1) rfl rfl rfl ?_
  refine w_callSp (pc' := 5) (st := [(.int j)]) (y := (⟨"java/lang/StringUTF16", "length", "([B)I"⟩ : MethodName)) W0 hx [(.ref b)] (hw _ (List.mem_of_getElem? w_108)) (hw _ (List.mem_of_getElem? w_109)) (hw _ (List.mem_of_getElem? w_25)) (hw _ (List.mem_of_getElem? w_110)) (by decide) (c_ulen l Z a0 hw hE cc fm a b cs h0 W0.old G GU S0) (by rw [hml]; rfl) (lenOf pd_11 rfl) rfl (hb hby d_jdk_52_91_2) (Nat.le_of_ble_eq_true rfl) (Nat.le_of_ble_eq_true rfl) rfl rfl (Nat.le_of_ble_eq_true rfl) (Nat.le_of_ble_eq_true rfl) rfl fun T94 W94 => ?_
  refine w_callSp (pc' := 8) (st := []) (y := (⟨"java/lang/String", "checkIndex", "(II)V"⟩ : MethodName)) W94 hx [(.int j), (.int cs.length.toInt32)] (hw _ (List.mem_of_getElem? w_111)) (hw _ (List.mem_of_getElem? w_92)) (hw _ (List.mem_of_getElem? w_10)) (hw _ (List.mem_of_getElem? w_93)) (by decide) (c_chk2 l Z a0 hw hE cc fm j cs.length.toInt32 h0 W94.old G GU hj hjn) (by rw [hml]; rfl) (lenOf pd_10 rfl) rfl (hb hby d_jdk_52_91_5) (Nat.le_of_ble_eq_true rfl) (Nat.le_of_ble_eq_true rfl) rfl rfl (Nat.le_of_ble_eq_true rfl) (Nat.le_of_ble_eq_true rfl) rfl fun T95 W95 => ?_
  refine w_retV W95 hx hh hlk hret (hb hby d_jdk_52_91_8) (Nat.le_of_ble_eq_true rfl) (Nat.le_of_ble_eq_true rfl) ?_
  exact ⟨rfl, rfl⟩
theorem own_jn {j : Int32} (h : ¬ j < 0) : j = j.toNatClampNeg.toInt32 := (back32 h).1.symm
set_option maxRecDepth 65536 in
set_option maxHeartbeats 40000000 in
theorem c_uat (l : Launch) (Z : State) (a0 : Array Value) (hw : ∀ d ∈ tables_1, d.before a0 Z = true) (hE : EW Z a0 consts_1) (cc : Int32) (fm : Value) (a b : Nat) (cs : List Int32) (j cj : Int32) (h0 : Heap) (O : Ext Z.heap h0) (G : SEnv Z cc fm) (GU : SEnvU Z) (hl28 : cs.length ≤ 2 ^ 28) (S0 : SU Z h0 a b cs) (hj : ¬ j < 0) (hjn : j < cs.length.toInt32) (hcj : cs[j.toNatClampNeg]? = some cj) :
    Con l Z consts_1 (⟨"java/lang/StringUTF16", "charAt", "([BI)C"⟩ : MethodName) jdk_52_method_83_code 2 (Option.some Jvm.ClassFile.FieldType.char) ({ frames := 3, cells := 0, slots := 0, locals := 40 } : Room) #[(.ref b), (.int j)] h0 [] (pureQ (some (.int cj)) h0) := by
  refine Con.of (a0 := a0) #[.val (.ref b), .val (.int j)] (plainFor_of_name pn_0) hE O all0 (fun m => by first | (simp [entryFrame, mkF, argsToLocals, Value.category]; done) | rfl) ?_
  intro p e s m below meth c T0 hx hby hml hnm hret hlk hh W0
  obtain ⟨E_a, FC_a, FV_a, V_b, L_a, hl29⟩ := id S0
  refine g_iloadN (pc' := 1) W0.here hx (hb hby d_jdk_52_83_0) rfl rfl ?_
  refine g_aloadN (pc' := 2) W0.here hx (hb hby d_jdk_52_83_1) rfl rfl rfl ?_
  refine w_callSp (pc' := 5) (st := []) (y := (⟨"java/lang/StringUTF16", "checkIndex", "(I[B)V"⟩ : MethodName)) W0 hx [(.int j), (.ref b)] (hw _ (List.mem_of_getElem? w_105)) (hw _ (List.mem_of_getElem? w_106)) (hw _ (List.mem_of_getElem? w_25)) (hw _ (List.mem_of_getElem? w_107)) (by decide) (c_uchk l Z a0 hw hE cc fm a b cs j h0 W0.old G GU S0 hj hjn) (by rw [hml]; rfl) (lenOf pd_12 rfl) rfl (hb hby d_jdk_52_83_2) (Nat.le_of_ble_eq_true rfl) (Nat.le_of_ble_eq_true rfl) rfl rfl (Nat.le_of_ble_eq_true rfl) (Nat.le_of_ble_eq_true rfl) rfl fun T96 W96 => ?_
  refine g_aloadN (pc' := 6) W96.here hx (hb hby d_jdk_52_83_5) rfl rfl rfl ?_
  refine g_iloadN (pc' := 7) W96.here hx (hb hby d_jdk_52_83_6) rfl rfl ?_
  have hj28 : j.toNatClampNeg < 2 ^ 28 := by have := (List.getElem?_eq_some_iff.mp hcj).1; omega
  refine g_name (w := .int j.toNatClampNeg.toInt32) (congrArg Value.int (own_jn hj).symm) ?_
  refine w_callSp (pc' := 10) (st := []) (y := (⟨"java/lang/StringUTF16", "getChar", "([BI)C"⟩ : MethodName)) W96 hx [(.ref b), (.int j.toNatClampNeg.toInt32)] (hw _ (List.mem_of_getElem? w_71)) (hw _ (List.mem_of_getElem? w_72)) (hw _ (List.mem_of_getElem? w_25)) (hw _ (List.mem_of_getElem? w_73)) (by decide) (c_getChar l Z a0 hw hE cc fm b j.toNatClampNeg cj _ h0 W96.old G GU V_b hj28 (own_uget cs _ cj hcj).1 (own_uget cs _ cj hcj).2 (L_a cj (List.mem_of_getElem? hcj))) (by rw [hml]; rfl) (lenOf pd_5 rfl) rfl (hb hby d_jdk_52_83_7) (Nat.le_of_ble_eq_true rfl) (Nat.le_of_ble_eq_true rfl) rfl rfl (Nat.le_of_ble_eq_true rfl) (Nat.le_of_ble_eq_true rfl) rfl fun T97 W97 => ?_
  refine w_retN (t := .char) W97 hx hh hlk hret (by simp) (hb hby d_jdk_52_83_10) (Nat.le_of_ble_eq_true rfl) (Nat.le_of_ble_eq_true rfl) ?_
  exact ⟨congrArg (fun z => some (Value.int z)) (own_nchar (L_a cj (List.mem_of_getElem? hcj))), rfl⟩
set_option maxRecDepth 65536 in
set_option maxHeartbeats 40000000 in
theorem c_charAtL (l : Launch) (Z : State) (a0 : Array Value) (hw : ∀ d ∈ tables_1, d.before a0 Z = true) (hE : EW Z a0 consts_1) (cc : Int32) (fm : Value) (a b : Nat) (cs : List Int32) (j cj : Int32)  (h0 : Heap) (O : Ext Z.heap h0) (G : SEnv Z cc fm) (GU : SEnvU Z) (S0 : SL Z h0 a b cs) (hl28 : cs.length ≤ 2 ^ 28) (hj : ¬ j < 0) (hjn : j < cs.length.toInt32) (hcj : cs[j.toNatClampNeg]? = some cj) :
    Con l Z consts_1 (⟨"java/lang/String", "charAt", "(I)C"⟩ : MethodName) jdk_42_method_56_code 2 (Option.some Jvm.ClassFile.FieldType.char) ({ frames := 4, cells := 0, slots := 0, locals := 53 } : Room) #[(.ref a), (.int j)] h0 [] (pureQ (some (.int cj)) h0) := by
  refine Con.of (a0 := a0) #[.val (.ref a), .val (.int j)] (plainFor_of_name pn_1) hE O all0 (fun m => by first | (simp [entryFrame, mkF, argsToLocals, Value.category]; done) | rfl) ?_
  intro p e s m below meth c T0 hx hby hml hnm hret hlk hh W0
  obtain ⟨E_a, FC_a, FV_a, V_b, L_a⟩ := id S0
  have hl29 : cs.length < 2 ^ 31 := by have := V_b.len; simpa using this
  refine g_aloadN (pc' := 1) W0.here hx (hb hby d_jdk_42_56_0) rfl rfl rfl ?_
  refine w_virtualp (pc' := 4) (st := []) (y := (⟨"java/lang/String", "isLatin1", "()Z"⟩ : MethodName)) (z := (⟨"java/lang/String", "isLatin1", "()Z"⟩ : MethodName)) (a := a) W0 hx [] (hw _ (List.mem_of_getElem? w_82)) (hw _ (List.mem_of_getElem? w_83)) (nfS (z := (⟨"java/lang/String", "isLatin1", "()Z"⟩ : MethodName)) (hw _ (List.mem_of_getElem? w_85))) (hw _ (List.mem_of_getElem? w_85)) (hw _ (List.mem_of_getElem? w_84)) (hw _ (List.mem_of_getElem? w_10)) (hw _ (List.mem_of_getElem? w_86)) (by decide) (c_isLatL l Z a0 hw hE cc fm a b cs  h0 W0.old G GU S0 ) E_a (by rw [hml]; rfl) (lenOf pd_13 rfl) rfl (hb hby d_jdk_42_56_1) (Nat.le_of_ble_eq_true rfl) (Nat.le_of_ble_eq_true rfl) rfl rfl (Nat.le_of_ble_eq_true rfl) (Nat.le_of_ble_eq_true rfl) rfl fun T104 W104 => ?_
  refine g_ifN (pc' := 7) W104.here hx (hb hby d_jdk_42_56_4) rfl (feq (show ¬ ((1 : Int32) = (0 : Int32)) from (by decide))).1 ?_
  refine g_aloadN (pc' := 8) W104.here hx (hb hby d_jdk_42_56_7) rfl rfl rfl ?_
  refine w_get (pc' := 11) W104 hx (hw _ (List.mem_of_getElem? w_36)) Via.refl FV_a (hb hby d_jdk_42_56_8) rfl fun T105 W105 => ?_
  refine g_iloadN (pc' := 12) W105.here hx (hb hby d_jdk_42_56_11) rfl rfl ?_
  refine w_callSp (pc' := 15) (st := []) (y := (⟨"java/lang/StringLatin1", "charAt", "([BI)C"⟩ : MethodName)) W105 hx [(.ref b), (.int j)] (hw _ (List.mem_of_getElem? w_87)) (hw _ (List.mem_of_getElem? w_88)) (hw _ (List.mem_of_getElem? w_89)) (hw _ (List.mem_of_getElem? w_90)) (by decide) (c_l1at l Z a0 hw hE cc fm a b cs j cj h0 W105.old G GU S0 hj hjn hcj) (by rw [hml]; rfl) (lenOf pd_5 rfl) rfl (hb hby d_jdk_42_56_12) (Nat.le_of_ble_eq_true rfl) (Nat.le_of_ble_eq_true rfl) rfl rfl (Nat.le_of_ble_eq_true rfl) (Nat.le_of_ble_eq_true rfl) rfl fun T106 W106 => ?_
  refine w_retN (t := .char) W106 hx hh hlk hret (by simp) (hb hby d_jdk_42_56_15) (Nat.le_of_ble_eq_true rfl) (Nat.le_of_ble_eq_true rfl) ?_
  exact ⟨congrArg (fun z => some (Value.int z)) (own_nchar (by have := L_a cj (List.mem_of_getElem? hcj); omega)), rfl⟩
set_option maxRecDepth 65536 in
set_option maxHeartbeats 40000000 in
theorem c_charAtU (l : Launch) (Z : State) (a0 : Array Value) (hw : ∀ d ∈ tables_1, d.before a0 Z = true) (hE : EW Z a0 consts_1) (cc : Int32) (fm : Value) (a b : Nat) (cs : List Int32) (j cj : Int32)  (h0 : Heap) (O : Ext Z.heap h0) (G : SEnv Z cc fm) (GU : SEnvU Z) (S0 : SU Z h0 a b cs) (hl28 : cs.length ≤ 2 ^ 28) (hj : ¬ j < 0) (hjn : j < cs.length.toInt32) (hcj : cs[j.toNatClampNeg]? = some cj) :
    Con l Z consts_1 (⟨"java/lang/String", "charAt", "(I)C"⟩ : MethodName) jdk_42_method_56_code 2 (Option.some Jvm.ClassFile.FieldType.char) ({ frames := 4, cells := 0, slots := 0, locals := 53 } : Room) #[(.ref a), (.int j)] h0 [] (pureQ (some (.int cj)) h0) := by
  refine Con.of (a0 := a0) #[.val (.ref a), .val (.int j)] (plainFor_of_name pn_1) hE O all0 (fun m => by first | (simp [entryFrame, mkF, argsToLocals, Value.category]; done) | rfl) ?_
  intro p e s m below meth c T0 hx hby hml hnm hret hlk hh W0
  obtain ⟨E_a, FC_a, FV_a, V_b, L_a, hl29⟩ := id S0
  refine g_aloadN (pc' := 1) W0.here hx (hb hby d_jdk_42_56_0) rfl rfl rfl ?_
  refine w_virtualp (pc' := 4) (st := []) (y := (⟨"java/lang/String", "isLatin1", "()Z"⟩ : MethodName)) (z := (⟨"java/lang/String", "isLatin1", "()Z"⟩ : MethodName)) (a := a) W0 hx [] (hw _ (List.mem_of_getElem? w_82)) (hw _ (List.mem_of_getElem? w_83)) (nfS (z := (⟨"java/lang/String", "isLatin1", "()Z"⟩ : MethodName)) (hw _ (List.mem_of_getElem? w_85))) (hw _ (List.mem_of_getElem? w_85)) (hw _ (List.mem_of_getElem? w_84)) (hw _ (List.mem_of_getElem? w_10)) (hw _ (List.mem_of_getElem? w_86)) (by decide) (c_isLatU l Z a0 hw hE cc fm a b cs  h0 W0.old G GU S0 ) E_a (by rw [hml]; rfl) (lenOf pd_13 rfl) rfl (hb hby d_jdk_42_56_1) (Nat.le_of_ble_eq_true rfl) (Nat.le_of_ble_eq_true rfl) rfl rfl (Nat.le_of_ble_eq_true rfl) (Nat.le_of_ble_eq_true rfl) rfl fun T107 W107 => ?_
  refine g_ifY (pc' := 16) W107.here hx (hb hby d_jdk_42_56_4) rfl (teq (show (0 : Int32) = (0 : Int32) from (by decide))).1 ?_
  refine g_aloadN (pc' := 17) W107.here hx (hb hby d_jdk_42_56_16) rfl rfl rfl ?_
  refine w_get (pc' := 20) W107 hx (hw _ (List.mem_of_getElem? w_36)) Via.refl FV_a (hb hby d_jdk_42_56_17) rfl fun T108 W108 => ?_
  refine g_iloadN (pc' := 21) W108.here hx (hb hby d_jdk_42_56_20) rfl rfl ?_
  refine w_callSp (pc' := 24) (st := []) (y := (⟨"java/lang/StringUTF16", "charAt", "([BI)C"⟩ : MethodName)) W108 hx [(.ref b), (.int j)] (hw _ (List.mem_of_getElem? w_102)) (hw _ (List.mem_of_getElem? w_103)) (hw _ (List.mem_of_getElem? w_25)) (hw _ (List.mem_of_getElem? w_104)) (by decide) (c_uat l Z a0 hw hE cc fm a b cs j cj h0 W108.old G GU hl28 S0 hj hjn hcj) (by rw [hml]; rfl) (lenOf pd_5 rfl) rfl (hb hby d_jdk_42_56_21) (Nat.le_of_ble_eq_true rfl) (Nat.le_of_ble_eq_true rfl) rfl rfl (Nat.le_of_ble_eq_true rfl) (Nat.le_of_ble_eq_true rfl) rfl fun T109 W109 => ?_
  refine w_retN (t := .char) W109 hx hh hlk hret (by simp) (hb hby d_jdk_42_56_24) (Nat.le_of_ble_eq_true rfl) (Nat.le_of_ble_eq_true rfl) ?_
  exact ⟨congrArg (fun z => some (Value.int z)) (own_nchar (by have := L_a cj (List.mem_of_getElem? hcj); omega)), rfl⟩
theorem c_charAt (l : Launch) (Z : State) (a0 : Array Value) (hw : ∀ d ∈ tables_1, d.before a0 Z = true) (hE : EW Z a0 consts_1) (cc : Int32) (fm : Value) (a b : Nat) (cs : List Int32) (j cj : Int32)  (h0 : Heap) (O : Ext Z.heap h0) (G : SEnv Z cc fm) (GU : SEnvU Z) (S0 : SG Z h0 a b cs) (hl28 : cs.length ≤ 2 ^ 28) (hj : ¬ j < 0) (hjn : j < cs.length.toInt32) (hcj : cs[j.toNatClampNeg]? = some cj) :
       Con l Z consts_1 (⟨"java/lang/String", "charAt", "(I)C"⟩ : MethodName) jdk_42_method_56_code 2 (Option.some Jvm.ClassFile.FieldType.char) ({ frames := 4, cells := 0, slots := 0, locals := 53 } : Room) #[(.ref a), (.int j)] h0 [] (pureQ (some (.int cj)) h0) := by
  rcases S0 with S0 | S0
  · exact c_charAtL l Z a0 hw hE cc fm a b cs j cj h0 O G GU S0 hl28 hj hjn hcj
  · exact c_charAtU l Z a0 hw hE cc fm a b cs j cj h0 O G GU S0 hl28 hj hjn hcj
def lowI (c : Int32) : Int32 := if 65 ≤ c.toInt ∧ c.toInt ≤ 90 then c + 32 else c
def eqI (x y : Int32) : Int32 := if lowI x = lowI y then 1 else 0
def sameI (xs ys : List Int32) : Int32 := if xs.map lowI = ys.map lowI then 1 else 0
def mkL (n c0 c1 c2 : Int32) : List Int32 := if n = 0 then [] else if n = 1 then [c0] else if n = 2 then [c0, c1] else [c0, c1, c2]
theorem own_mkl (n c0 c1 c2 : Int32) : (mkL n c0 c1 c2).length ≤ 3 := by
  unfold mkL; split
  · simp
  · split
    · simp
    · split <;> simp
theorem own_low (c : Int32) (h : 0 ≤ c.toInt ∧ c.toInt < 65536) : (65 ≤ c.toInt ∧ c.toInt ≤ 90 ∧ (lowI c).toInt = c.toInt + 32) ∨ (¬ (65 ≤ c.toInt ∧ c.toInt ≤ 90) ∧ (lowI c).toInt = c.toInt) := by
  by_cases q : 65 ≤ c.toInt ∧ c.toInt ≤ 90
  · left
    have a := c_iadd c 32
    have r := rng32 (c + 32)
    have e : (32 : Int32).toInt = 32 := rfl
    simp only [lowI]; rw [if_pos q]; omega
  · right; simp only [lowI]; rw [if_neg q]; exact ⟨q, rfl⟩
theorem own_narc (z : Int32) : 0 ≤ (nar .char z).toInt ∧ (nar .char z).toInt < 65536 := by
  have := c_i2c z
  have e : nar .char z = z.toUInt32.toUInt16.toUInt32.toInt32 := rfl
  rw [e]; omega
theorem own_nari {z : Int32} (h : 0 ≤ z.toInt ∧ z.toInt < 65536) : nar .char z.toUInt32.toUInt16.toUInt32.toInt32 = z := by
  have q := c_i2c z
  have e : z.toUInt32.toUInt16.toUInt32.toInt32 = z := by apply Int32.toInt_inj.mp; omega
  rw [e]; exact own_nchar h
theorem SG.rng {Z : State} {h : Heap} {a b : Addr} {cs : List Int32} (S : SG Z h a b cs) : ∀ c ∈ cs, 0 ≤ c.toInt ∧ c.toInt < 65536 := by
  rcases S with S | S
  · intro c hc; have := S.2.2.2.2 c hc; omega
  · exact S.2.2.2.2.1
theorem own_takes {xs ys : List Int32} {i : Nat} {c d : Int32} (h : (xs.take i).map lowI = (ys.take i).map lowI) (hc : xs[i]? = some c) (hd : ys[i]? = some d) (q : lowI c = lowI d) : (xs.take (i + 1)).map lowI = (ys.take (i + 1)).map lowI := by
  rw [List.take_add_one, List.take_add_one, hc, hd, List.map_append, List.map_append, h]; simp [q]
theorem own_diff {xs ys : List Int32} {i : Nat} {c d : Int32} (hc : xs[i]? = some c) (hd : ys[i]? = some d) (q : ¬ lowI c = lowI d) : ¬ xs.map lowI = ys.map lowI := fun e => by
  have a := congrArg (fun l => l[i]?) e
  simp only [List.getElem?_map, hc, hd, Option.map_some, Option.some.injEq] at a
  exact q a
set_option maxRecDepth 65536 in
set_option maxHeartbeats 40000000 in
theorem c_lower (l : Launch) (Z : State) (a0 : Array Value) (hw : ∀ d ∈ tables_1, d.before a0 Z = true) (hE : EW Z a0 consts_1) (xc : Int32) (h0 : Heap) (O : Ext Z.heap h0) (hxc : 0 ≤ xc.toInt ∧ xc.toInt < 65536) :
    Con l Z consts_1 (⟨"com/example/updatable_views/updatableviews/SqlNames", "lower", "(C)C"⟩ : MethodName) prog_8_method_5_code 1 (Option.some Jvm.ClassFile.FieldType.char) ({ frames := 0, cells := 0, slots := 0, locals := 0 } : Room) #[(.int xc)] h0 [] (pureQ (some (.int (lowI xc))) h0) := by
  refine Con.of (a0 := a0) #[.val (.int xc)] (plainFor_of_name pn_4) hE O all0 (fun m => by first | (simp [entryFrame, mkF, argsToLocals, Value.category]; done) | rfl) ?_
  intro p e s m below meth c T0 hx hby hml hnm hret hlk hh W0
  refine g_iloadN (pc' := 1) W0.here hx (hb hby d_prog_8_5_0) rfl rfl ?_
  refine g_bipush (65 : Int32) (pc' := 3) W0.here hx (hb hby d_prog_8_5_1) rfl rfl ?_
  by_cases hc3_110 : xc < (65 : Int32)
  · refine g_icmpY (pc' := 23) W0.here hx (hb hby d_prog_8_5_3) rfl (tlt hc3_110).1 ?_
    refine g_iloadN (pc' := 24) W0.here hx (hb hby d_prog_8_5_23) rfl rfl ?_
    refine w_retN (t := .char) W0 hx hh hlk hret (by simp) (hb hby d_prog_8_5_24) (Nat.le_of_ble_eq_true rfl) (Nat.le_of_ble_eq_true rfl) ?_
    refine ⟨congrArg (fun z => some (Value.int z)) ?_, rfl⟩
    simp only [Int32.lt_iff_toInt_lt, own_t0, own_t1, own_t2, own_t3, own_t32, own_t65, own_t90, own_t97] at hc3_110
    have A := own_low xc hxc
    rw [own_nchar hxc]
    apply Int32.toInt_inj.mp; omega
  · refine g_icmpN (pc' := 6) W0.here hx (hb hby d_prog_8_5_3) rfl (flt hc3_110).1 ?_
    refine g_iloadN (pc' := 7) W0.here hx (hb hby d_prog_8_5_6) rfl rfl ?_
    refine g_bipush (90 : Int32) (pc' := 9) W0.here hx (hb hby d_prog_8_5_7) rfl rfl ?_
    by_cases hc9_111 : (90 : Int32) < xc
    · refine g_icmpY (pc' := 23) W0.here hx (hb hby d_prog_8_5_9) rfl (tlt hc9_111).2.2.1 ?_
      refine g_iloadN (pc' := 24) W0.here hx (hb hby d_prog_8_5_23) rfl rfl ?_
      refine w_retN (t := .char) W0 hx hh hlk hret (by simp) (hb hby d_prog_8_5_24) (Nat.le_of_ble_eq_true rfl) (Nat.le_of_ble_eq_true rfl) ?_
      refine ⟨congrArg (fun z => some (Value.int z)) ?_, rfl⟩
      simp only [Int32.lt_iff_toInt_lt, own_t0, own_t1, own_t2, own_t3, own_t32, own_t65, own_t90, own_t97] at hc3_110 hc9_111
      have A := own_low xc hxc
      rw [own_nchar hxc]
      apply Int32.toInt_inj.mp; omega
    · refine g_icmpN (pc' := 12) W0.here hx (hb hby d_prog_8_5_9) rfl (flt hc9_111).2.2.1 ?_
      refine g_iloadN (pc' := 13) W0.here hx (hb hby d_prog_8_5_12) rfl rfl ?_
      refine g_bipush (65 : Int32) (pc' := 15) W0.here hx (hb hby d_prog_8_5_13) rfl rfl ?_
      refine g_isub (pc' := 16) W0.here hx (hb hby d_prog_8_5_15) rfl ?_
      refine g_bipush (97 : Int32) (pc' := 18) W0.here hx (hb hby d_prog_8_5_16) rfl rfl ?_
      refine g_iadd (pc' := 19) W0.here hx (hb hby d_prog_8_5_18) rfl ?_
      refine g_i2c (pc' := 20) W0.here hx (hb hby d_prog_8_5_19) rfl ?_
      refine g_goto (pc' := 24) W0.here hx (hb hby d_prog_8_5_20) rfl ?_
      refine w_retN (t := .char) W0 hx hh hlk hret (by simp) (hb hby d_prog_8_5_24) (Nat.le_of_ble_eq_true rfl) (Nat.le_of_ble_eq_true rfl) ?_
      refine ⟨congrArg (fun z => some (Value.int z)) ?_, rfl⟩
      simp only [Int32.lt_iff_toInt_lt, own_t0, own_t1, own_t2, own_t3, own_t32, own_t65, own_t90, own_t97] at hc3_110 hc9_111
      have A := own_low xc hxc
      have q1 := c_isub xc 65
      have r1 := rng32 (xc - 65)
      have q2 := c_iadd (xc - 65) 97
      have r2 := rng32 (xc - 65 + 97)
      have e1 := own_t65
      have e2 := own_t97
      rw [own_nari (by omega)]
      apply Int32.toInt_inj.mp; omega
set_option maxRecDepth 65536 in
set_option maxHeartbeats 40000000 in
theorem c_eq (l : Launch) (Z : State) (a0 : Array Value) (hw : ∀ d ∈ tables_1, d.before a0 Z = true) (hE : EW Z a0 consts_1) (xa xb : Int32) (h0 : Heap) (O : Ext Z.heap h0) (hxa : 0 ≤ xa.toInt ∧ xa.toInt < 65536) (hxb : 0 ≤ xb.toInt ∧ xb.toInt < 65536) :
    Con l Z consts_1 (⟨"com/example/updatable_views/updatableviews/SqlNamesSamePinLaw", "eq", "(CC)Z"⟩ : MethodName) method_5_code 2 (Option.some Jvm.ClassFile.FieldType.boolean) ({ frames := 0, cells := 0, slots := 0, locals := 0 } : Room) #[(.int xa), (.int xb)] h0 [] (pureQ (some (.int (eqI xa xb))) h0) := by
  refine Con.of (a0 := a0) #[.val (.int xa), .val (.int xb)] (plainFor_of_name pn_5) hE O all0 (fun m => by first | (simp [entryFrame, mkF, argsToLocals, Value.category]; done) | rfl) ?_
  intro p e s m below meth c T0 hx hby hml hnm hret hlk hh W0
  refine g_iloadN (pc' := 1) W0.here hx (hb hby d_method_5_0) rfl rfl ?_
  refine g_iloadN (pc' := 2) W0.here hx (hb hby d_method_5_1) rfl rfl ?_
  by_cases hc2_112 : xa = xb
  · refine g_icmpN (pc' := 5) W0.here hx (hb hby d_method_5_2) rfl (teq hc2_112).2 ?_
    refine g_iconst (1 : Int32) (pc' := 6) W0.here hx (hb hby d_method_5_5) rfl rfl ?_
    refine w_retN (t := .boolean) W0 hx hh hlk hret (by simp) (hb hby d_method_5_6) (Nat.le_of_ble_eq_true rfl) (Nat.le_of_ble_eq_true rfl) ?_
    refine ⟨congrArg (fun z => some (Value.int z)) ?_, rfl⟩
    simp only [Int32.lt_iff_toInt_lt, ← Int32.toInt_inj, own_t0, own_t1, own_t2, own_t3, own_t32, own_t65, own_t90, own_t97] at hc2_112
    have A := own_low xa hxa
    have B := own_low xb hxb
    have q1 := c_iadd xa 32
    have r1 := rng32 (xa + 32)
    have q2 := c_iadd xb 32
    have r2 := rng32 (xb + 32)
    have e1 := own_t32
    show _ = eqI xa xb
    unfold eqI
    rw [if_pos (by rw [← Int32.toInt_inj]; omega)]; rfl
  · refine g_icmpY (pc' := 7) W0.here hx (hb hby d_method_5_2) rfl (feq hc2_112).2 ?_
    refine g_iloadN (pc' := 8) W0.here hx (hb hby d_method_5_7) rfl rfl ?_
    refine g_bipush (65 : Int32) (pc' := 10) W0.here hx (hb hby d_method_5_8) rfl rfl ?_
    by_cases hc10_113 : xa < (65 : Int32)
    · refine g_icmpY (pc' := 29) W0.here hx (hb hby d_method_5_10) rfl (tlt hc10_113).1 ?_
      refine g_iloadN (pc' := 30) W0.here hx (hb hby d_method_5_29) rfl rfl ?_
      refine g_bipush (65 : Int32) (pc' := 32) W0.here hx (hb hby d_method_5_30) rfl rfl ?_
      by_cases hc32_114 : xb < (65 : Int32)
      · refine g_icmpY (pc' := 51) W0.here hx (hb hby d_method_5_32) rfl (tlt hc32_114).1 ?_
        refine g_iconst (0 : Int32) (pc' := 52) W0.here hx (hb hby d_method_5_51) rfl rfl ?_
        refine w_retN (t := .boolean) W0 hx hh hlk hret (by simp) (hb hby d_method_5_52) (Nat.le_of_ble_eq_true rfl) (Nat.le_of_ble_eq_true rfl) ?_
        refine ⟨congrArg (fun z => some (Value.int z)) ?_, rfl⟩
        simp only [Int32.lt_iff_toInt_lt, ← Int32.toInt_inj, own_t0, own_t1, own_t2, own_t3, own_t32, own_t65, own_t90, own_t97] at hc2_112 hc10_113 hc32_114
        have A := own_low xa hxa
        have B := own_low xb hxb
        have q1 := c_iadd xa 32
        have r1 := rng32 (xa + 32)
        have q2 := c_iadd xb 32
        have r2 := rng32 (xb + 32)
        have e1 := own_t32
        show _ = eqI xa xb
        unfold eqI
        rw [if_neg (by rw [← Int32.toInt_inj]; omega)]; rfl
      · refine g_icmpN (pc' := 35) W0.here hx (hb hby d_method_5_32) rfl (flt hc32_114).1 ?_
        refine g_iloadN (pc' := 36) W0.here hx (hb hby d_method_5_35) rfl rfl ?_
        refine g_bipush (90 : Int32) (pc' := 38) W0.here hx (hb hby d_method_5_36) rfl rfl ?_
        by_cases hc38_115 : (90 : Int32) < xb
        · refine g_icmpY (pc' := 51) W0.here hx (hb hby d_method_5_38) rfl (tlt hc38_115).2.2.1 ?_
          refine g_iconst (0 : Int32) (pc' := 52) W0.here hx (hb hby d_method_5_51) rfl rfl ?_
          refine w_retN (t := .boolean) W0 hx hh hlk hret (by simp) (hb hby d_method_5_52) (Nat.le_of_ble_eq_true rfl) (Nat.le_of_ble_eq_true rfl) ?_
          refine ⟨congrArg (fun z => some (Value.int z)) ?_, rfl⟩
          simp only [Int32.lt_iff_toInt_lt, ← Int32.toInt_inj, own_t0, own_t1, own_t2, own_t3, own_t32, own_t65, own_t90, own_t97] at hc2_112 hc10_113 hc32_114 hc38_115
          have A := own_low xa hxa
          have B := own_low xb hxb
          have q1 := c_iadd xa 32
          have r1 := rng32 (xa + 32)
          have q2 := c_iadd xb 32
          have r2 := rng32 (xb + 32)
          have e1 := own_t32
          show _ = eqI xa xb
          unfold eqI
          rw [if_neg (by rw [← Int32.toInt_inj]; omega)]; rfl
        · refine g_icmpN (pc' := 41) W0.here hx (hb hby d_method_5_38) rfl (flt hc38_115).2.2.1 ?_
          refine g_iloadN (pc' := 42) W0.here hx (hb hby d_method_5_41) rfl rfl ?_
          refine g_iloadN (pc' := 43) W0.here hx (hb hby d_method_5_42) rfl rfl ?_
          refine g_bipush (32 : Int32) (pc' := 45) W0.here hx (hb hby d_method_5_43) rfl rfl ?_
          refine g_iadd (pc' := 46) W0.here hx (hb hby d_method_5_45) rfl ?_
          by_cases hc46_116 : xa = (xb + (32 : Int32))
          · refine g_icmpN (pc' := 49) W0.here hx (hb hby d_method_5_46) rfl (teq hc46_116).2 ?_
            refine g_iconst (1 : Int32) (pc' := 50) W0.here hx (hb hby d_method_5_49) rfl rfl ?_
            refine w_retN (t := .boolean) W0 hx hh hlk hret (by simp) (hb hby d_method_5_50) (Nat.le_of_ble_eq_true rfl) (Nat.le_of_ble_eq_true rfl) ?_
            refine ⟨congrArg (fun z => some (Value.int z)) ?_, rfl⟩
            simp only [Int32.lt_iff_toInt_lt, ← Int32.toInt_inj, own_t0, own_t1, own_t2, own_t3, own_t32, own_t65, own_t90, own_t97] at hc2_112 hc10_113 hc32_114 hc38_115 hc46_116
            have A := own_low xa hxa
            have B := own_low xb hxb
            have q1 := c_iadd xa 32
            have r1 := rng32 (xa + 32)
            have q2 := c_iadd xb 32
            have r2 := rng32 (xb + 32)
            have e1 := own_t32
            show _ = eqI xa xb
            unfold eqI
            rw [if_pos (by rw [← Int32.toInt_inj]; omega)]; rfl
          · refine g_icmpY (pc' := 51) W0.here hx (hb hby d_method_5_46) rfl (feq hc46_116).2 ?_
            refine g_iconst (0 : Int32) (pc' := 52) W0.here hx (hb hby d_method_5_51) rfl rfl ?_
            refine w_retN (t := .boolean) W0 hx hh hlk hret (by simp) (hb hby d_method_5_52) (Nat.le_of_ble_eq_true rfl) (Nat.le_of_ble_eq_true rfl) ?_
            refine ⟨congrArg (fun z => some (Value.int z)) ?_, rfl⟩
            simp only [Int32.lt_iff_toInt_lt, ← Int32.toInt_inj, own_t0, own_t1, own_t2, own_t3, own_t32, own_t65, own_t90, own_t97] at hc2_112 hc10_113 hc32_114 hc38_115 hc46_116
            have A := own_low xa hxa
            have B := own_low xb hxb
            have q1 := c_iadd xa 32
            have r1 := rng32 (xa + 32)
            have q2 := c_iadd xb 32
            have r2 := rng32 (xb + 32)
            have e1 := own_t32
            show _ = eqI xa xb
            unfold eqI
            rw [if_neg (by rw [← Int32.toInt_inj]; omega)]; rfl
    · refine g_icmpN (pc' := 13) W0.here hx (hb hby d_method_5_10) rfl (flt hc10_113).1 ?_
      refine g_iloadN (pc' := 14) W0.here hx (hb hby d_method_5_13) rfl rfl ?_
      refine g_bipush (90 : Int32) (pc' := 16) W0.here hx (hb hby d_method_5_14) rfl rfl ?_
      by_cases hc16_117 : (90 : Int32) < xa
      · refine g_icmpY (pc' := 29) W0.here hx (hb hby d_method_5_16) rfl (tlt hc16_117).2.2.1 ?_
        refine g_iloadN (pc' := 30) W0.here hx (hb hby d_method_5_29) rfl rfl ?_
        refine g_bipush (65 : Int32) (pc' := 32) W0.here hx (hb hby d_method_5_30) rfl rfl ?_
        by_cases hc32_118 : xb < (65 : Int32)
        · refine g_icmpY (pc' := 51) W0.here hx (hb hby d_method_5_32) rfl (tlt hc32_118).1 ?_
          refine g_iconst (0 : Int32) (pc' := 52) W0.here hx (hb hby d_method_5_51) rfl rfl ?_
          refine w_retN (t := .boolean) W0 hx hh hlk hret (by simp) (hb hby d_method_5_52) (Nat.le_of_ble_eq_true rfl) (Nat.le_of_ble_eq_true rfl) ?_
          refine ⟨congrArg (fun z => some (Value.int z)) ?_, rfl⟩
          simp only [Int32.lt_iff_toInt_lt, ← Int32.toInt_inj, own_t0, own_t1, own_t2, own_t3, own_t32, own_t65, own_t90, own_t97] at hc2_112 hc10_113 hc16_117 hc32_118
          have A := own_low xa hxa
          have B := own_low xb hxb
          have q1 := c_iadd xa 32
          have r1 := rng32 (xa + 32)
          have q2 := c_iadd xb 32
          have r2 := rng32 (xb + 32)
          have e1 := own_t32
          show _ = eqI xa xb
          unfold eqI
          rw [if_neg (by rw [← Int32.toInt_inj]; omega)]; rfl
        · refine g_icmpN (pc' := 35) W0.here hx (hb hby d_method_5_32) rfl (flt hc32_118).1 ?_
          refine g_iloadN (pc' := 36) W0.here hx (hb hby d_method_5_35) rfl rfl ?_
          refine g_bipush (90 : Int32) (pc' := 38) W0.here hx (hb hby d_method_5_36) rfl rfl ?_
          by_cases hc38_119 : (90 : Int32) < xb
          · refine g_icmpY (pc' := 51) W0.here hx (hb hby d_method_5_38) rfl (tlt hc38_119).2.2.1 ?_
            refine g_iconst (0 : Int32) (pc' := 52) W0.here hx (hb hby d_method_5_51) rfl rfl ?_
            refine w_retN (t := .boolean) W0 hx hh hlk hret (by simp) (hb hby d_method_5_52) (Nat.le_of_ble_eq_true rfl) (Nat.le_of_ble_eq_true rfl) ?_
            refine ⟨congrArg (fun z => some (Value.int z)) ?_, rfl⟩
            simp only [Int32.lt_iff_toInt_lt, ← Int32.toInt_inj, own_t0, own_t1, own_t2, own_t3, own_t32, own_t65, own_t90, own_t97] at hc2_112 hc10_113 hc16_117 hc32_118 hc38_119
            have A := own_low xa hxa
            have B := own_low xb hxb
            have q1 := c_iadd xa 32
            have r1 := rng32 (xa + 32)
            have q2 := c_iadd xb 32
            have r2 := rng32 (xb + 32)
            have e1 := own_t32
            show _ = eqI xa xb
            unfold eqI
            rw [if_neg (by rw [← Int32.toInt_inj]; omega)]; rfl
          · refine g_icmpN (pc' := 41) W0.here hx (hb hby d_method_5_38) rfl (flt hc38_119).2.2.1 ?_
            refine g_iloadN (pc' := 42) W0.here hx (hb hby d_method_5_41) rfl rfl ?_
            refine g_iloadN (pc' := 43) W0.here hx (hb hby d_method_5_42) rfl rfl ?_
            refine g_bipush (32 : Int32) (pc' := 45) W0.here hx (hb hby d_method_5_43) rfl rfl ?_
            refine g_iadd (pc' := 46) W0.here hx (hb hby d_method_5_45) rfl ?_
            by_cases hc46_120 : xa = (xb + (32 : Int32))
            · refine g_icmpN (pc' := 49) W0.here hx (hb hby d_method_5_46) rfl (teq hc46_120).2 ?_
              refine g_iconst (1 : Int32) (pc' := 50) W0.here hx (hb hby d_method_5_49) rfl rfl ?_
              refine w_retN (t := .boolean) W0 hx hh hlk hret (by simp) (hb hby d_method_5_50) (Nat.le_of_ble_eq_true rfl) (Nat.le_of_ble_eq_true rfl) ?_
              refine ⟨congrArg (fun z => some (Value.int z)) ?_, rfl⟩
              simp only [Int32.lt_iff_toInt_lt, ← Int32.toInt_inj, own_t0, own_t1, own_t2, own_t3, own_t32, own_t65, own_t90, own_t97] at hc2_112 hc10_113 hc16_117 hc32_118 hc38_119 hc46_120
              have A := own_low xa hxa
              have B := own_low xb hxb
              have q1 := c_iadd xa 32
              have r1 := rng32 (xa + 32)
              have q2 := c_iadd xb 32
              have r2 := rng32 (xb + 32)
              have e1 := own_t32
              show _ = eqI xa xb
              unfold eqI
              rw [if_pos (by rw [← Int32.toInt_inj]; omega)]; rfl
            · refine g_icmpY (pc' := 51) W0.here hx (hb hby d_method_5_46) rfl (feq hc46_120).2 ?_
              refine g_iconst (0 : Int32) (pc' := 52) W0.here hx (hb hby d_method_5_51) rfl rfl ?_
              refine w_retN (t := .boolean) W0 hx hh hlk hret (by simp) (hb hby d_method_5_52) (Nat.le_of_ble_eq_true rfl) (Nat.le_of_ble_eq_true rfl) ?_
              refine ⟨congrArg (fun z => some (Value.int z)) ?_, rfl⟩
              simp only [Int32.lt_iff_toInt_lt, ← Int32.toInt_inj, own_t0, own_t1, own_t2, own_t3, own_t32, own_t65, own_t90, own_t97] at hc2_112 hc10_113 hc16_117 hc32_118 hc38_119 hc46_120
              have A := own_low xa hxa
              have B := own_low xb hxb
              have q1 := c_iadd xa 32
              have r1 := rng32 (xa + 32)
              have q2 := c_iadd xb 32
              have r2 := rng32 (xb + 32)
              have e1 := own_t32
              show _ = eqI xa xb
              unfold eqI
              rw [if_neg (by rw [← Int32.toInt_inj]; omega)]; rfl
      · refine g_icmpN (pc' := 19) W0.here hx (hb hby d_method_5_16) rfl (flt hc16_117).2.2.1 ?_
        refine g_iloadN (pc' := 20) W0.here hx (hb hby d_method_5_19) rfl rfl ?_
        refine g_iloadN (pc' := 21) W0.here hx (hb hby d_method_5_20) rfl rfl ?_
        refine g_bipush (32 : Int32) (pc' := 23) W0.here hx (hb hby d_method_5_21) rfl rfl ?_
        refine g_iadd (pc' := 24) W0.here hx (hb hby d_method_5_23) rfl ?_
        by_cases hc24_121 : xb = (xa + (32 : Int32))
        · refine g_icmpN (pc' := 27) W0.here hx (hb hby d_method_5_24) rfl (teq hc24_121).2 ?_
          refine g_iconst (1 : Int32) (pc' := 28) W0.here hx (hb hby d_method_5_27) rfl rfl ?_
          refine w_retN (t := .boolean) W0 hx hh hlk hret (by simp) (hb hby d_method_5_28) (Nat.le_of_ble_eq_true rfl) (Nat.le_of_ble_eq_true rfl) ?_
          refine ⟨congrArg (fun z => some (Value.int z)) ?_, rfl⟩
          simp only [Int32.lt_iff_toInt_lt, ← Int32.toInt_inj, own_t0, own_t1, own_t2, own_t3, own_t32, own_t65, own_t90, own_t97] at hc2_112 hc10_113 hc16_117 hc24_121
          have A := own_low xa hxa
          have B := own_low xb hxb
          have q1 := c_iadd xa 32
          have r1 := rng32 (xa + 32)
          have q2 := c_iadd xb 32
          have r2 := rng32 (xb + 32)
          have e1 := own_t32
          show _ = eqI xa xb
          unfold eqI
          rw [if_pos (by rw [← Int32.toInt_inj]; omega)]; rfl
        · refine g_icmpY (pc' := 29) W0.here hx (hb hby d_method_5_24) rfl (feq hc24_121).2 ?_
          refine g_iloadN (pc' := 30) W0.here hx (hb hby d_method_5_29) rfl rfl ?_
          refine g_bipush (65 : Int32) (pc' := 32) W0.here hx (hb hby d_method_5_30) rfl rfl ?_
          by_cases hc32_122 : xb < (65 : Int32)
          · refine g_icmpY (pc' := 51) W0.here hx (hb hby d_method_5_32) rfl (tlt hc32_122).1 ?_
            refine g_iconst (0 : Int32) (pc' := 52) W0.here hx (hb hby d_method_5_51) rfl rfl ?_
            refine w_retN (t := .boolean) W0 hx hh hlk hret (by simp) (hb hby d_method_5_52) (Nat.le_of_ble_eq_true rfl) (Nat.le_of_ble_eq_true rfl) ?_
            refine ⟨congrArg (fun z => some (Value.int z)) ?_, rfl⟩
            simp only [Int32.lt_iff_toInt_lt, ← Int32.toInt_inj, own_t0, own_t1, own_t2, own_t3, own_t32, own_t65, own_t90, own_t97] at hc2_112 hc10_113 hc16_117 hc24_121 hc32_122
            have A := own_low xa hxa
            have B := own_low xb hxb
            have q1 := c_iadd xa 32
            have r1 := rng32 (xa + 32)
            have q2 := c_iadd xb 32
            have r2 := rng32 (xb + 32)
            have e1 := own_t32
            show _ = eqI xa xb
            unfold eqI
            rw [if_neg (by rw [← Int32.toInt_inj]; omega)]; rfl
          · refine g_icmpN (pc' := 35) W0.here hx (hb hby d_method_5_32) rfl (flt hc32_122).1 ?_
            refine g_iloadN (pc' := 36) W0.here hx (hb hby d_method_5_35) rfl rfl ?_
            refine g_bipush (90 : Int32) (pc' := 38) W0.here hx (hb hby d_method_5_36) rfl rfl ?_
            by_cases hc38_123 : (90 : Int32) < xb
            · refine g_icmpY (pc' := 51) W0.here hx (hb hby d_method_5_38) rfl (tlt hc38_123).2.2.1 ?_
              refine g_iconst (0 : Int32) (pc' := 52) W0.here hx (hb hby d_method_5_51) rfl rfl ?_
              refine w_retN (t := .boolean) W0 hx hh hlk hret (by simp) (hb hby d_method_5_52) (Nat.le_of_ble_eq_true rfl) (Nat.le_of_ble_eq_true rfl) ?_
              refine ⟨congrArg (fun z => some (Value.int z)) ?_, rfl⟩
              simp only [Int32.lt_iff_toInt_lt, ← Int32.toInt_inj, own_t0, own_t1, own_t2, own_t3, own_t32, own_t65, own_t90, own_t97] at hc2_112 hc10_113 hc16_117 hc24_121 hc32_122 hc38_123
              have A := own_low xa hxa
              have B := own_low xb hxb
              have q1 := c_iadd xa 32
              have r1 := rng32 (xa + 32)
              have q2 := c_iadd xb 32
              have r2 := rng32 (xb + 32)
              have e1 := own_t32
              show _ = eqI xa xb
              unfold eqI
              rw [if_neg (by rw [← Int32.toInt_inj]; omega)]; rfl
            · refine g_icmpN (pc' := 41) W0.here hx (hb hby d_method_5_38) rfl (flt hc38_123).2.2.1 ?_
              refine g_iloadN (pc' := 42) W0.here hx (hb hby d_method_5_41) rfl rfl ?_
              refine g_iloadN (pc' := 43) W0.here hx (hb hby d_method_5_42) rfl rfl ?_
              refine g_bipush (32 : Int32) (pc' := 45) W0.here hx (hb hby d_method_5_43) rfl rfl ?_
              refine g_iadd (pc' := 46) W0.here hx (hb hby d_method_5_45) rfl ?_
              by_cases hc46_124 : xa = (xb + (32 : Int32))
              · refine g_icmpN (pc' := 49) W0.here hx (hb hby d_method_5_46) rfl (teq hc46_124).2 ?_
                refine g_iconst (1 : Int32) (pc' := 50) W0.here hx (hb hby d_method_5_49) rfl rfl ?_
                refine w_retN (t := .boolean) W0 hx hh hlk hret (by simp) (hb hby d_method_5_50) (Nat.le_of_ble_eq_true rfl) (Nat.le_of_ble_eq_true rfl) ?_
                refine ⟨congrArg (fun z => some (Value.int z)) ?_, rfl⟩
                simp only [Int32.lt_iff_toInt_lt, ← Int32.toInt_inj, own_t0, own_t1, own_t2, own_t3, own_t32, own_t65, own_t90, own_t97] at hc2_112 hc10_113 hc16_117 hc24_121 hc32_122 hc38_123 hc46_124
                have A := own_low xa hxa
                have B := own_low xb hxb
                have q1 := c_iadd xa 32
                have r1 := rng32 (xa + 32)
                have q2 := c_iadd xb 32
                have r2 := rng32 (xb + 32)
                have e1 := own_t32
                show _ = eqI xa xb
                unfold eqI
                rw [if_pos (by rw [← Int32.toInt_inj]; omega)]; rfl
              · refine g_icmpY (pc' := 51) W0.here hx (hb hby d_method_5_46) rfl (feq hc46_124).2 ?_
                refine g_iconst (0 : Int32) (pc' := 52) W0.here hx (hb hby d_method_5_51) rfl rfl ?_
                refine w_retN (t := .boolean) W0 hx hh hlk hret (by simp) (hb hby d_method_5_52) (Nat.le_of_ble_eq_true rfl) (Nat.le_of_ble_eq_true rfl) ?_
                refine ⟨congrArg (fun z => some (Value.int z)) ?_, rfl⟩
                simp only [Int32.lt_iff_toInt_lt, ← Int32.toInt_inj, own_t0, own_t1, own_t2, own_t3, own_t32, own_t65, own_t90, own_t97] at hc2_112 hc10_113 hc16_117 hc24_121 hc32_122 hc38_123 hc46_124
                have A := own_low xa hxa
                have B := own_low xb hxb
                have q1 := c_iadd xa 32
                have r1 := rng32 (xa + 32)
                have q2 := c_iadd xb 32
                have r2 := rng32 (xb + 32)
                have e1 := own_t32
                show _ = eqI xa xb
                unfold eqI
                rw [if_neg (by rw [← Int32.toInt_inj]; omega)]; rfl
set_option maxRecDepth 65536 in
set_option maxHeartbeats 40000000 in
theorem c_pick (l : Launch) (Z : State) (a0 : Array Value) (hw : ∀ d ∈ tables_1, d.before a0 Z = true) (hE : EW Z a0 consts_1) (xm xa xf : Int32) (h0 : Heap) (O : Ext Z.heap h0)  :
    Con l Z consts_1 (⟨"com/example/updatable_views/updatableviews/SqlNamesSamePinLaw", "pick", "(ICC)C"⟩ : MethodName) method_3_code 3 (Option.some Jvm.ClassFile.FieldType.char) ({ frames := 0, cells := 0, slots := 0, locals := 0 } : Room) #[(.int xm), (.int xa), (.int xf)] h0 [] (fun v _ => ∃ c : Int32, v = some (.int c) ∧ 0 ≤ c.toInt ∧ c.toInt < 65536) := by
  refine Con.of (a0 := a0) #[.val (.int xm), .val (.int xa), .val (.int xf)] (plainFor_of_name pn_5) hE O all0 (fun m => by first | (simp [entryFrame, mkF, argsToLocals, Value.category]; done) | rfl) ?_
  intro p e s m below meth c T0 hx hby hml hnm hret hlk hh W0
  refine g_iloadN (pc' := 1) W0.here hx (hb hby d_method_3_0) rfl rfl ?_
  by_cases hc1_125 : xm = (0 : Int32)
  · refine g_ifN (pc' := 4) W0.here hx (hb hby d_method_3_1) rfl (teq hc1_125).2 ?_
    refine g_iloadN (pc' := 5) W0.here hx (hb hby d_method_3_4) rfl rfl ?_
    refine w_retN (t := .char) W0 hx hh hlk hret (by simp) (hb hby d_method_3_5) (Nat.le_of_ble_eq_true rfl) (Nat.le_of_ble_eq_true rfl) ?_
    exact ⟨_, rfl, own_narc _⟩
  · refine g_ifY (pc' := 6) W0.here hx (hb hby d_method_3_1) rfl (feq hc1_125).2 ?_
    refine g_iloadN (pc' := 7) W0.here hx (hb hby d_method_3_6) rfl rfl ?_
    refine g_iconst (1 : Int32) (pc' := 8) W0.here hx (hb hby d_method_3_7) rfl rfl ?_
    by_cases hc8_126 : xm = (1 : Int32)
    · refine g_icmpN (pc' := 11) W0.here hx (hb hby d_method_3_8) rfl (teq hc8_126).2 ?_
      refine g_iloadN (pc' := 12) W0.here hx (hb hby d_method_3_11) rfl rfl ?_
      refine g_bipush (32 : Int32) (pc' := 14) W0.here hx (hb hby d_method_3_12) rfl rfl ?_
      refine g_ixor (pc' := 15) W0.here hx (hb hby d_method_3_14) rfl ?_
      refine g_i2c (pc' := 16) W0.here hx (hb hby d_method_3_15) rfl ?_
      refine w_retN (t := .char) W0 hx hh hlk hret (by simp) (hb hby d_method_3_16) (Nat.le_of_ble_eq_true rfl) (Nat.le_of_ble_eq_true rfl) ?_
      exact ⟨_, rfl, own_narc _⟩
    · refine g_icmpY (pc' := 17) W0.here hx (hb hby d_method_3_8) rfl (feq hc8_126).2 ?_
      refine g_iloadN (pc' := 18) W0.here hx (hb hby d_method_3_17) rfl rfl ?_
      refine w_retN (t := .char) W0 hx hh hlk hret (by simp) (hb hby d_method_3_18) (Nat.le_of_ble_eq_true rfl) (Nat.le_of_ble_eq_true rfl) ?_
      exact ⟨_, rfl, own_narc _⟩
set_option maxRecDepth 65536 in
set_option maxHeartbeats 40000000 in
theorem c_mk (l : Launch) (Z : State) (a0 : Array Value) (hw : ∀ d ∈ tables_1, d.before a0 Z = true) (hE : EW Z a0 consts_1) (cc : Int32) (fm : Value) (xn c0 c1 c2 : Int32) (h0 : Heap) (O : Ext Z.heap h0) (G : SEnv Z cc fm) (GU : SEnvU Z) (r_c0 : 0 ≤ c0.toInt ∧ c0.toInt < 65536) (r_c1 : 0 ≤ c1.toInt ∧ c1.toInt < 65536) (r_c2 : 0 ≤ c2.toInt ∧ c2.toInt < 65536)  :
    Con l Z consts_1 (⟨"com/example/updatable_views/updatableviews/SqlNamesSamePinLaw", "mk", "(ICCC)Ljava/lang/String;"⟩ : MethodName) method_4_code 4 (Option.some (Jvm.ClassFile.FieldType.object "java/lang/String")) ({ frames := 6, cells := 6, slots := 16, locals := 88 } : Room) #[(.int xn), (.int c0), (.int c1), (.int c2)] h0 [] (fun v h => ∃ a b : Nat, v = some (.ref a) ∧ SG Z h a b (mkL xn c0 c1 c2)) := by
  refine Con.of (a0 := a0) #[.val (.int xn), .val (.int c0), .val (.int c1), .val (.int c2)] (plainFor_of_name pn_5) hE O all0 (fun m => by first | (simp [entryFrame, mkF, argsToLocals, Value.category]; done) | rfl) ?_
  intro p e s m below meth c T0 hx hby hml hnm hret hlk hh W0
  refine g_iloadN (pc' := 1) W0.here hx (hb hby d_method_4_0) rfl rfl ?_
  by_cases hc1_127 : xn = (0 : Int32)
  · refine g_ifN (pc' := 4) W0.here hx (hb hby d_method_4_1) rfl (teq hc1_127).2 ?_
    refine w_new (pc' := 7) W0 hx (hw _ (List.mem_of_getElem? w_8)) (hw _ (List.mem_of_getElem? w_9)) (hw _ (List.mem_of_getElem? w_10)) (hb hby d_method_4_4) (Nat.le_of_ble_eq_true rfl) (Nat.le_of_ble_eq_true rfl) rfl fun T128 h128 b128 g128 W128 K128 A128 D128 => ?_
    have z_K128 : h0.size ≤ h128.size := K128.1
    have lt_b128 : b128 < h128.size := W128.lt (List.mem_cons_self ..)
    have F128_coder : Fld Z h128 b128 "java/lang/String" "coder" "B" (.int (0 : Int32)) := D128 (Or.inr (hw _ (List.mem_of_getElem? w_35))) (ty := .byte) (by decide)
    have F128_value : Fld Z h128 b128 "java/lang/String" "value" "[B" .null := D128 (Or.inr (hw _ (List.mem_of_getElem? w_37))) (ty := (.array .byte)) (by decide)
    refine g_dup (pc' := 8) W128.here hx (hb hby d_method_4_7) rfl rfl ?_
    refine g_iconst (0 : Int32) (pc' := 9) W128.here hx (hb hby d_method_4_8) rfl rfl ?_
    refine w_newarr (pc' := 11) (cap := 0) W128 hx (hw _ (List.mem_of_getElem? w_11)) (hb hby d_method_4_9) (by decide) (Nat.le_refl _) (Nat.le_of_ble_eq_true rfl) (Nat.le_of_ble_eq_true rfl) (Nat.le_of_ble_eq_true rfl) rfl rfl fun T129 h129 b129 g129 W129 K129 V129 => ?_
    have z_K129 : h128.size ≤ h129.size := K129.1
    have ne_b128_b129 : b128 ≠ b129 := by omega
    have lt_b129 : b129 < h129.size := W129.lt (List.mem_cons_self ..)
    have V129 : Ary Z h129 b129 .char [] := V129
    have c130 := (A128.keep K129)
    have c131 := (F128_coder.keep K129 nin0)
    have c132 := (F128_value.keep K129 nin0)
    refine w_special (pc' := 14) (st := [(.ref b128)]) (y := (⟨"java/lang/String", "<init>", "([C)V"⟩ : MethodName)) (a := b128) W129 hx [(.ref b129)] rfl (hw _ (List.mem_of_getElem? w_12)) (hw _ (List.mem_of_getElem? w_13)) (hw _ (List.mem_of_getElem? w_10)) (hw _ (List.mem_of_getElem? w_14)) (by decide) (c_strC l Z a0 hw hE cc fm b128 b129 [] h129 W129.old G GU (Nat.le_of_ble_eq_true rfl) own_all0 V129 (by have := O.1; omega) c130 _ _ c131 c132 ne_b128_b129) (allS (List.mem_of_getElem? (i := 1) rfl) all0) (by rw [hml]; rfl) (lenOf pd_14 rfl) rfl (hb hby d_method_4_11) (Nat.le_of_ble_eq_true rfl) (Nat.le_of_ble_eq_true rfl) (Nat.le_of_ble_eq_true rfl) (Nat.le_of_ble_eq_true rfl) rfl fun v133 T133 h133 W133 K133 Q133 => ?_
    have z_K133 : h129.size ≤ h133.size := K133.1
    obtain ⟨rfl, sb134, S134⟩ := Q133
    have ES134 := S134.exa
    have lt_sb134 : sb134 < h133.size := S134.ltb
    refine w_retA W133 hx hh hlk hret rfl rfl (hb hby d_method_4_14) (Nat.le_of_ble_eq_true rfl) (Nat.le_of_ble_eq_true rfl) ?_
    exact ⟨_, _, rfl, by unfold mkL; rw [if_pos hc1_127]; exact S134⟩
  · refine g_ifY (pc' := 15) W0.here hx (hb hby d_method_4_1) rfl (feq hc1_127).2 ?_
    refine g_iloadN (pc' := 16) W0.here hx (hb hby d_method_4_15) rfl rfl ?_
    refine g_iconst (1 : Int32) (pc' := 17) W0.here hx (hb hby d_method_4_16) rfl rfl ?_
    by_cases hc17_135 : xn = (1 : Int32)
    · refine g_icmpN (pc' := 20) W0.here hx (hb hby d_method_4_17) rfl (teq hc17_135).2 ?_
      refine w_new (pc' := 23) W0 hx (hw _ (List.mem_of_getElem? w_8)) (hw _ (List.mem_of_getElem? w_9)) (hw _ (List.mem_of_getElem? w_10)) (hb hby d_method_4_20) (Nat.le_of_ble_eq_true rfl) (Nat.le_of_ble_eq_true rfl) rfl fun T136 h136 b136 g136 W136 K136 A136 D136 => ?_
      have z_K136 : h0.size ≤ h136.size := K136.1
      have lt_b136 : b136 < h136.size := W136.lt (List.mem_cons_self ..)
      have F136_coder : Fld Z h136 b136 "java/lang/String" "coder" "B" (.int (0 : Int32)) := D136 (Or.inr (hw _ (List.mem_of_getElem? w_35))) (ty := .byte) (by decide)
      have F136_value : Fld Z h136 b136 "java/lang/String" "value" "[B" .null := D136 (Or.inr (hw _ (List.mem_of_getElem? w_37))) (ty := (.array .byte)) (by decide)
      refine g_dup (pc' := 24) W136.here hx (hb hby d_method_4_23) rfl rfl ?_
      refine g_iconst (1 : Int32) (pc' := 25) W136.here hx (hb hby d_method_4_24) rfl rfl ?_
      refine w_newarr (pc' := 27) (cap := 1) W136 hx (hw _ (List.mem_of_getElem? w_11)) (hb hby d_method_4_25) (by decide) (Nat.le_refl _) (Nat.le_of_ble_eq_true rfl) (Nat.le_of_ble_eq_true rfl) (Nat.le_of_ble_eq_true rfl) rfl rfl fun T137 h137 b137 g137 W137 K137 V137 => ?_
      have z_K137 : h136.size ≤ h137.size := K137.1
      have ne_b136_b137 : b136 ≠ b137 := by omega
      have lt_b137 : b137 < h137.size := W137.lt (List.mem_cons_self ..)
      have V137 : Ary Z h137 b137 .char [(.int (0 : Int32))] := V137
      refine g_dup (pc' := 28) W137.here hx (hb hby d_method_4_27) rfl rfl ?_
      refine g_iconst (0 : Int32) (pc' := 29) W137.here hx (hb hby d_method_4_28) rfl rfl ?_
      refine g_iloadN (pc' := 30) W137.here hx (hb hby d_method_4_29) rfl rfl ?_
      refine w_castore (pc' := 31) (x' := c0) W137 hx V137 (by decide) (Nat.lt_of_lt_of_le (Nat.lt_succ_self _) (Nat.le_of_ble_eq_true rfl)) (List.mem_of_getElem? (i := 0) rfl) (own_nchar r_c0) (hb hby d_method_4_30) rfl fun T138 h138 W138 K138 V138 => ?_
      have z_K138 : h137.size ≤ h138.size := K138.1
      have V138 : Ary Z h138 b137 .char [(.int c0)] := V138
      have c139 := ((A136.keep K137).keep K138)
      have c140 := ((F136_coder.keep K137 nin0).keep K138 (ninS ne_b136_b137 nin0))
      have c141 := ((F136_value.keep K137 nin0).keep K138 (ninS ne_b136_b137 nin0))
      refine w_special (pc' := 34) (st := [(.ref b136)]) (y := (⟨"java/lang/String", "<init>", "([C)V"⟩ : MethodName)) (a := b136) W138 hx [(.ref b137)] rfl (hw _ (List.mem_of_getElem? w_12)) (hw _ (List.mem_of_getElem? w_13)) (hw _ (List.mem_of_getElem? w_10)) (hw _ (List.mem_of_getElem? w_14)) (by decide) (c_strC l Z a0 hw hE cc fm b136 b137 [c0] h138 W138.old G GU (Nat.le_of_ble_eq_true rfl) (own_allS r_c0 own_all0) V138 (by have := O.1; omega) c139 _ _ c140 c141 ne_b136_b137) (allS (List.mem_of_getElem? (i := 1) rfl) all0) (by rw [hml]; rfl) (lenOf pd_14 rfl) rfl (hb hby d_method_4_31) (Nat.le_of_ble_eq_true rfl) (Nat.le_of_ble_eq_true rfl) (Nat.le_of_ble_eq_true rfl) (Nat.le_of_ble_eq_true rfl) rfl fun v142 T142 h142 W142 K142 Q142 => ?_
      have z_K142 : h138.size ≤ h142.size := K142.1
      obtain ⟨rfl, sb143, S143⟩ := Q142
      have ES143 := S143.exa
      have lt_sb143 : sb143 < h142.size := S143.ltb
      refine w_retA W142 hx hh hlk hret rfl rfl (hb hby d_method_4_34) (Nat.le_of_ble_eq_true rfl) (Nat.le_of_ble_eq_true rfl) ?_
      exact ⟨_, _, rfl, by unfold mkL; rw [if_neg hc1_127, if_pos hc17_135]; exact S143⟩
    · refine g_icmpY (pc' := 35) W0.here hx (hb hby d_method_4_17) rfl (feq hc17_135).2 ?_
      refine g_iloadN (pc' := 36) W0.here hx (hb hby d_method_4_35) rfl rfl ?_
      refine g_iconst (2 : Int32) (pc' := 37) W0.here hx (hb hby d_method_4_36) rfl rfl ?_
      by_cases hc37_144 : xn = (2 : Int32)
      · refine g_icmpN (pc' := 40) W0.here hx (hb hby d_method_4_37) rfl (teq hc37_144).2 ?_
        refine w_new (pc' := 43) W0 hx (hw _ (List.mem_of_getElem? w_8)) (hw _ (List.mem_of_getElem? w_9)) (hw _ (List.mem_of_getElem? w_10)) (hb hby d_method_4_40) (Nat.le_of_ble_eq_true rfl) (Nat.le_of_ble_eq_true rfl) rfl fun T145 h145 b145 g145 W145 K145 A145 D145 => ?_
        have z_K145 : h0.size ≤ h145.size := K145.1
        have lt_b145 : b145 < h145.size := W145.lt (List.mem_cons_self ..)
        have F145_coder : Fld Z h145 b145 "java/lang/String" "coder" "B" (.int (0 : Int32)) := D145 (Or.inr (hw _ (List.mem_of_getElem? w_35))) (ty := .byte) (by decide)
        have F145_value : Fld Z h145 b145 "java/lang/String" "value" "[B" .null := D145 (Or.inr (hw _ (List.mem_of_getElem? w_37))) (ty := (.array .byte)) (by decide)
        refine g_dup (pc' := 44) W145.here hx (hb hby d_method_4_43) rfl rfl ?_
        refine g_iconst (2 : Int32) (pc' := 45) W145.here hx (hb hby d_method_4_44) rfl rfl ?_
        refine w_newarr (pc' := 47) (cap := 2) W145 hx (hw _ (List.mem_of_getElem? w_11)) (hb hby d_method_4_45) (by decide) (Nat.le_refl _) (Nat.le_of_ble_eq_true rfl) (Nat.le_of_ble_eq_true rfl) (Nat.le_of_ble_eq_true rfl) rfl rfl fun T146 h146 b146 g146 W146 K146 V146 => ?_
        have z_K146 : h145.size ≤ h146.size := K146.1
        have ne_b145_b146 : b145 ≠ b146 := by omega
        have lt_b146 : b146 < h146.size := W146.lt (List.mem_cons_self ..)
        have V146 : Ary Z h146 b146 .char [(.int (0 : Int32)), (.int (0 : Int32))] := V146
        refine g_dup (pc' := 48) W146.here hx (hb hby d_method_4_47) rfl rfl ?_
        refine g_iconst (0 : Int32) (pc' := 49) W146.here hx (hb hby d_method_4_48) rfl rfl ?_
        refine g_iloadN (pc' := 50) W146.here hx (hb hby d_method_4_49) rfl rfl ?_
        refine w_castore (pc' := 51) (x' := c0) W146 hx V146 (by decide) (Nat.lt_of_lt_of_le (Nat.lt_succ_self _) (Nat.le_of_ble_eq_true rfl)) (List.mem_of_getElem? (i := 0) rfl) (own_nchar r_c0) (hb hby d_method_4_50) rfl fun T147 h147 W147 K147 V147 => ?_
        have z_K147 : h146.size ≤ h147.size := K147.1
        have V147 : Ary Z h147 b146 .char [(.int c0), (.int (0 : Int32))] := V147
        refine g_dup (pc' := 52) W147.here hx (hb hby d_method_4_51) rfl rfl ?_
        refine g_iconst (1 : Int32) (pc' := 53) W147.here hx (hb hby d_method_4_52) rfl rfl ?_
        refine g_iloadN (pc' := 54) W147.here hx (hb hby d_method_4_53) rfl rfl ?_
        refine w_castore (pc' := 55) (x' := c1) W147 hx V147 (by decide) (Nat.lt_of_lt_of_le (Nat.lt_succ_self _) (Nat.le_of_ble_eq_true rfl)) (List.mem_of_getElem? (i := 0) rfl) (own_nchar r_c1) (hb hby d_method_4_54) rfl fun T148 h148 W148 K148 V148 => ?_
        have z_K148 : h147.size ≤ h148.size := K148.1
        have V148 : Ary Z h148 b146 .char [(.int c0), (.int c1)] := V148
        have c149 := (((A145.keep K146).keep K147).keep K148)
        have c150 := (((F145_coder.keep K146 nin0).keep K147 (ninS ne_b145_b146 nin0)).keep K148 (ninS ne_b145_b146 nin0))
        have c151 := (((F145_value.keep K146 nin0).keep K147 (ninS ne_b145_b146 nin0)).keep K148 (ninS ne_b145_b146 nin0))
        refine w_special (pc' := 58) (st := [(.ref b145)]) (y := (⟨"java/lang/String", "<init>", "([C)V"⟩ : MethodName)) (a := b145) W148 hx [(.ref b146)] rfl (hw _ (List.mem_of_getElem? w_12)) (hw _ (List.mem_of_getElem? w_13)) (hw _ (List.mem_of_getElem? w_10)) (hw _ (List.mem_of_getElem? w_14)) (by decide) (c_strC l Z a0 hw hE cc fm b145 b146 [c0, c1] h148 W148.old G GU (Nat.le_of_ble_eq_true rfl) (own_allS r_c0 (own_allS r_c1 own_all0)) V148 (by have := O.1; omega) c149 _ _ c150 c151 ne_b145_b146) (allS (List.mem_of_getElem? (i := 1) rfl) all0) (by rw [hml]; rfl) (lenOf pd_14 rfl) rfl (hb hby d_method_4_55) (Nat.le_of_ble_eq_true rfl) (Nat.le_of_ble_eq_true rfl) (Nat.le_of_ble_eq_true rfl) (Nat.le_of_ble_eq_true rfl) rfl fun v152 T152 h152 W152 K152 Q152 => ?_
        have z_K152 : h148.size ≤ h152.size := K152.1
        obtain ⟨rfl, sb153, S153⟩ := Q152
        have ES153 := S153.exa
        have lt_sb153 : sb153 < h152.size := S153.ltb
        refine w_retA W152 hx hh hlk hret rfl rfl (hb hby d_method_4_58) (Nat.le_of_ble_eq_true rfl) (Nat.le_of_ble_eq_true rfl) ?_
        exact ⟨_, _, rfl, by unfold mkL; rw [if_neg hc1_127, if_neg hc17_135, if_pos hc37_144]; exact S153⟩
      · refine g_icmpY (pc' := 59) W0.here hx (hb hby d_method_4_37) rfl (feq hc37_144).2 ?_
        refine w_new (pc' := 62) W0 hx (hw _ (List.mem_of_getElem? w_8)) (hw _ (List.mem_of_getElem? w_9)) (hw _ (List.mem_of_getElem? w_10)) (hb hby d_method_4_59) (Nat.le_of_ble_eq_true rfl) (Nat.le_of_ble_eq_true rfl) rfl fun T154 h154 b154 g154 W154 K154 A154 D154 => ?_
        have z_K154 : h0.size ≤ h154.size := K154.1
        have lt_b154 : b154 < h154.size := W154.lt (List.mem_cons_self ..)
        have F154_coder : Fld Z h154 b154 "java/lang/String" "coder" "B" (.int (0 : Int32)) := D154 (Or.inr (hw _ (List.mem_of_getElem? w_35))) (ty := .byte) (by decide)
        have F154_value : Fld Z h154 b154 "java/lang/String" "value" "[B" .null := D154 (Or.inr (hw _ (List.mem_of_getElem? w_37))) (ty := (.array .byte)) (by decide)
        refine g_dup (pc' := 63) W154.here hx (hb hby d_method_4_62) rfl rfl ?_
        refine g_iconst (3 : Int32) (pc' := 64) W154.here hx (hb hby d_method_4_63) rfl rfl ?_
        refine w_newarr (pc' := 66) (cap := 3) W154 hx (hw _ (List.mem_of_getElem? w_11)) (hb hby d_method_4_64) (by decide) (Nat.le_refl _) (Nat.le_of_ble_eq_true rfl) (Nat.le_of_ble_eq_true rfl) (Nat.le_of_ble_eq_true rfl) rfl rfl fun T155 h155 b155 g155 W155 K155 V155 => ?_
        have z_K155 : h154.size ≤ h155.size := K155.1
        have ne_b154_b155 : b154 ≠ b155 := by omega
        have lt_b155 : b155 < h155.size := W155.lt (List.mem_cons_self ..)
        have V155 : Ary Z h155 b155 .char [(.int (0 : Int32)), (.int (0 : Int32)), (.int (0 : Int32))] := V155
        refine g_dup (pc' := 67) W155.here hx (hb hby d_method_4_66) rfl rfl ?_
        refine g_iconst (0 : Int32) (pc' := 68) W155.here hx (hb hby d_method_4_67) rfl rfl ?_
        refine g_iloadN (pc' := 69) W155.here hx (hb hby d_method_4_68) rfl rfl ?_
        refine w_castore (pc' := 70) (x' := c0) W155 hx V155 (by decide) (Nat.lt_of_lt_of_le (Nat.lt_succ_self _) (Nat.le_of_ble_eq_true rfl)) (List.mem_of_getElem? (i := 0) rfl) (own_nchar r_c0) (hb hby d_method_4_69) rfl fun T156 h156 W156 K156 V156 => ?_
        have z_K156 : h155.size ≤ h156.size := K156.1
        have V156 : Ary Z h156 b155 .char [(.int c0), (.int (0 : Int32)), (.int (0 : Int32))] := V156
        refine g_dup (pc' := 71) W156.here hx (hb hby d_method_4_70) rfl rfl ?_
        refine g_iconst (1 : Int32) (pc' := 72) W156.here hx (hb hby d_method_4_71) rfl rfl ?_
        refine g_iloadN (pc' := 73) W156.here hx (hb hby d_method_4_72) rfl rfl ?_
        refine w_castore (pc' := 74) (x' := c1) W156 hx V156 (by decide) (Nat.lt_of_lt_of_le (Nat.lt_succ_self _) (Nat.le_of_ble_eq_true rfl)) (List.mem_of_getElem? (i := 0) rfl) (own_nchar r_c1) (hb hby d_method_4_73) rfl fun T157 h157 W157 K157 V157 => ?_
        have z_K157 : h156.size ≤ h157.size := K157.1
        have V157 : Ary Z h157 b155 .char [(.int c0), (.int c1), (.int (0 : Int32))] := V157
        refine g_dup (pc' := 75) W157.here hx (hb hby d_method_4_74) rfl rfl ?_
        refine g_iconst (2 : Int32) (pc' := 76) W157.here hx (hb hby d_method_4_75) rfl rfl ?_
        refine g_iloadN (pc' := 77) W157.here hx (hb hby d_method_4_76) rfl rfl ?_
        refine w_castore (pc' := 78) (x' := c2) W157 hx V157 (by decide) (Nat.lt_of_lt_of_le (Nat.lt_succ_self _) (Nat.le_of_ble_eq_true rfl)) (List.mem_of_getElem? (i := 0) rfl) (own_nchar r_c2) (hb hby d_method_4_77) rfl fun T158 h158 W158 K158 V158 => ?_
        have z_K158 : h157.size ≤ h158.size := K158.1
        have V158 : Ary Z h158 b155 .char [(.int c0), (.int c1), (.int c2)] := V158
        have c159 := ((((A154.keep K155).keep K156).keep K157).keep K158)
        have c160 := ((((F154_coder.keep K155 nin0).keep K156 (ninS ne_b154_b155 nin0)).keep K157 (ninS ne_b154_b155 nin0)).keep K158 (ninS ne_b154_b155 nin0))
        have c161 := ((((F154_value.keep K155 nin0).keep K156 (ninS ne_b154_b155 nin0)).keep K157 (ninS ne_b154_b155 nin0)).keep K158 (ninS ne_b154_b155 nin0))
        refine w_special (pc' := 81) (st := [(.ref b154)]) (y := (⟨"java/lang/String", "<init>", "([C)V"⟩ : MethodName)) (a := b154) W158 hx [(.ref b155)] rfl (hw _ (List.mem_of_getElem? w_12)) (hw _ (List.mem_of_getElem? w_13)) (hw _ (List.mem_of_getElem? w_10)) (hw _ (List.mem_of_getElem? w_14)) (by decide) (c_strC l Z a0 hw hE cc fm b154 b155 [c0, c1, c2] h158 W158.old G GU (Nat.le_of_ble_eq_true rfl) (own_allS r_c0 (own_allS r_c1 (own_allS r_c2 own_all0))) V158 (by have := O.1; omega) c159 _ _ c160 c161 ne_b154_b155) (allS (List.mem_of_getElem? (i := 1) rfl) all0) (by rw [hml]; rfl) (lenOf pd_14 rfl) rfl (hb hby d_method_4_78) (Nat.le_of_ble_eq_true rfl) (Nat.le_of_ble_eq_true rfl) (Nat.le_of_ble_eq_true rfl) (Nat.le_of_ble_eq_true rfl) rfl fun v162 T162 h162 W162 K162 Q162 => ?_
        have z_K162 : h158.size ≤ h162.size := K162.1
        obtain ⟨rfl, sb163, S163⟩ := Q162
        have ES163 := S163.exa
        have lt_sb163 : sb163 < h162.size := S163.ltb
        refine w_retA W162 hx hh hlk hret rfl rfl (hb hby d_method_4_81) (Nat.le_of_ble_eq_true rfl) (Nat.le_of_ble_eq_true rfl) ?_
        exact ⟨_, _, rfl, by unfold mkL; rw [if_neg hc1_127, if_neg hc17_135, if_neg hc37_144]; exact S163⟩
set_option maxRecDepth 65536 in
set_option maxHeartbeats 40000000 in
theorem c_same (l : Launch) (Z : State) (a0 : Array Value) (hw : ∀ d ∈ tables_1, d.before a0 Z = true) (hE : EW Z a0 consts_1) (cc : Int32) (fm : Value) (a1 b1 a2 b2 : Nat) (xs ys : List Int32) (h0 : Heap) (O : Ext Z.heap h0) (G : SEnv Z cc fm) (GU : SEnvU Z) (S1 : SG Z h0 a1 b1 xs) (S2 : SG Z h0 a2 b2 ys) (hlx : xs.length ≤ 2 ^ 28) (hly : ys.length ≤ 2 ^ 28) :
    Con l Z consts_1 (⟨"com/example/updatable_views/updatableviews/SqlNames", "same", "(Ljava/lang/String;Ljava/lang/String;)Z"⟩ : MethodName) prog_8_method_3_code 3 (Option.some Jvm.ClassFile.FieldType.boolean) ({ frames := 5, cells := 0, slots := 0, locals := 67 } : Room) #[(.ref a1), (.ref a2)] h0 [] (pureQ (some (.int (sameI xs ys))) h0) := by
  refine Con.of (a0 := a0) #[.val (.ref a1), .val (.ref a2), .unset] (plainFor_of_name pn_4) hE O all0 (fun m => by first | (simp [entryFrame, mkF, argsToLocals, Value.category]; done) | rfl) ?_
  intro p e s m below meth c T0 hx hby hml hnm hret hlk hh W0
  have ES1 := S1.exa
  have lt_a1 : a1 < h0.size := S1.lt
  have lt_b1 : b1 < h0.size := S1.ltb
  have ES2 := S2.exa
  have lt_a2 : a2 < h0.size := S2.lt
  have lt_b2 : b2 < h0.size := S2.ltb
  have hlen : xs.length < 2 ^ 31 := by omega
  refine g_aloadN (pc' := 1) W0.here hx (hb hby d_prog_8_3_0) rfl rfl rfl ?_
  refine w_virtualp (pc' := 4) (st := []) (y := (⟨"java/lang/String", "length", "()I"⟩ : MethodName)) (z := (⟨"java/lang/String", "length", "()I"⟩ : MethodName)) (a := a1) W0 hx [] (hw _ (List.mem_of_getElem? w_45)) (hw _ (List.mem_of_getElem? w_46)) (nfS (z := (⟨"java/lang/String", "length", "()I"⟩ : MethodName)) (hw _ (List.mem_of_getElem? w_48))) (hw _ (List.mem_of_getElem? w_48)) (hw _ (List.mem_of_getElem? w_47)) (hw _ (List.mem_of_getElem? w_10)) (hw _ (List.mem_of_getElem? w_49)) (by decide) (c_length l Z a0 hw hE cc fm a1 b1 xs  h0 W0.old G GU S1 ) ES1 (by rw [hml]; rfl) (lenOf pd_15 rfl) rfl (hb hby d_prog_8_3_1) (Nat.le_of_ble_eq_true rfl) (Nat.le_of_ble_eq_true rfl) rfl rfl (Nat.le_of_ble_eq_true rfl) (Nat.le_of_ble_eq_true rfl) rfl fun T164 W164 => ?_
  refine g_aloadN (pc' := 5) W164.here hx (hb hby d_prog_8_3_4) rfl rfl rfl ?_
  refine w_virtualp (pc' := 8) (st := [(.int xs.length.toInt32)]) (y := (⟨"java/lang/String", "length", "()I"⟩ : MethodName)) (z := (⟨"java/lang/String", "length", "()I"⟩ : MethodName)) (a := a2) W164 hx [] (hw _ (List.mem_of_getElem? w_45)) (hw _ (List.mem_of_getElem? w_46)) (nfS (z := (⟨"java/lang/String", "length", "()I"⟩ : MethodName)) (hw _ (List.mem_of_getElem? w_48))) (hw _ (List.mem_of_getElem? w_48)) (hw _ (List.mem_of_getElem? w_47)) (hw _ (List.mem_of_getElem? w_10)) (hw _ (List.mem_of_getElem? w_49)) (by decide) (c_length l Z a0 hw hE cc fm a2 b2 ys  h0 W164.old G GU S2 ) ES2 (by rw [hml]; rfl) (lenOf pd_15 rfl) rfl (hb hby d_prog_8_3_5) (Nat.le_of_ble_eq_true rfl) (Nat.le_of_ble_eq_true rfl) rfl rfl (Nat.le_of_ble_eq_true rfl) (Nat.le_of_ble_eq_true rfl) rfl fun T165 W165 => ?_
  by_cases hc8_166 : xs.length.toInt32 = ys.length.toInt32
  · refine g_icmpY (pc' := 13) W165.here hx (hb hby d_prog_8_3_8) rfl (teq hc8_166).1 ?_
    refine g_iconst (0 : Int32) (pc' := 14) W165.here hx (hb hby d_prog_8_3_13) rfl rfl ?_
    refine g_istoreN (pc' := 15) (Ls' := #[.val (.ref a1), .val (.ref a2), .val (.int (0 : Int32))]) W165.here hx (hb hby d_prog_8_3_14) rfl rfl ?_
    have hxy : xs.length = ys.length := (own_n32 (by omega) (by omega)).mp hc8_166
    have LOOP : ∀ (k i : Nat), i + k = xs.length → ∀ (TL : State), Wk p l e ({ frames := 5, cells := 0, slots := 0, locals := 67 } : Room) s m #[(.ref a1), (.ref a2)] below meth c Z consts_1 "com/example/updatable_views/updatableviews/SqlNames" [] [] TL h0 0 0 → (xs.take i).map lowI = (ys.take i).map lowI → Gets p.tables e below (Post s Z consts_1 ({ frames := 5, cells := 0, slots := 0, locals := 67 } : Room) h0 [] (pureQ (some (.int (sameI xs ys))) h0)) TL (mkF m 15 #[.val (.ref a1), .val (.ref a2), .val (.int i.toInt32)] []) := by
      intro k
      induction k with
      | zero =>
        intro i hi TL  WL HP
        refine g_iloadN (pc' := 16) WL.here hx (hb hby d_prog_8_3_15) rfl rfl ?_
        refine g_aloadN (pc' := 17) WL.here hx (hb hby d_prog_8_3_16) rfl rfl rfl ?_
        refine w_virtualp (pc' := 20) (st := [(.int i.toInt32)]) (y := (⟨"java/lang/String", "length", "()I"⟩ : MethodName)) (z := (⟨"java/lang/String", "length", "()I"⟩ : MethodName)) (a := a1) WL hx [] (hw _ (List.mem_of_getElem? w_45)) (hw _ (List.mem_of_getElem? w_46)) (nfS (z := (⟨"java/lang/String", "length", "()I"⟩ : MethodName)) (hw _ (List.mem_of_getElem? w_48))) (hw _ (List.mem_of_getElem? w_48)) (hw _ (List.mem_of_getElem? w_47)) (hw _ (List.mem_of_getElem? w_10)) (hw _ (List.mem_of_getElem? w_49)) (by decide) (c_length l Z a0 hw hE cc fm a1 b1 xs  h0 WL.old G GU S1 ) ES1 (by rw [hml]; rfl) (lenOf pd_15 rfl) rfl (hb hby d_prog_8_3_17) (Nat.le_of_ble_eq_true rfl) (Nat.le_of_ble_eq_true rfl) rfl rfl (Nat.le_of_ble_eq_true rfl) (Nat.le_of_ble_eq_true rfl) rfl fun T167 W167 => ?_
        refine g_icmpY (pc' := 50) W167.here hx (hb hby d_prog_8_3_20) rfl (flt (show ¬ (i.toInt32 < xs.length.toInt32) from (own_nltn (by omega) (by omega)))).2.1 ?_
        refine g_iconst (1 : Int32) (pc' := 51) W167.here hx (hb hby d_prog_8_3_50) rfl rfl ?_
        refine w_retN (t := .boolean) W167 hx hh hlk hret (by simp) (hb hby d_prog_8_3_51) (Nat.le_of_ble_eq_true rfl) (Nat.le_of_ble_eq_true rfl) ?_
        refine ⟨congrArg (fun z => some (Value.int z)) ?_, rfl⟩
        show _ = sameI xs ys
        unfold sameI
        rw [List.take_of_length_le (by omega), List.take_of_length_le (by omega)] at HP
        rw [if_pos HP]; rfl
      | succ k ih =>
        intro i hi TL  WL HP
        have hi2 : i < xs.length := by omega
        obtain ⟨ci, hci⟩ : ∃ z, xs[i]? = some z := ⟨_, List.getElem?_eq_getElem hi2⟩
        obtain ⟨di, hdi⟩ : ∃ z, ys[i]? = some z := ⟨_, List.getElem?_eq_getElem (by omega)⟩
        have r_ci := S1.rng ci (List.mem_of_getElem? hci)
        have r_di := S2.rng di (List.mem_of_getElem? hdi)
        refine g_iloadN (pc' := 16) WL.here hx (hb hby d_prog_8_3_15) rfl rfl ?_
        refine g_aloadN (pc' := 17) WL.here hx (hb hby d_prog_8_3_16) rfl rfl rfl ?_
        refine w_virtualp (pc' := 20) (st := [(.int i.toInt32)]) (y := (⟨"java/lang/String", "length", "()I"⟩ : MethodName)) (z := (⟨"java/lang/String", "length", "()I"⟩ : MethodName)) (a := a1) WL hx [] (hw _ (List.mem_of_getElem? w_45)) (hw _ (List.mem_of_getElem? w_46)) (nfS (z := (⟨"java/lang/String", "length", "()I"⟩ : MethodName)) (hw _ (List.mem_of_getElem? w_48))) (hw _ (List.mem_of_getElem? w_48)) (hw _ (List.mem_of_getElem? w_47)) (hw _ (List.mem_of_getElem? w_10)) (hw _ (List.mem_of_getElem? w_49)) (by decide) (c_length l Z a0 hw hE cc fm a1 b1 xs  h0 WL.old G GU S1 ) ES1 (by rw [hml]; rfl) (lenOf pd_15 rfl) rfl (hb hby d_prog_8_3_17) (Nat.le_of_ble_eq_true rfl) (Nat.le_of_ble_eq_true rfl) rfl rfl (Nat.le_of_ble_eq_true rfl) (Nat.le_of_ble_eq_true rfl) rfl fun T168 W168 => ?_
        refine g_icmpN (pc' := 23) W168.here hx (hb hby d_prog_8_3_20) rfl (tlt (show i.toInt32 < xs.length.toInt32 from (own_ltn hi2 hlen))).2.1 ?_
        refine g_aloadN (pc' := 24) W168.here hx (hb hby d_prog_8_3_23) rfl rfl rfl ?_
        refine g_iloadN (pc' := 25) W168.here hx (hb hby d_prog_8_3_24) rfl rfl ?_
        refine w_virtualp (pc' := 28) (st := []) (y := (⟨"java/lang/String", "charAt", "(I)C"⟩ : MethodName)) (z := (⟨"java/lang/String", "charAt", "(I)C"⟩ : MethodName)) (a := a1) W168 hx [(.int i.toInt32)] (hw _ (List.mem_of_getElem? w_77)) (hw _ (List.mem_of_getElem? w_78)) (nfS (z := (⟨"java/lang/String", "charAt", "(I)C"⟩ : MethodName)) (hw _ (List.mem_of_getElem? w_80))) (hw _ (List.mem_of_getElem? w_80)) (hw _ (List.mem_of_getElem? w_79)) (hw _ (List.mem_of_getElem? w_10)) (hw _ (List.mem_of_getElem? w_81)) (by decide) (c_charAt l Z a0 hw hE cc fm a1 b1 xs i.toInt32 ci h0 W168.old G GU S1 hlx (own_nneg (by omega)) (own_ltn hi2 hlen) (by rw [i32_nat (by omega)]; exact hci)) ES1 (by rw [hml]; rfl) (lenOf pd_16 rfl) rfl (hb hby d_prog_8_3_25) (Nat.le_of_ble_eq_true rfl) (Nat.le_of_ble_eq_true rfl) rfl rfl (Nat.le_of_ble_eq_true rfl) (Nat.le_of_ble_eq_true rfl) rfl fun T169 W169 => ?_
        refine w_callSp (pc' := 31) (st := []) (y := (⟨"com/example/updatable_views/updatableviews/SqlNames", "lower", "(C)C"⟩ : MethodName)) W169 hx [(.int ci)] (hw _ (List.mem_of_getElem? w_99)) (hw _ (List.mem_of_getElem? w_100)) (hw _ (List.mem_of_getElem? w_43)) (hw _ (List.mem_of_getElem? w_101)) (by decide) (c_lower l Z a0 hw hE ci h0 W169.old r_ci) (by rw [hml]; rfl) (lenOf pd_17 rfl) rfl (hb hby d_prog_8_3_28) (Nat.le_of_ble_eq_true rfl) (Nat.le_of_ble_eq_true rfl) rfl rfl (Nat.le_of_ble_eq_true rfl) (Nat.le_of_ble_eq_true rfl) rfl fun T170 W170 => ?_
        refine g_aloadN (pc' := 32) W170.here hx (hb hby d_prog_8_3_31) rfl rfl rfl ?_
        refine g_iloadN (pc' := 33) W170.here hx (hb hby d_prog_8_3_32) rfl rfl ?_
        refine w_virtualp (pc' := 36) (st := [(.int (lowI ci))]) (y := (⟨"java/lang/String", "charAt", "(I)C"⟩ : MethodName)) (z := (⟨"java/lang/String", "charAt", "(I)C"⟩ : MethodName)) (a := a2) W170 hx [(.int i.toInt32)] (hw _ (List.mem_of_getElem? w_77)) (hw _ (List.mem_of_getElem? w_78)) (nfS (z := (⟨"java/lang/String", "charAt", "(I)C"⟩ : MethodName)) (hw _ (List.mem_of_getElem? w_80))) (hw _ (List.mem_of_getElem? w_80)) (hw _ (List.mem_of_getElem? w_79)) (hw _ (List.mem_of_getElem? w_10)) (hw _ (List.mem_of_getElem? w_81)) (by decide) (c_charAt l Z a0 hw hE cc fm a2 b2 ys i.toInt32 di h0 W170.old G GU S2 hly (own_nneg (by omega)) (own_ltn (by omega) (by omega)) (by rw [i32_nat (by omega)]; exact hdi)) ES2 (by rw [hml]; rfl) (lenOf pd_16 rfl) rfl (hb hby d_prog_8_3_33) (Nat.le_of_ble_eq_true rfl) (Nat.le_of_ble_eq_true rfl) rfl rfl (Nat.le_of_ble_eq_true rfl) (Nat.le_of_ble_eq_true rfl) rfl fun T171 W171 => ?_
        refine w_callSp (pc' := 39) (st := [(.int (lowI ci))]) (y := (⟨"com/example/updatable_views/updatableviews/SqlNames", "lower", "(C)C"⟩ : MethodName)) W171 hx [(.int di)] (hw _ (List.mem_of_getElem? w_99)) (hw _ (List.mem_of_getElem? w_100)) (hw _ (List.mem_of_getElem? w_43)) (hw _ (List.mem_of_getElem? w_101)) (by decide) (c_lower l Z a0 hw hE di h0 W171.old r_di) (by rw [hml]; rfl) (lenOf pd_17 rfl) rfl (hb hby d_prog_8_3_36) (Nat.le_of_ble_eq_true rfl) (Nat.le_of_ble_eq_true rfl) rfl rfl (Nat.le_of_ble_eq_true rfl) (Nat.le_of_ble_eq_true rfl) rfl fun T172 W172 => ?_
        by_cases hc39_173 : (lowI ci) = (lowI di)
        · refine g_icmpY (pc' := 44) W172.here hx (hb hby d_prog_8_3_39) rfl (teq hc39_173).1 ?_
          refine g_iincV (i + 1).toInt32 (pc' := 47) (Ls' := #[.val (.ref a1), .val (.ref a2), .val (.int (i + 1).toInt32)]) W172.here hx (hb hby d_prog_8_3_44) (own_succ i) rfl rfl rfl ?_
          refine g_goto (pc' := 15) W172.here hx (hb hby d_prog_8_3_47) rfl ?_
          exact ih (i + 1) (by omega) _  W172 (own_takes HP hci hdi hc39_173)
        · refine g_icmpN (pc' := 42) W172.here hx (hb hby d_prog_8_3_39) rfl (feq hc39_173).1 ?_
          refine g_iconst (0 : Int32) (pc' := 43) W172.here hx (hb hby d_prog_8_3_42) rfl rfl ?_
          refine w_retN (t := .boolean) W172 hx hh hlk hret (by simp) (hb hby d_prog_8_3_43) (Nat.le_of_ble_eq_true rfl) (Nat.le_of_ble_eq_true rfl) ?_
          refine ⟨congrArg (fun z => some (Value.int z)) ?_, rfl⟩
          show _ = sameI xs ys
          unfold sameI
          rw [if_neg (own_diff hci hdi hc39_173)]; rfl
    exact LOOP xs.length 0 (by omega) _  W165 (by simp)
  · refine g_icmpN (pc' := 11) W165.here hx (hb hby d_prog_8_3_8) rfl (feq hc8_166).1 ?_
    refine g_iconst (0 : Int32) (pc' := 12) W165.here hx (hb hby d_prog_8_3_11) rfl rfl ?_
    refine w_retN (t := .boolean) W165 hx hh hlk hret (by simp) (hb hby d_prog_8_3_12) (Nat.le_of_ble_eq_true rfl) (Nat.le_of_ble_eq_true rfl) ?_
    refine ⟨congrArg (fun z => some (Value.int z)) ?_, rfl⟩
    show _ = sameI xs ys
    unfold sameI
    rw [if_neg (fun q => hc8_166 (by have := congrArg List.length q; rw [List.length_map, List.length_map] at this; rw [this]))]; rfl
theorem own_m3 (x : Int32) : (x &&& (3 : Int32)) = 0 ∨ (x &&& (3 : Int32)) = 1 ∨ (x &&& (3 : Int32)) = 2 ∨ (x &&& (3 : Int32)) = 3 := by
  have q := c_mask x 3 2 (by decide) (by decide)
  simp only [← Int32.toInt_inj, own_t0, own_t1, own_t2, own_t3]; omega
set_option maxRecDepth 65536 in
set_option maxHeartbeats 40000000 in
theorem c_law (l : Launch) (Z : State) (a0 : Array Value) (hw : ∀ d ∈ tables_1, d.before a0 Z = true) (hE : EW Z a0 consts_1) (cc : Int32) (fm : Value) (p0 p1 : Int64) (p2 p3 : Int32) (h0 : Heap) (O : Ext Z.heap h0) (G : SEnv Z cc fm) (GU : SEnvU Z)  :
    ConL tables_1 l Z consts_1 x code maxLocals ret room_1 #[(.long p0), (.long p1), (.int p2), (.int p3)] h0 [] (fun v _ => v = some (.int 1)) := by
  refine Con.of (a0 := a0) #[.val (.long p0), .second, .val (.long p1), .second, .val (.int p2), .val (.int p3), .unset, .unset, .unset, .unset, .unset, .unset, .unset, .unset, .unset, .unset, .unset] (plainFor_of_name pn_5) hE O all0 (fun m => by first | (simp [entryFrame, mkF, argsToLocals, Value.category, maxLocals]; done) | rfl) ?_
  intro p e s m below meth c T0 hx hby hml hnm hret hlk hh W0
  refine g_iload (pc' := 2) W0.here hx (hb hby at_0) rfl rfl ?_
  refine g_iconst (3 : Int32) (pc' := 3) W0.here hx (hb hby at_2) rfl rfl ?_
  refine g_iand (pc' := 4) W0.here hx (hb hby at_3) rfl ?_
  obtain ⟨la, hla⟩ : ∃ zz_ : Int32, zz_ = (p3 &&& (3 : Int32)) := ⟨_, rfl⟩
  refine g_name (congrArg Value.int hla) ?_
  have cla : la = 0 ∨ la = 1 ∨ la = 2 ∨ la = 3 := by rw [hla]; exact own_m3 _
  refine g_istore (pc' := 6) (Ls' := #[.val (.long p0), .second, .val (.long p1), .second, .val (.int p2), .val (.int p3), .val (.int la), .unset, .unset, .unset, .unset, .unset, .unset, .unset, .unset, .unset, .unset]) W0.here hx (hb hby at_4) rfl rfl ?_
  refine g_iload (pc' := 8) W0.here hx (hb hby at_6) rfl rfl ?_
  refine g_iconst (4 : Int32) (pc' := 9) W0.here hx (hb hby at_8) rfl rfl ?_
  refine g_iand (pc' := 10) W0.here hx (hb hby at_9) rfl ?_
  by_cases hc10_174 : (p3 &&& (4 : Int32)) = (0 : Int32)
  · refine g_ifY (pc' := 18) W0.here hx (hb hby at_10) rfl (teq hc10_174).1 ?_
    refine g_iload (pc' := 20) W0.here hx (hb hby at_18) rfl rfl ?_
    refine g_iconst (3 : Int32) (pc' := 21) W0.here hx (hb hby at_20) rfl rfl ?_
    refine g_iushr (pc' := 22) W0.here hx (hb hby at_21) rfl ?_
    refine g_iconst (3 : Int32) (pc' := 23) W0.here hx (hb hby at_22) rfl rfl ?_
    refine g_iand (pc' := 24) W0.here hx (hb hby at_23) rfl ?_
    obtain ⟨lb, hlb⟩ : ∃ zz_ : Int32, zz_ = (((p3.toUInt32 >>> ((3 : Int32) &&& 31).toUInt32).toInt32) &&& (3 : Int32)) := ⟨_, rfl⟩
    refine g_name (congrArg Value.int hlb) ?_
    have clb : lb = 0 ∨ lb = 1 ∨ lb = 2 ∨ lb = 3 := by rw [hlb]; exact own_m3 _
    refine g_istore (pc' := 26) (Ls' := #[.val (.long p0), .second, .val (.long p1), .second, .val (.int p2), .val (.int p3), .val (.int la), .val (.int lb), .unset, .unset, .unset, .unset, .unset, .unset, .unset, .unset, .unset]) W0.here hx (hb hby at_24) rfl rfl ?_
    refine g_lloadN (pc' := 27) W0.here hx (hb hby at_26) rfl rfl ?_
    refine w_ldc2J (pc' := 30) W0 hx (hw _ (List.mem_of_getElem? w_0)) (hb hby at_27) rfl ?_
    refine g_land (pc' := 31) W0.here hx (hb hby at_30) rfl ?_
    refine g_l2i (pc' := 32) W0.here hx (hb hby at_31) rfl ?_
    refine g_i2c (pc' := 33) W0.here hx (hb hby at_32) rfl ?_
    obtain ⟨x0, hx0⟩ : ∃ zz_ : Int32, zz_ = (((p0 &&& (65535 : Int64)).toInt32).toUInt32.toUInt16.toUInt32.toInt32) := ⟨_, rfl⟩
    refine g_name (congrArg Value.int hx0) ?_
    have r_x0 : 0 ≤ x0.toInt ∧ x0.toInt < 65536 := by rw [hx0]; have := c_i2c ((p0 &&& (65535 : Int64)).toInt32); omega
    refine g_istore (pc' := 35) (Ls' := #[.val (.long p0), .second, .val (.long p1), .second, .val (.int p2), .val (.int p3), .val (.int la), .val (.int lb), .val (.int x0), .unset, .unset, .unset, .unset, .unset, .unset, .unset, .unset]) W0.here hx (hb hby at_33) rfl rfl ?_
    refine g_lloadN (pc' := 36) W0.here hx (hb hby at_35) rfl rfl ?_
    refine g_bipush (16 : Int32) (pc' := 38) W0.here hx (hb hby at_36) rfl rfl ?_
    refine g_lushr (pc' := 39) W0.here hx (hb hby at_38) rfl ?_
    refine w_ldc2J (pc' := 42) W0 hx (hw _ (List.mem_of_getElem? w_0)) (hb hby at_39) rfl ?_
    refine g_land (pc' := 43) W0.here hx (hb hby at_42) rfl ?_
    refine g_l2i (pc' := 44) W0.here hx (hb hby at_43) rfl ?_
    refine g_i2c (pc' := 45) W0.here hx (hb hby at_44) rfl ?_
    obtain ⟨x1, hx1⟩ : ∃ zz_ : Int32, zz_ = (((((p0.toUInt64 >>> ((16 : Int32) &&& 0x3f).toInt64.toUInt64).toInt64) &&& (65535 : Int64)).toInt32).toUInt32.toUInt16.toUInt32.toInt32) := ⟨_, rfl⟩
    refine g_name (congrArg Value.int hx1) ?_
    have r_x1 : 0 ≤ x1.toInt ∧ x1.toInt < 65536 := by rw [hx1]; have := c_i2c ((((p0.toUInt64 >>> ((16 : Int32) &&& 0x3f).toInt64.toUInt64).toInt64) &&& (65535 : Int64)).toInt32); omega
    refine g_istore (pc' := 47) (Ls' := #[.val (.long p0), .second, .val (.long p1), .second, .val (.int p2), .val (.int p3), .val (.int la), .val (.int lb), .val (.int x0), .val (.int x1), .unset, .unset, .unset, .unset, .unset, .unset, .unset]) W0.here hx (hb hby at_45) rfl rfl ?_
    refine g_lloadN (pc' := 48) W0.here hx (hb hby at_47) rfl rfl ?_
    refine g_bipush (32 : Int32) (pc' := 50) W0.here hx (hb hby at_48) rfl rfl ?_
    refine g_lushr (pc' := 51) W0.here hx (hb hby at_50) rfl ?_
    refine w_ldc2J (pc' := 54) W0 hx (hw _ (List.mem_of_getElem? w_0)) (hb hby at_51) rfl ?_
    refine g_land (pc' := 55) W0.here hx (hb hby at_54) rfl ?_
    refine g_l2i (pc' := 56) W0.here hx (hb hby at_55) rfl ?_
    refine g_i2c (pc' := 57) W0.here hx (hb hby at_56) rfl ?_
    obtain ⟨x2, hx2⟩ : ∃ zz_ : Int32, zz_ = (((((p0.toUInt64 >>> ((32 : Int32) &&& 0x3f).toInt64.toUInt64).toInt64) &&& (65535 : Int64)).toInt32).toUInt32.toUInt16.toUInt32.toInt32) := ⟨_, rfl⟩
    refine g_name (congrArg Value.int hx2) ?_
    have r_x2 : 0 ≤ x2.toInt ∧ x2.toInt < 65536 := by rw [hx2]; have := c_i2c ((((p0.toUInt64 >>> ((32 : Int32) &&& 0x3f).toInt64.toUInt64).toInt64) &&& (65535 : Int64)).toInt32); omega
    refine g_istore (pc' := 59) (Ls' := #[.val (.long p0), .second, .val (.long p1), .second, .val (.int p2), .val (.int p3), .val (.int la), .val (.int lb), .val (.int x0), .val (.int x1), .val (.int x2), .unset, .unset, .unset, .unset, .unset, .unset]) W0.here hx (hb hby at_57) rfl rfl ?_
    refine g_iload (pc' := 61) W0.here hx (hb hby at_59) rfl rfl ?_
    refine g_iconst (3 : Int32) (pc' := 62) W0.here hx (hb hby at_61) rfl rfl ?_
    refine g_iand (pc' := 63) W0.here hx (hb hby at_62) rfl ?_
    refine g_iload (pc' := 65) W0.here hx (hb hby at_63) rfl rfl ?_
    refine g_lloadN (pc' := 66) W0.here hx (hb hby at_65) rfl rfl ?_
    refine w_ldc2J (pc' := 69) W0 hx (hw _ (List.mem_of_getElem? w_0)) (hb hby at_66) rfl ?_
    refine g_land (pc' := 70) W0.here hx (hb hby at_69) rfl ?_
    refine g_l2i (pc' := 71) W0.here hx (hb hby at_70) rfl ?_
    refine g_i2c (pc' := 72) W0.here hx (hb hby at_71) rfl ?_
    refine w_callS (pc' := 75) (st := []) (y := (⟨"com/example/updatable_views/updatableviews/SqlNamesSamePinLaw", "pick", "(ICC)C"⟩ : MethodName)) W0 hx [(.int (p2 &&& (3 : Int32))), (.int x0), (.int (((p1 &&& (65535 : Int64)).toInt32).toUInt32.toUInt16.toUInt32.toInt32))] (hw _ (List.mem_of_getElem? w_1)) (hw _ (List.mem_of_getElem? w_2)) (hw _ (List.mem_of_getElem? w_3)) (hw _ (List.mem_of_getElem? w_4)) (by decide) (c_pick l Z a0 hw hE (p2 &&& (3 : Int32)) x0 (((p1 &&& (65535 : Int64)).toInt32).toUInt32.toUInt16.toUInt32.toInt32) h0 W0.old) all0 (by rw [hml]; rfl) (lenOf pd_18 rfl) rfl (hb hby at_72) (Nat.le_of_ble_eq_true rfl) (Nat.le_of_ble_eq_true rfl) (Nat.le_of_ble_eq_true rfl) (Nat.le_of_ble_eq_true rfl) rfl fun v175 T175 h175 W175 K175 Q175 => ?_
    have z_K175 : h0.size ≤ h175.size := K175.1
    obtain ⟨y0, rfl, r_y0⟩ := Q175
    refine g_istore (pc' := 77) (Ls' := #[.val (.long p0), .second, .val (.long p1), .second, .val (.int p2), .val (.int p3), .val (.int la), .val (.int lb), .val (.int x0), .val (.int x1), .val (.int x2), .val (.int y0), .unset, .unset, .unset, .unset, .unset]) W175.here hx (hb hby at_75) rfl rfl ?_
    refine g_iload (pc' := 79) W175.here hx (hb hby at_77) rfl rfl ?_
    refine g_iconst (2 : Int32) (pc' := 80) W175.here hx (hb hby at_79) rfl rfl ?_
    refine g_iushr (pc' := 81) W175.here hx (hb hby at_80) rfl ?_
    refine g_iconst (3 : Int32) (pc' := 82) W175.here hx (hb hby at_81) rfl rfl ?_
    refine g_iand (pc' := 83) W175.here hx (hb hby at_82) rfl ?_
    refine g_iload (pc' := 85) W175.here hx (hb hby at_83) rfl rfl ?_
    refine g_lloadN (pc' := 86) W175.here hx (hb hby at_85) rfl rfl ?_
    refine g_bipush (16 : Int32) (pc' := 88) W175.here hx (hb hby at_86) rfl rfl ?_
    refine g_lushr (pc' := 89) W175.here hx (hb hby at_88) rfl ?_
    refine w_ldc2J (pc' := 92) W175 hx (hw _ (List.mem_of_getElem? w_0)) (hb hby at_89) rfl ?_
    refine g_land (pc' := 93) W175.here hx (hb hby at_92) rfl ?_
    refine g_l2i (pc' := 94) W175.here hx (hb hby at_93) rfl ?_
    refine g_i2c (pc' := 95) W175.here hx (hb hby at_94) rfl ?_
    refine w_callS (pc' := 98) (st := []) (y := (⟨"com/example/updatable_views/updatableviews/SqlNamesSamePinLaw", "pick", "(ICC)C"⟩ : MethodName)) W175 hx [(.int (((p2.toUInt32 >>> ((2 : Int32) &&& 31).toUInt32).toInt32) &&& (3 : Int32))), (.int x1), (.int (((((p1.toUInt64 >>> ((16 : Int32) &&& 0x3f).toInt64.toUInt64).toInt64) &&& (65535 : Int64)).toInt32).toUInt32.toUInt16.toUInt32.toInt32))] (hw _ (List.mem_of_getElem? w_1)) (hw _ (List.mem_of_getElem? w_2)) (hw _ (List.mem_of_getElem? w_3)) (hw _ (List.mem_of_getElem? w_4)) (by decide) (c_pick l Z a0 hw hE (((p2.toUInt32 >>> ((2 : Int32) &&& 31).toUInt32).toInt32) &&& (3 : Int32)) x1 (((((p1.toUInt64 >>> ((16 : Int32) &&& 0x3f).toInt64.toUInt64).toInt64) &&& (65535 : Int64)).toInt32).toUInt32.toUInt16.toUInt32.toInt32) h175 W175.old) all0 (by rw [hml]; rfl) (lenOf pd_18 rfl) rfl (hb hby at_95) (Nat.le_of_ble_eq_true rfl) (Nat.le_of_ble_eq_true rfl) (Nat.le_of_ble_eq_true rfl) (Nat.le_of_ble_eq_true rfl) rfl fun v176 T176 h176 W176 K176 Q176 => ?_
    have z_K176 : h175.size ≤ h176.size := K176.1
    obtain ⟨y1, rfl, r_y1⟩ := Q176
    refine g_istore (pc' := 100) (Ls' := #[.val (.long p0), .second, .val (.long p1), .second, .val (.int p2), .val (.int p3), .val (.int la), .val (.int lb), .val (.int x0), .val (.int x1), .val (.int x2), .val (.int y0), .val (.int y1), .unset, .unset, .unset, .unset]) W176.here hx (hb hby at_98) rfl rfl ?_
    refine g_iload (pc' := 102) W176.here hx (hb hby at_100) rfl rfl ?_
    refine g_iconst (4 : Int32) (pc' := 103) W176.here hx (hb hby at_102) rfl rfl ?_
    refine g_iushr (pc' := 104) W176.here hx (hb hby at_103) rfl ?_
    refine g_iconst (3 : Int32) (pc' := 105) W176.here hx (hb hby at_104) rfl rfl ?_
    refine g_iand (pc' := 106) W176.here hx (hb hby at_105) rfl ?_
    refine g_iload (pc' := 108) W176.here hx (hb hby at_106) rfl rfl ?_
    refine g_lloadN (pc' := 109) W176.here hx (hb hby at_108) rfl rfl ?_
    refine g_bipush (32 : Int32) (pc' := 111) W176.here hx (hb hby at_109) rfl rfl ?_
    refine g_lushr (pc' := 112) W176.here hx (hb hby at_111) rfl ?_
    refine w_ldc2J (pc' := 115) W176 hx (hw _ (List.mem_of_getElem? w_0)) (hb hby at_112) rfl ?_
    refine g_land (pc' := 116) W176.here hx (hb hby at_115) rfl ?_
    refine g_l2i (pc' := 117) W176.here hx (hb hby at_116) rfl ?_
    refine g_i2c (pc' := 118) W176.here hx (hb hby at_117) rfl ?_
    refine w_callS (pc' := 121) (st := []) (y := (⟨"com/example/updatable_views/updatableviews/SqlNamesSamePinLaw", "pick", "(ICC)C"⟩ : MethodName)) W176 hx [(.int (((p2.toUInt32 >>> ((4 : Int32) &&& 31).toUInt32).toInt32) &&& (3 : Int32))), (.int x2), (.int (((((p1.toUInt64 >>> ((32 : Int32) &&& 0x3f).toInt64.toUInt64).toInt64) &&& (65535 : Int64)).toInt32).toUInt32.toUInt16.toUInt32.toInt32))] (hw _ (List.mem_of_getElem? w_1)) (hw _ (List.mem_of_getElem? w_2)) (hw _ (List.mem_of_getElem? w_3)) (hw _ (List.mem_of_getElem? w_4)) (by decide) (c_pick l Z a0 hw hE (((p2.toUInt32 >>> ((4 : Int32) &&& 31).toUInt32).toInt32) &&& (3 : Int32)) x2 (((((p1.toUInt64 >>> ((32 : Int32) &&& 0x3f).toInt64.toUInt64).toInt64) &&& (65535 : Int64)).toInt32).toUInt32.toUInt16.toUInt32.toInt32) h176 W176.old) all0 (by rw [hml]; rfl) (lenOf pd_18 rfl) rfl (hb hby at_118) (Nat.le_of_ble_eq_true rfl) (Nat.le_of_ble_eq_true rfl) (Nat.le_of_ble_eq_true rfl) (Nat.le_of_ble_eq_true rfl) rfl fun v177 T177 h177 W177 K177 Q177 => ?_
    have z_K177 : h176.size ≤ h177.size := K177.1
    obtain ⟨y2, rfl, r_y2⟩ := Q177
    refine g_istore (pc' := 123) (Ls' := #[.val (.long p0), .second, .val (.long p1), .second, .val (.int p2), .val (.int p3), .val (.int la), .val (.int lb), .val (.int x0), .val (.int x1), .val (.int x2), .val (.int y0), .val (.int y1), .val (.int y2), .unset, .unset, .unset]) W177.here hx (hb hby at_121) rfl rfl ?_
    refine g_iload (pc' := 125) W177.here hx (hb hby at_123) rfl rfl ?_
    refine g_iload (pc' := 127) W177.here hx (hb hby at_125) rfl rfl ?_
    refine g_iload (pc' := 129) W177.here hx (hb hby at_127) rfl rfl ?_
    refine g_iload (pc' := 131) W177.here hx (hb hby at_129) rfl rfl ?_
    refine w_callS (pc' := 134) (st := []) (y := (⟨"com/example/updatable_views/updatableviews/SqlNamesSamePinLaw", "mk", "(ICCC)Ljava/lang/String;"⟩ : MethodName)) W177 hx [(.int la), (.int x0), (.int x1), (.int x2)] (hw _ (List.mem_of_getElem? w_5)) (hw _ (List.mem_of_getElem? w_6)) (hw _ (List.mem_of_getElem? w_3)) (hw _ (List.mem_of_getElem? w_7)) (by decide) (c_mk l Z a0 hw hE cc fm la x0 x1 x2 h177 W177.old G GU r_x0 r_x1 r_x2) all0 (by rw [hml]; rfl) (lenOf pd_19 rfl) rfl (hb hby at_131) (Nat.le_of_ble_eq_true rfl) (Nat.le_of_ble_eq_true rfl) (Nat.le_of_ble_eq_true rfl) (Nat.le_of_ble_eq_true rfl) rfl fun v178 T178 h178 W178 K178 Q178 => ?_
    have z_K178 : h177.size ≤ h178.size := K178.1
    obtain ⟨sa179, sb179, rfl, S179⟩ := Q178
    have ES179 := S179.exa
    have lt_sa179 : sa179 < h178.size := S179.lt
    have lt_sb179 : sb179 < h178.size := S179.ltb
    refine g_astore (pc' := 136) (Ls' := #[.val (.long p0), .second, .val (.long p1), .second, .val (.int p2), .val (.int p3), .val (.int la), .val (.int lb), .val (.int x0), .val (.int x1), .val (.int x2), .val (.int y0), .val (.int y1), .val (.int y2), .val (.ref sa179), .unset, .unset]) W178.here hx (hb hby at_134) rfl rfl rfl ?_
    refine g_iload (pc' := 138) W178.here hx (hb hby at_136) rfl rfl ?_
    refine g_iload (pc' := 140) W178.here hx (hb hby at_138) rfl rfl ?_
    refine g_iload (pc' := 142) W178.here hx (hb hby at_140) rfl rfl ?_
    refine g_iload (pc' := 144) W178.here hx (hb hby at_142) rfl rfl ?_
    refine w_callS (pc' := 147) (st := []) (y := (⟨"com/example/updatable_views/updatableviews/SqlNamesSamePinLaw", "mk", "(ICCC)Ljava/lang/String;"⟩ : MethodName)) W178 hx [(.int lb), (.int y0), (.int y1), (.int y2)] (hw _ (List.mem_of_getElem? w_5)) (hw _ (List.mem_of_getElem? w_6)) (hw _ (List.mem_of_getElem? w_3)) (hw _ (List.mem_of_getElem? w_7)) (by decide) (c_mk l Z a0 hw hE cc fm lb y0 y1 y2 h178 W178.old G GU r_y0 r_y1 r_y2) all0 (by rw [hml]; rfl) (lenOf pd_19 rfl) rfl (hb hby at_144) (Nat.le_of_ble_eq_true rfl) (Nat.le_of_ble_eq_true rfl) (Nat.le_of_ble_eq_true rfl) (Nat.le_of_ble_eq_true rfl) rfl fun v180 T180 h180 W180 K180 Q180 => ?_
    have z_K180 : h178.size ≤ h180.size := K180.1
    obtain ⟨sa181, sb181, rfl, S181⟩ := Q180
    have ES181 := S181.exa
    have lt_sa181 : sa181 < h180.size := S181.lt
    have lt_sb181 : sb181 < h180.size := S181.ltb
    refine g_astore (pc' := 149) (Ls' := #[.val (.long p0), .second, .val (.long p1), .second, .val (.int p2), .val (.int p3), .val (.int la), .val (.int lb), .val (.int x0), .val (.int x1), .val (.int x2), .val (.int y0), .val (.int y1), .val (.int y2), .val (.ref sa179), .val (.ref sa181), .unset]) W180.here hx (hb hby at_147) rfl rfl rfl ?_
    refine g_iload (pc' := 151) W180.here hx (hb hby at_149) rfl rfl ?_
    refine g_iload (pc' := 153) W180.here hx (hb hby at_151) rfl rfl ?_
    by_cases hc153_182 : la = lb
    · refine g_icmpN (pc' := 156) W180.here hx (hb hby at_153) rfl (teq hc153_182).2 ?_
      refine g_iconst (1 : Int32) (pc' := 157) W180.here hx (hb hby at_156) rfl rfl ?_
      refine g_goto (pc' := 161) W180.here hx (hb hby at_157) rfl ?_
      refine g_istore (pc' := 163) (Ls' := #[.val (.long p0), .second, .val (.long p1), .second, .val (.int p2), .val (.int p3), .val (.int la), .val (.int lb), .val (.int x0), .val (.int x1), .val (.int x2), .val (.int y0), .val (.int y1), .val (.int y2), .val (.ref sa179), .val (.ref sa181), .val (.int (1 : Int32))]) W180.here hx (hb hby at_161) rfl rfl ?_
      refine g_iload (pc' := 165) W180.here hx (hb hby at_163) rfl rfl ?_
      refine g_ifN (pc' := 168) W180.here hx (hb hby at_165) rfl (feq (show ¬ ((1 : Int32) = (0 : Int32)) from (by decide))).1 ?_
      refine g_iload (pc' := 170) W180.here hx (hb hby at_168) rfl rfl ?_
      refine g_iconst (1 : Int32) (pc' := 171) W180.here hx (hb hby at_170) rfl rfl ?_
      by_cases hc171_183 : la < (1 : Int32)
      · refine g_icmpY (pc' := 183) W180.here hx (hb hby at_171) rfl (tlt hc171_183).1 ?_
        refine g_iload (pc' := 185) W180.here hx (hb hby at_183) rfl rfl ?_
        refine g_ifN (pc' := 188) W180.here hx (hb hby at_185) rfl (feq (show ¬ ((1 : Int32) = (0 : Int32)) from (by decide))).1 ?_
        refine g_iload (pc' := 190) W180.here hx (hb hby at_188) rfl rfl ?_
        refine g_iconst (2 : Int32) (pc' := 191) W180.here hx (hb hby at_190) rfl rfl ?_
        refine g_icmpY (pc' := 203) W180.here hx (hb hby at_191) rfl (tlt (show la < (2 : Int32) from (Int32.lt_trans hc171_183 (by decide)))).1 ?_
        refine g_iload (pc' := 205) W180.here hx (hb hby at_203) rfl rfl ?_
        refine g_ifN (pc' := 208) W180.here hx (hb hby at_205) rfl (feq (show ¬ ((1 : Int32) = (0 : Int32)) from (by decide))).1 ?_
        refine g_iload (pc' := 210) W180.here hx (hb hby at_208) rfl rfl ?_
        refine g_iconst (3 : Int32) (pc' := 211) W180.here hx (hb hby at_210) rfl rfl ?_
        refine g_icmpY (pc' := 223) W180.here hx (hb hby at_211) rfl (tlt (show la < (3 : Int32) from (Int32.lt_trans hc171_183 (by decide)))).1 ?_
        refine g_aload (pc' := 225) W180.here hx (hb hby at_223) rfl rfl rfl ?_
        refine g_aload (pc' := 227) W180.here hx (hb hby at_225) rfl rfl rfl ?_
        have c184 := (S179.keep K180 nin0 nin0)
        refine w_callSp (pc' := 230) (st := []) (y := (⟨"com/example/updatable_views/updatableviews/SqlNames", "same", "(Ljava/lang/String;Ljava/lang/String;)Z"⟩ : MethodName)) W180 hx [(.ref sa179), (.ref sa181)] (hw _ (List.mem_of_getElem? w_41)) (hw _ (List.mem_of_getElem? w_42)) (hw _ (List.mem_of_getElem? w_43)) (hw _ (List.mem_of_getElem? w_44)) (by decide) (c_same l Z a0 hw hE cc fm sa179 sb179 sa181 sb181 (mkL la x0 x1 x2) (mkL lb y0 y1 y2) h180 W180.old G GU c184 S181 (by have := own_mkl la x0 x1 x2; omega) (by have := own_mkl lb y0 y1 y2; omega)) (by rw [hml]; rfl) (lenOf pd_20 rfl) rfl (hb hby at_227) (Nat.le_of_ble_eq_true rfl) (Nat.le_of_ble_eq_true rfl) rfl rfl (Nat.le_of_ble_eq_true rfl) (Nat.le_of_ble_eq_true rfl) rfl fun T185 W185 => ?_
        refine g_iload (pc' := 232) W185.here hx (hb hby at_230) rfl rfl ?_
        refine g_icmpN (pc' := 235) W185.here hx (hb hby at_232) rfl (teq (show (sameI (mkL la x0 x1 x2) (mkL lb y0 y1 y2)) = (1 : Int32) from (by clear hla hlb; rcases cla with rfl | rfl | rfl | rfl <;> rcases clb with rfl | rfl | rfl | rfl <;> first | (exact absurd hc153_182 (by decide)) | (exact absurd hc171_183 (by decide)) | (simp [sameI, mkL]; done)))).2 ?_
        refine g_iconst (1 : Int32) (pc' := 236) W185.here hx (hb hby at_235) rfl rfl ?_
        refine g_goto (pc' := 240) W185.here hx (hb hby at_236) rfl ?_
        refine w_retN (t := .boolean) W185 hx hh hlk hret (by simp) (hb hby at_240) (Nat.le_of_ble_eq_true rfl) (Nat.le_of_ble_eq_true rfl) ?_
        exact rfl
      · refine g_icmpN (pc' := 174) W180.here hx (hb hby at_171) rfl (flt hc171_183).1 ?_
        refine g_iload (pc' := 176) W180.here hx (hb hby at_174) rfl rfl ?_
        refine g_iload (pc' := 178) W180.here hx (hb hby at_176) rfl rfl ?_
        refine w_callSp (pc' := 181) (st := []) (y := (⟨"com/example/updatable_views/updatableviews/SqlNamesSamePinLaw", "eq", "(CC)Z"⟩ : MethodName)) W180 hx [(.int x0), (.int y0)] (hw _ (List.mem_of_getElem? w_74)) (hw _ (List.mem_of_getElem? w_75)) (hw _ (List.mem_of_getElem? w_3)) (hw _ (List.mem_of_getElem? w_76)) (by decide) (c_eq l Z a0 hw hE x0 y0 h180 W180.old r_x0 r_y0) (by rw [hml]; rfl) (lenOf pd_21 rfl) rfl (hb hby at_178) (Nat.le_of_ble_eq_true rfl) (Nat.le_of_ble_eq_true rfl) rfl rfl (Nat.le_of_ble_eq_true rfl) (Nat.le_of_ble_eq_true rfl) rfl fun T186 W186 => ?_
        by_cases hq0 : lowI x0 = lowI y0
        · refine g_name (w := .int (1 : Int32)) (congrArg Value.int (by rw [eqI, if_pos hq0])) ?_
          refine g_istore (pc' := 183) (Ls' := #[.val (.long p0), .second, .val (.long p1), .second, .val (.int p2), .val (.int p3), .val (.int la), .val (.int lb), .val (.int x0), .val (.int x1), .val (.int x2), .val (.int y0), .val (.int y1), .val (.int y2), .val (.ref sa179), .val (.ref sa181), .val (.int (1 : Int32))]) W186.here hx (hb hby at_181) rfl rfl ?_
          refine g_iload (pc' := 185) W186.here hx (hb hby at_183) rfl rfl ?_
          refine g_ifN (pc' := 188) W186.here hx (hb hby at_185) rfl (feq (show ¬ ((1 : Int32) = (0 : Int32)) from (by decide))).1 ?_
          refine g_iload (pc' := 190) W186.here hx (hb hby at_188) rfl rfl ?_
          refine g_iconst (2 : Int32) (pc' := 191) W186.here hx (hb hby at_190) rfl rfl ?_
          by_cases hc191_187 : la < (2 : Int32)
          · refine g_icmpY (pc' := 203) W186.here hx (hb hby at_191) rfl (tlt hc191_187).1 ?_
            refine g_iload (pc' := 205) W186.here hx (hb hby at_203) rfl rfl ?_
            refine g_ifN (pc' := 208) W186.here hx (hb hby at_205) rfl (feq (show ¬ ((1 : Int32) = (0 : Int32)) from (by decide))).1 ?_
            refine g_iload (pc' := 210) W186.here hx (hb hby at_208) rfl rfl ?_
            refine g_iconst (3 : Int32) (pc' := 211) W186.here hx (hb hby at_210) rfl rfl ?_
            refine g_icmpY (pc' := 223) W186.here hx (hb hby at_211) rfl (tlt (show la < (3 : Int32) from (Int32.lt_trans hc191_187 (by decide)))).1 ?_
            refine g_aload (pc' := 225) W186.here hx (hb hby at_223) rfl rfl rfl ?_
            refine g_aload (pc' := 227) W186.here hx (hb hby at_225) rfl rfl rfl ?_
            have c188 := (S179.keep K180 nin0 nin0)
            refine w_callSp (pc' := 230) (st := []) (y := (⟨"com/example/updatable_views/updatableviews/SqlNames", "same", "(Ljava/lang/String;Ljava/lang/String;)Z"⟩ : MethodName)) W186 hx [(.ref sa179), (.ref sa181)] (hw _ (List.mem_of_getElem? w_41)) (hw _ (List.mem_of_getElem? w_42)) (hw _ (List.mem_of_getElem? w_43)) (hw _ (List.mem_of_getElem? w_44)) (by decide) (c_same l Z a0 hw hE cc fm sa179 sb179 sa181 sb181 (mkL la x0 x1 x2) (mkL lb y0 y1 y2) h180 W186.old G GU c188 S181 (by have := own_mkl la x0 x1 x2; omega) (by have := own_mkl lb y0 y1 y2; omega)) (by rw [hml]; rfl) (lenOf pd_20 rfl) rfl (hb hby at_227) (Nat.le_of_ble_eq_true rfl) (Nat.le_of_ble_eq_true rfl) rfl rfl (Nat.le_of_ble_eq_true rfl) (Nat.le_of_ble_eq_true rfl) rfl fun T189 W189 => ?_
            refine g_iload (pc' := 232) W189.here hx (hb hby at_230) rfl rfl ?_
            refine g_icmpN (pc' := 235) W189.here hx (hb hby at_232) rfl (teq (show (sameI (mkL la x0 x1 x2) (mkL lb y0 y1 y2)) = (1 : Int32) from (by clear hla hlb; rcases cla with rfl | rfl | rfl | rfl <;> rcases clb with rfl | rfl | rfl | rfl <;> first | (exact absurd hc153_182 (by decide)) | (exact absurd (by decide) hc171_183) | (exact absurd hc191_187 (by decide)) | (simp [sameI, mkL, hq0]; done)))).2 ?_
            refine g_iconst (1 : Int32) (pc' := 236) W189.here hx (hb hby at_235) rfl rfl ?_
            refine g_goto (pc' := 240) W189.here hx (hb hby at_236) rfl ?_
            refine w_retN (t := .boolean) W189 hx hh hlk hret (by simp) (hb hby at_240) (Nat.le_of_ble_eq_true rfl) (Nat.le_of_ble_eq_true rfl) ?_
            exact rfl
          · refine g_icmpN (pc' := 194) W186.here hx (hb hby at_191) rfl (flt hc191_187).1 ?_
            refine g_iload (pc' := 196) W186.here hx (hb hby at_194) rfl rfl ?_
            refine g_iload (pc' := 198) W186.here hx (hb hby at_196) rfl rfl ?_
            refine w_callSp (pc' := 201) (st := []) (y := (⟨"com/example/updatable_views/updatableviews/SqlNamesSamePinLaw", "eq", "(CC)Z"⟩ : MethodName)) W186 hx [(.int x1), (.int y1)] (hw _ (List.mem_of_getElem? w_74)) (hw _ (List.mem_of_getElem? w_75)) (hw _ (List.mem_of_getElem? w_3)) (hw _ (List.mem_of_getElem? w_76)) (by decide) (c_eq l Z a0 hw hE x1 y1 h180 W186.old r_x1 r_y1) (by rw [hml]; rfl) (lenOf pd_21 rfl) rfl (hb hby at_198) (Nat.le_of_ble_eq_true rfl) (Nat.le_of_ble_eq_true rfl) rfl rfl (Nat.le_of_ble_eq_true rfl) (Nat.le_of_ble_eq_true rfl) rfl fun T190 W190 => ?_
            by_cases hq1 : lowI x1 = lowI y1
            · refine g_name (w := .int (1 : Int32)) (congrArg Value.int (by rw [eqI, if_pos hq1])) ?_
              refine g_istore (pc' := 203) (Ls' := #[.val (.long p0), .second, .val (.long p1), .second, .val (.int p2), .val (.int p3), .val (.int la), .val (.int lb), .val (.int x0), .val (.int x1), .val (.int x2), .val (.int y0), .val (.int y1), .val (.int y2), .val (.ref sa179), .val (.ref sa181), .val (.int (1 : Int32))]) W190.here hx (hb hby at_201) rfl rfl ?_
              refine g_iload (pc' := 205) W190.here hx (hb hby at_203) rfl rfl ?_
              refine g_ifN (pc' := 208) W190.here hx (hb hby at_205) rfl (feq (show ¬ ((1 : Int32) = (0 : Int32)) from (by decide))).1 ?_
              refine g_iload (pc' := 210) W190.here hx (hb hby at_208) rfl rfl ?_
              refine g_iconst (3 : Int32) (pc' := 211) W190.here hx (hb hby at_210) rfl rfl ?_
              by_cases hc211_191 : la < (3 : Int32)
              · refine g_icmpY (pc' := 223) W190.here hx (hb hby at_211) rfl (tlt hc211_191).1 ?_
                refine g_aload (pc' := 225) W190.here hx (hb hby at_223) rfl rfl rfl ?_
                refine g_aload (pc' := 227) W190.here hx (hb hby at_225) rfl rfl rfl ?_
                have c192 := (S179.keep K180 nin0 nin0)
                refine w_callSp (pc' := 230) (st := []) (y := (⟨"com/example/updatable_views/updatableviews/SqlNames", "same", "(Ljava/lang/String;Ljava/lang/String;)Z"⟩ : MethodName)) W190 hx [(.ref sa179), (.ref sa181)] (hw _ (List.mem_of_getElem? w_41)) (hw _ (List.mem_of_getElem? w_42)) (hw _ (List.mem_of_getElem? w_43)) (hw _ (List.mem_of_getElem? w_44)) (by decide) (c_same l Z a0 hw hE cc fm sa179 sb179 sa181 sb181 (mkL la x0 x1 x2) (mkL lb y0 y1 y2) h180 W190.old G GU c192 S181 (by have := own_mkl la x0 x1 x2; omega) (by have := own_mkl lb y0 y1 y2; omega)) (by rw [hml]; rfl) (lenOf pd_20 rfl) rfl (hb hby at_227) (Nat.le_of_ble_eq_true rfl) (Nat.le_of_ble_eq_true rfl) rfl rfl (Nat.le_of_ble_eq_true rfl) (Nat.le_of_ble_eq_true rfl) rfl fun T193 W193 => ?_
                refine g_iload (pc' := 232) W193.here hx (hb hby at_230) rfl rfl ?_
                refine g_icmpN (pc' := 235) W193.here hx (hb hby at_232) rfl (teq (show (sameI (mkL la x0 x1 x2) (mkL lb y0 y1 y2)) = (1 : Int32) from (by clear hla hlb; rcases cla with rfl | rfl | rfl | rfl <;> rcases clb with rfl | rfl | rfl | rfl <;> first | (exact absurd hc153_182 (by decide)) | (exact absurd (by decide) hc171_183) | (exact absurd (by decide) hc191_187) | (exact absurd hc211_191 (by decide)) | (simp [sameI, mkL, hq0, hq1]; done)))).2 ?_
                refine g_iconst (1 : Int32) (pc' := 236) W193.here hx (hb hby at_235) rfl rfl ?_
                refine g_goto (pc' := 240) W193.here hx (hb hby at_236) rfl ?_
                refine w_retN (t := .boolean) W193 hx hh hlk hret (by simp) (hb hby at_240) (Nat.le_of_ble_eq_true rfl) (Nat.le_of_ble_eq_true rfl) ?_
                exact rfl
              · refine g_icmpN (pc' := 214) W190.here hx (hb hby at_211) rfl (flt hc211_191).1 ?_
                refine g_iload (pc' := 216) W190.here hx (hb hby at_214) rfl rfl ?_
                refine g_iload (pc' := 218) W190.here hx (hb hby at_216) rfl rfl ?_
                refine w_callSp (pc' := 221) (st := []) (y := (⟨"com/example/updatable_views/updatableviews/SqlNamesSamePinLaw", "eq", "(CC)Z"⟩ : MethodName)) W190 hx [(.int x2), (.int y2)] (hw _ (List.mem_of_getElem? w_74)) (hw _ (List.mem_of_getElem? w_75)) (hw _ (List.mem_of_getElem? w_3)) (hw _ (List.mem_of_getElem? w_76)) (by decide) (c_eq l Z a0 hw hE x2 y2 h180 W190.old r_x2 r_y2) (by rw [hml]; rfl) (lenOf pd_21 rfl) rfl (hb hby at_218) (Nat.le_of_ble_eq_true rfl) (Nat.le_of_ble_eq_true rfl) rfl rfl (Nat.le_of_ble_eq_true rfl) (Nat.le_of_ble_eq_true rfl) rfl fun T194 W194 => ?_
                by_cases hq2 : lowI x2 = lowI y2
                · refine g_name (w := .int (1 : Int32)) (congrArg Value.int (by rw [eqI, if_pos hq2])) ?_
                  refine g_istore (pc' := 223) (Ls' := #[.val (.long p0), .second, .val (.long p1), .second, .val (.int p2), .val (.int p3), .val (.int la), .val (.int lb), .val (.int x0), .val (.int x1), .val (.int x2), .val (.int y0), .val (.int y1), .val (.int y2), .val (.ref sa179), .val (.ref sa181), .val (.int (1 : Int32))]) W194.here hx (hb hby at_221) rfl rfl ?_
                  refine g_aload (pc' := 225) W194.here hx (hb hby at_223) rfl rfl rfl ?_
                  refine g_aload (pc' := 227) W194.here hx (hb hby at_225) rfl rfl rfl ?_
                  have c195 := (S179.keep K180 nin0 nin0)
                  refine w_callSp (pc' := 230) (st := []) (y := (⟨"com/example/updatable_views/updatableviews/SqlNames", "same", "(Ljava/lang/String;Ljava/lang/String;)Z"⟩ : MethodName)) W194 hx [(.ref sa179), (.ref sa181)] (hw _ (List.mem_of_getElem? w_41)) (hw _ (List.mem_of_getElem? w_42)) (hw _ (List.mem_of_getElem? w_43)) (hw _ (List.mem_of_getElem? w_44)) (by decide) (c_same l Z a0 hw hE cc fm sa179 sb179 sa181 sb181 (mkL la x0 x1 x2) (mkL lb y0 y1 y2) h180 W194.old G GU c195 S181 (by have := own_mkl la x0 x1 x2; omega) (by have := own_mkl lb y0 y1 y2; omega)) (by rw [hml]; rfl) (lenOf pd_20 rfl) rfl (hb hby at_227) (Nat.le_of_ble_eq_true rfl) (Nat.le_of_ble_eq_true rfl) rfl rfl (Nat.le_of_ble_eq_true rfl) (Nat.le_of_ble_eq_true rfl) rfl fun T196 W196 => ?_
                  refine g_iload (pc' := 232) W196.here hx (hb hby at_230) rfl rfl ?_
                  refine g_icmpN (pc' := 235) W196.here hx (hb hby at_232) rfl (teq (show (sameI (mkL la x0 x1 x2) (mkL lb y0 y1 y2)) = (1 : Int32) from (by clear hla hlb; rcases cla with rfl | rfl | rfl | rfl <;> rcases clb with rfl | rfl | rfl | rfl <;> first | (exact absurd hc153_182 (by decide)) | (exact absurd (by decide) hc171_183) | (exact absurd (by decide) hc191_187) | (exact absurd (by decide) hc211_191) | (simp [sameI, mkL, hq0, hq1, hq2]; done)))).2 ?_
                  refine g_iconst (1 : Int32) (pc' := 236) W196.here hx (hb hby at_235) rfl rfl ?_
                  refine g_goto (pc' := 240) W196.here hx (hb hby at_236) rfl ?_
                  refine w_retN (t := .boolean) W196 hx hh hlk hret (by simp) (hb hby at_240) (Nat.le_of_ble_eq_true rfl) (Nat.le_of_ble_eq_true rfl) ?_
                  exact rfl
                · refine g_name (w := .int (0 : Int32)) (congrArg Value.int (by rw [eqI, if_neg hq2])) ?_
                  refine g_istore (pc' := 223) (Ls' := #[.val (.long p0), .second, .val (.long p1), .second, .val (.int p2), .val (.int p3), .val (.int la), .val (.int lb), .val (.int x0), .val (.int x1), .val (.int x2), .val (.int y0), .val (.int y1), .val (.int y2), .val (.ref sa179), .val (.ref sa181), .val (.int (0 : Int32))]) W194.here hx (hb hby at_221) rfl rfl ?_
                  refine g_aload (pc' := 225) W194.here hx (hb hby at_223) rfl rfl rfl ?_
                  refine g_aload (pc' := 227) W194.here hx (hb hby at_225) rfl rfl rfl ?_
                  have c197 := (S179.keep K180 nin0 nin0)
                  refine w_callSp (pc' := 230) (st := []) (y := (⟨"com/example/updatable_views/updatableviews/SqlNames", "same", "(Ljava/lang/String;Ljava/lang/String;)Z"⟩ : MethodName)) W194 hx [(.ref sa179), (.ref sa181)] (hw _ (List.mem_of_getElem? w_41)) (hw _ (List.mem_of_getElem? w_42)) (hw _ (List.mem_of_getElem? w_43)) (hw _ (List.mem_of_getElem? w_44)) (by decide) (c_same l Z a0 hw hE cc fm sa179 sb179 sa181 sb181 (mkL la x0 x1 x2) (mkL lb y0 y1 y2) h180 W194.old G GU c197 S181 (by have := own_mkl la x0 x1 x2; omega) (by have := own_mkl lb y0 y1 y2; omega)) (by rw [hml]; rfl) (lenOf pd_20 rfl) rfl (hb hby at_227) (Nat.le_of_ble_eq_true rfl) (Nat.le_of_ble_eq_true rfl) rfl rfl (Nat.le_of_ble_eq_true rfl) (Nat.le_of_ble_eq_true rfl) rfl fun T198 W198 => ?_
                  refine g_iload (pc' := 232) W198.here hx (hb hby at_230) rfl rfl ?_
                  refine g_icmpN (pc' := 235) W198.here hx (hb hby at_232) rfl (teq (show (sameI (mkL la x0 x1 x2) (mkL lb y0 y1 y2)) = (0 : Int32) from (by clear hla hlb; rcases cla with rfl | rfl | rfl | rfl <;> rcases clb with rfl | rfl | rfl | rfl <;> first | (exact absurd hc153_182 (by decide)) | (exact absurd (by decide) hc171_183) | (exact absurd (by decide) hc191_187) | (exact absurd (by decide) hc211_191) | (simp [sameI, mkL, hq0, hq1, hq2]; done)))).2 ?_
                  refine g_iconst (1 : Int32) (pc' := 236) W198.here hx (hb hby at_235) rfl rfl ?_
                  refine g_goto (pc' := 240) W198.here hx (hb hby at_236) rfl ?_
                  refine w_retN (t := .boolean) W198 hx hh hlk hret (by simp) (hb hby at_240) (Nat.le_of_ble_eq_true rfl) (Nat.le_of_ble_eq_true rfl) ?_
                  exact rfl
            · refine g_name (w := .int (0 : Int32)) (congrArg Value.int (by rw [eqI, if_neg hq1])) ?_
              refine g_istore (pc' := 203) (Ls' := #[.val (.long p0), .second, .val (.long p1), .second, .val (.int p2), .val (.int p3), .val (.int la), .val (.int lb), .val (.int x0), .val (.int x1), .val (.int x2), .val (.int y0), .val (.int y1), .val (.int y2), .val (.ref sa179), .val (.ref sa181), .val (.int (0 : Int32))]) W190.here hx (hb hby at_201) rfl rfl ?_
              refine g_iload (pc' := 205) W190.here hx (hb hby at_203) rfl rfl ?_
              refine g_ifY (pc' := 223) W190.here hx (hb hby at_205) rfl (teq (show (0 : Int32) = (0 : Int32) from (by decide))).1 ?_
              refine g_aload (pc' := 225) W190.here hx (hb hby at_223) rfl rfl rfl ?_
              refine g_aload (pc' := 227) W190.here hx (hb hby at_225) rfl rfl rfl ?_
              have c199 := (S179.keep K180 nin0 nin0)
              refine w_callSp (pc' := 230) (st := []) (y := (⟨"com/example/updatable_views/updatableviews/SqlNames", "same", "(Ljava/lang/String;Ljava/lang/String;)Z"⟩ : MethodName)) W190 hx [(.ref sa179), (.ref sa181)] (hw _ (List.mem_of_getElem? w_41)) (hw _ (List.mem_of_getElem? w_42)) (hw _ (List.mem_of_getElem? w_43)) (hw _ (List.mem_of_getElem? w_44)) (by decide) (c_same l Z a0 hw hE cc fm sa179 sb179 sa181 sb181 (mkL la x0 x1 x2) (mkL lb y0 y1 y2) h180 W190.old G GU c199 S181 (by have := own_mkl la x0 x1 x2; omega) (by have := own_mkl lb y0 y1 y2; omega)) (by rw [hml]; rfl) (lenOf pd_20 rfl) rfl (hb hby at_227) (Nat.le_of_ble_eq_true rfl) (Nat.le_of_ble_eq_true rfl) rfl rfl (Nat.le_of_ble_eq_true rfl) (Nat.le_of_ble_eq_true rfl) rfl fun T200 W200 => ?_
              refine g_iload (pc' := 232) W200.here hx (hb hby at_230) rfl rfl ?_
              refine g_icmpN (pc' := 235) W200.here hx (hb hby at_232) rfl (teq (show (sameI (mkL la x0 x1 x2) (mkL lb y0 y1 y2)) = (0 : Int32) from (by clear hla hlb; rcases cla with rfl | rfl | rfl | rfl <;> rcases clb with rfl | rfl | rfl | rfl <;> first | (exact absurd hc153_182 (by decide)) | (exact absurd (by decide) hc171_183) | (exact absurd (by decide) hc191_187) | (simp [sameI, mkL, hq0, hq1]; done)))).2 ?_
              refine g_iconst (1 : Int32) (pc' := 236) W200.here hx (hb hby at_235) rfl rfl ?_
              refine g_goto (pc' := 240) W200.here hx (hb hby at_236) rfl ?_
              refine w_retN (t := .boolean) W200 hx hh hlk hret (by simp) (hb hby at_240) (Nat.le_of_ble_eq_true rfl) (Nat.le_of_ble_eq_true rfl) ?_
              exact rfl
        · refine g_name (w := .int (0 : Int32)) (congrArg Value.int (by rw [eqI, if_neg hq0])) ?_
          refine g_istore (pc' := 183) (Ls' := #[.val (.long p0), .second, .val (.long p1), .second, .val (.int p2), .val (.int p3), .val (.int la), .val (.int lb), .val (.int x0), .val (.int x1), .val (.int x2), .val (.int y0), .val (.int y1), .val (.int y2), .val (.ref sa179), .val (.ref sa181), .val (.int (0 : Int32))]) W186.here hx (hb hby at_181) rfl rfl ?_
          refine g_iload (pc' := 185) W186.here hx (hb hby at_183) rfl rfl ?_
          refine g_ifY (pc' := 203) W186.here hx (hb hby at_185) rfl (teq (show (0 : Int32) = (0 : Int32) from (by decide))).1 ?_
          refine g_iload (pc' := 205) W186.here hx (hb hby at_203) rfl rfl ?_
          refine g_ifY (pc' := 223) W186.here hx (hb hby at_205) rfl (teq (show (0 : Int32) = (0 : Int32) from (by decide))).1 ?_
          refine g_aload (pc' := 225) W186.here hx (hb hby at_223) rfl rfl rfl ?_
          refine g_aload (pc' := 227) W186.here hx (hb hby at_225) rfl rfl rfl ?_
          have c201 := (S179.keep K180 nin0 nin0)
          refine w_callSp (pc' := 230) (st := []) (y := (⟨"com/example/updatable_views/updatableviews/SqlNames", "same", "(Ljava/lang/String;Ljava/lang/String;)Z"⟩ : MethodName)) W186 hx [(.ref sa179), (.ref sa181)] (hw _ (List.mem_of_getElem? w_41)) (hw _ (List.mem_of_getElem? w_42)) (hw _ (List.mem_of_getElem? w_43)) (hw _ (List.mem_of_getElem? w_44)) (by decide) (c_same l Z a0 hw hE cc fm sa179 sb179 sa181 sb181 (mkL la x0 x1 x2) (mkL lb y0 y1 y2) h180 W186.old G GU c201 S181 (by have := own_mkl la x0 x1 x2; omega) (by have := own_mkl lb y0 y1 y2; omega)) (by rw [hml]; rfl) (lenOf pd_20 rfl) rfl (hb hby at_227) (Nat.le_of_ble_eq_true rfl) (Nat.le_of_ble_eq_true rfl) rfl rfl (Nat.le_of_ble_eq_true rfl) (Nat.le_of_ble_eq_true rfl) rfl fun T202 W202 => ?_
          refine g_iload (pc' := 232) W202.here hx (hb hby at_230) rfl rfl ?_
          refine g_icmpN (pc' := 235) W202.here hx (hb hby at_232) rfl (teq (show (sameI (mkL la x0 x1 x2) (mkL lb y0 y1 y2)) = (0 : Int32) from (by clear hla hlb; rcases cla with rfl | rfl | rfl | rfl <;> rcases clb with rfl | rfl | rfl | rfl <;> first | (exact absurd hc153_182 (by decide)) | (exact absurd (by decide) hc171_183) | (simp [sameI, mkL, hq0]; done)))).2 ?_
          refine g_iconst (1 : Int32) (pc' := 236) W202.here hx (hb hby at_235) rfl rfl ?_
          refine g_goto (pc' := 240) W202.here hx (hb hby at_236) rfl ?_
          refine w_retN (t := .boolean) W202 hx hh hlk hret (by simp) (hb hby at_240) (Nat.le_of_ble_eq_true rfl) (Nat.le_of_ble_eq_true rfl) ?_
          exact rfl
    · refine g_icmpY (pc' := 160) W180.here hx (hb hby at_153) rfl (feq hc153_182).2 ?_
      refine g_iconst (0 : Int32) (pc' := 161) W180.here hx (hb hby at_160) rfl rfl ?_
      refine g_istore (pc' := 163) (Ls' := #[.val (.long p0), .second, .val (.long p1), .second, .val (.int p2), .val (.int p3), .val (.int la), .val (.int lb), .val (.int x0), .val (.int x1), .val (.int x2), .val (.int y0), .val (.int y1), .val (.int y2), .val (.ref sa179), .val (.ref sa181), .val (.int (0 : Int32))]) W180.here hx (hb hby at_161) rfl rfl ?_
      refine g_iload (pc' := 165) W180.here hx (hb hby at_163) rfl rfl ?_
      refine g_ifY (pc' := 183) W180.here hx (hb hby at_165) rfl (teq (show (0 : Int32) = (0 : Int32) from (by decide))).1 ?_
      refine g_iload (pc' := 185) W180.here hx (hb hby at_183) rfl rfl ?_
      refine g_ifY (pc' := 203) W180.here hx (hb hby at_185) rfl (teq (show (0 : Int32) = (0 : Int32) from (by decide))).1 ?_
      refine g_iload (pc' := 205) W180.here hx (hb hby at_203) rfl rfl ?_
      refine g_ifY (pc' := 223) W180.here hx (hb hby at_205) rfl (teq (show (0 : Int32) = (0 : Int32) from (by decide))).1 ?_
      refine g_aload (pc' := 225) W180.here hx (hb hby at_223) rfl rfl rfl ?_
      refine g_aload (pc' := 227) W180.here hx (hb hby at_225) rfl rfl rfl ?_
      have c203 := (S179.keep K180 nin0 nin0)
      refine w_callSp (pc' := 230) (st := []) (y := (⟨"com/example/updatable_views/updatableviews/SqlNames", "same", "(Ljava/lang/String;Ljava/lang/String;)Z"⟩ : MethodName)) W180 hx [(.ref sa179), (.ref sa181)] (hw _ (List.mem_of_getElem? w_41)) (hw _ (List.mem_of_getElem? w_42)) (hw _ (List.mem_of_getElem? w_43)) (hw _ (List.mem_of_getElem? w_44)) (by decide) (c_same l Z a0 hw hE cc fm sa179 sb179 sa181 sb181 (mkL la x0 x1 x2) (mkL lb y0 y1 y2) h180 W180.old G GU c203 S181 (by have := own_mkl la x0 x1 x2; omega) (by have := own_mkl lb y0 y1 y2; omega)) (by rw [hml]; rfl) (lenOf pd_20 rfl) rfl (hb hby at_227) (Nat.le_of_ble_eq_true rfl) (Nat.le_of_ble_eq_true rfl) rfl rfl (Nat.le_of_ble_eq_true rfl) (Nat.le_of_ble_eq_true rfl) rfl fun T204 W204 => ?_
      refine g_iload (pc' := 232) W204.here hx (hb hby at_230) rfl rfl ?_
      refine g_icmpN (pc' := 235) W204.here hx (hb hby at_232) rfl (teq (show (sameI (mkL la x0 x1 x2) (mkL lb y0 y1 y2)) = (0 : Int32) from (by clear hla hlb; rcases cla with rfl | rfl | rfl | rfl <;> rcases clb with rfl | rfl | rfl | rfl <;> first | (exact absurd (by decide) hc153_182) | (simp [sameI, mkL]; done)))).2 ?_
      refine g_iconst (1 : Int32) (pc' := 236) W204.here hx (hb hby at_235) rfl rfl ?_
      refine g_goto (pc' := 240) W204.here hx (hb hby at_236) rfl ?_
      refine w_retN (t := .boolean) W204 hx hh hlk hret (by simp) (hb hby at_240) (Nat.le_of_ble_eq_true rfl) (Nat.le_of_ble_eq_true rfl) ?_
      exact rfl
  · refine g_ifN (pc' := 13) W0.here hx (hb hby at_10) rfl (feq hc10_174).1 ?_
    refine g_iload (pc' := 15) W0.here hx (hb hby at_13) rfl rfl ?_
    refine g_goto (pc' := 24) W0.here hx (hb hby at_15) rfl ?_
    obtain ⟨lb, hlb⟩ : ∃ zz_ : Int32, zz_ = la := ⟨_, rfl⟩
    refine g_name (congrArg Value.int hlb) ?_
    have clb : lb = 0 ∨ lb = 1 ∨ lb = 2 ∨ lb = 3 := by rw [hlb]; exact cla
    refine g_istore (pc' := 26) (Ls' := #[.val (.long p0), .second, .val (.long p1), .second, .val (.int p2), .val (.int p3), .val (.int la), .val (.int lb), .unset, .unset, .unset, .unset, .unset, .unset, .unset, .unset, .unset]) W0.here hx (hb hby at_24) rfl rfl ?_
    refine g_lloadN (pc' := 27) W0.here hx (hb hby at_26) rfl rfl ?_
    refine w_ldc2J (pc' := 30) W0 hx (hw _ (List.mem_of_getElem? w_0)) (hb hby at_27) rfl ?_
    refine g_land (pc' := 31) W0.here hx (hb hby at_30) rfl ?_
    refine g_l2i (pc' := 32) W0.here hx (hb hby at_31) rfl ?_
    refine g_i2c (pc' := 33) W0.here hx (hb hby at_32) rfl ?_
    obtain ⟨x0, hx0⟩ : ∃ zz_ : Int32, zz_ = (((p0 &&& (65535 : Int64)).toInt32).toUInt32.toUInt16.toUInt32.toInt32) := ⟨_, rfl⟩
    refine g_name (congrArg Value.int hx0) ?_
    have r_x0 : 0 ≤ x0.toInt ∧ x0.toInt < 65536 := by rw [hx0]; have := c_i2c ((p0 &&& (65535 : Int64)).toInt32); omega
    refine g_istore (pc' := 35) (Ls' := #[.val (.long p0), .second, .val (.long p1), .second, .val (.int p2), .val (.int p3), .val (.int la), .val (.int lb), .val (.int x0), .unset, .unset, .unset, .unset, .unset, .unset, .unset, .unset]) W0.here hx (hb hby at_33) rfl rfl ?_
    refine g_lloadN (pc' := 36) W0.here hx (hb hby at_35) rfl rfl ?_
    refine g_bipush (16 : Int32) (pc' := 38) W0.here hx (hb hby at_36) rfl rfl ?_
    refine g_lushr (pc' := 39) W0.here hx (hb hby at_38) rfl ?_
    refine w_ldc2J (pc' := 42) W0 hx (hw _ (List.mem_of_getElem? w_0)) (hb hby at_39) rfl ?_
    refine g_land (pc' := 43) W0.here hx (hb hby at_42) rfl ?_
    refine g_l2i (pc' := 44) W0.here hx (hb hby at_43) rfl ?_
    refine g_i2c (pc' := 45) W0.here hx (hb hby at_44) rfl ?_
    obtain ⟨x1, hx1⟩ : ∃ zz_ : Int32, zz_ = (((((p0.toUInt64 >>> ((16 : Int32) &&& 0x3f).toInt64.toUInt64).toInt64) &&& (65535 : Int64)).toInt32).toUInt32.toUInt16.toUInt32.toInt32) := ⟨_, rfl⟩
    refine g_name (congrArg Value.int hx1) ?_
    have r_x1 : 0 ≤ x1.toInt ∧ x1.toInt < 65536 := by rw [hx1]; have := c_i2c ((((p0.toUInt64 >>> ((16 : Int32) &&& 0x3f).toInt64.toUInt64).toInt64) &&& (65535 : Int64)).toInt32); omega
    refine g_istore (pc' := 47) (Ls' := #[.val (.long p0), .second, .val (.long p1), .second, .val (.int p2), .val (.int p3), .val (.int la), .val (.int lb), .val (.int x0), .val (.int x1), .unset, .unset, .unset, .unset, .unset, .unset, .unset]) W0.here hx (hb hby at_45) rfl rfl ?_
    refine g_lloadN (pc' := 48) W0.here hx (hb hby at_47) rfl rfl ?_
    refine g_bipush (32 : Int32) (pc' := 50) W0.here hx (hb hby at_48) rfl rfl ?_
    refine g_lushr (pc' := 51) W0.here hx (hb hby at_50) rfl ?_
    refine w_ldc2J (pc' := 54) W0 hx (hw _ (List.mem_of_getElem? w_0)) (hb hby at_51) rfl ?_
    refine g_land (pc' := 55) W0.here hx (hb hby at_54) rfl ?_
    refine g_l2i (pc' := 56) W0.here hx (hb hby at_55) rfl ?_
    refine g_i2c (pc' := 57) W0.here hx (hb hby at_56) rfl ?_
    obtain ⟨x2, hx2⟩ : ∃ zz_ : Int32, zz_ = (((((p0.toUInt64 >>> ((32 : Int32) &&& 0x3f).toInt64.toUInt64).toInt64) &&& (65535 : Int64)).toInt32).toUInt32.toUInt16.toUInt32.toInt32) := ⟨_, rfl⟩
    refine g_name (congrArg Value.int hx2) ?_
    have r_x2 : 0 ≤ x2.toInt ∧ x2.toInt < 65536 := by rw [hx2]; have := c_i2c ((((p0.toUInt64 >>> ((32 : Int32) &&& 0x3f).toInt64.toUInt64).toInt64) &&& (65535 : Int64)).toInt32); omega
    refine g_istore (pc' := 59) (Ls' := #[.val (.long p0), .second, .val (.long p1), .second, .val (.int p2), .val (.int p3), .val (.int la), .val (.int lb), .val (.int x0), .val (.int x1), .val (.int x2), .unset, .unset, .unset, .unset, .unset, .unset]) W0.here hx (hb hby at_57) rfl rfl ?_
    refine g_iload (pc' := 61) W0.here hx (hb hby at_59) rfl rfl ?_
    refine g_iconst (3 : Int32) (pc' := 62) W0.here hx (hb hby at_61) rfl rfl ?_
    refine g_iand (pc' := 63) W0.here hx (hb hby at_62) rfl ?_
    refine g_iload (pc' := 65) W0.here hx (hb hby at_63) rfl rfl ?_
    refine g_lloadN (pc' := 66) W0.here hx (hb hby at_65) rfl rfl ?_
    refine w_ldc2J (pc' := 69) W0 hx (hw _ (List.mem_of_getElem? w_0)) (hb hby at_66) rfl ?_
    refine g_land (pc' := 70) W0.here hx (hb hby at_69) rfl ?_
    refine g_l2i (pc' := 71) W0.here hx (hb hby at_70) rfl ?_
    refine g_i2c (pc' := 72) W0.here hx (hb hby at_71) rfl ?_
    refine w_callS (pc' := 75) (st := []) (y := (⟨"com/example/updatable_views/updatableviews/SqlNamesSamePinLaw", "pick", "(ICC)C"⟩ : MethodName)) W0 hx [(.int (p2 &&& (3 : Int32))), (.int x0), (.int (((p1 &&& (65535 : Int64)).toInt32).toUInt32.toUInt16.toUInt32.toInt32))] (hw _ (List.mem_of_getElem? w_1)) (hw _ (List.mem_of_getElem? w_2)) (hw _ (List.mem_of_getElem? w_3)) (hw _ (List.mem_of_getElem? w_4)) (by decide) (c_pick l Z a0 hw hE (p2 &&& (3 : Int32)) x0 (((p1 &&& (65535 : Int64)).toInt32).toUInt32.toUInt16.toUInt32.toInt32) h0 W0.old) all0 (by rw [hml]; rfl) (lenOf pd_18 rfl) rfl (hb hby at_72) (Nat.le_of_ble_eq_true rfl) (Nat.le_of_ble_eq_true rfl) (Nat.le_of_ble_eq_true rfl) (Nat.le_of_ble_eq_true rfl) rfl fun v205 T205 h205 W205 K205 Q205 => ?_
    have z_K205 : h0.size ≤ h205.size := K205.1
    obtain ⟨y0, rfl, r_y0⟩ := Q205
    refine g_istore (pc' := 77) (Ls' := #[.val (.long p0), .second, .val (.long p1), .second, .val (.int p2), .val (.int p3), .val (.int la), .val (.int lb), .val (.int x0), .val (.int x1), .val (.int x2), .val (.int y0), .unset, .unset, .unset, .unset, .unset]) W205.here hx (hb hby at_75) rfl rfl ?_
    refine g_iload (pc' := 79) W205.here hx (hb hby at_77) rfl rfl ?_
    refine g_iconst (2 : Int32) (pc' := 80) W205.here hx (hb hby at_79) rfl rfl ?_
    refine g_iushr (pc' := 81) W205.here hx (hb hby at_80) rfl ?_
    refine g_iconst (3 : Int32) (pc' := 82) W205.here hx (hb hby at_81) rfl rfl ?_
    refine g_iand (pc' := 83) W205.here hx (hb hby at_82) rfl ?_
    refine g_iload (pc' := 85) W205.here hx (hb hby at_83) rfl rfl ?_
    refine g_lloadN (pc' := 86) W205.here hx (hb hby at_85) rfl rfl ?_
    refine g_bipush (16 : Int32) (pc' := 88) W205.here hx (hb hby at_86) rfl rfl ?_
    refine g_lushr (pc' := 89) W205.here hx (hb hby at_88) rfl ?_
    refine w_ldc2J (pc' := 92) W205 hx (hw _ (List.mem_of_getElem? w_0)) (hb hby at_89) rfl ?_
    refine g_land (pc' := 93) W205.here hx (hb hby at_92) rfl ?_
    refine g_l2i (pc' := 94) W205.here hx (hb hby at_93) rfl ?_
    refine g_i2c (pc' := 95) W205.here hx (hb hby at_94) rfl ?_
    refine w_callS (pc' := 98) (st := []) (y := (⟨"com/example/updatable_views/updatableviews/SqlNamesSamePinLaw", "pick", "(ICC)C"⟩ : MethodName)) W205 hx [(.int (((p2.toUInt32 >>> ((2 : Int32) &&& 31).toUInt32).toInt32) &&& (3 : Int32))), (.int x1), (.int (((((p1.toUInt64 >>> ((16 : Int32) &&& 0x3f).toInt64.toUInt64).toInt64) &&& (65535 : Int64)).toInt32).toUInt32.toUInt16.toUInt32.toInt32))] (hw _ (List.mem_of_getElem? w_1)) (hw _ (List.mem_of_getElem? w_2)) (hw _ (List.mem_of_getElem? w_3)) (hw _ (List.mem_of_getElem? w_4)) (by decide) (c_pick l Z a0 hw hE (((p2.toUInt32 >>> ((2 : Int32) &&& 31).toUInt32).toInt32) &&& (3 : Int32)) x1 (((((p1.toUInt64 >>> ((16 : Int32) &&& 0x3f).toInt64.toUInt64).toInt64) &&& (65535 : Int64)).toInt32).toUInt32.toUInt16.toUInt32.toInt32) h205 W205.old) all0 (by rw [hml]; rfl) (lenOf pd_18 rfl) rfl (hb hby at_95) (Nat.le_of_ble_eq_true rfl) (Nat.le_of_ble_eq_true rfl) (Nat.le_of_ble_eq_true rfl) (Nat.le_of_ble_eq_true rfl) rfl fun v206 T206 h206 W206 K206 Q206 => ?_
    have z_K206 : h205.size ≤ h206.size := K206.1
    obtain ⟨y1, rfl, r_y1⟩ := Q206
    refine g_istore (pc' := 100) (Ls' := #[.val (.long p0), .second, .val (.long p1), .second, .val (.int p2), .val (.int p3), .val (.int la), .val (.int lb), .val (.int x0), .val (.int x1), .val (.int x2), .val (.int y0), .val (.int y1), .unset, .unset, .unset, .unset]) W206.here hx (hb hby at_98) rfl rfl ?_
    refine g_iload (pc' := 102) W206.here hx (hb hby at_100) rfl rfl ?_
    refine g_iconst (4 : Int32) (pc' := 103) W206.here hx (hb hby at_102) rfl rfl ?_
    refine g_iushr (pc' := 104) W206.here hx (hb hby at_103) rfl ?_
    refine g_iconst (3 : Int32) (pc' := 105) W206.here hx (hb hby at_104) rfl rfl ?_
    refine g_iand (pc' := 106) W206.here hx (hb hby at_105) rfl ?_
    refine g_iload (pc' := 108) W206.here hx (hb hby at_106) rfl rfl ?_
    refine g_lloadN (pc' := 109) W206.here hx (hb hby at_108) rfl rfl ?_
    refine g_bipush (32 : Int32) (pc' := 111) W206.here hx (hb hby at_109) rfl rfl ?_
    refine g_lushr (pc' := 112) W206.here hx (hb hby at_111) rfl ?_
    refine w_ldc2J (pc' := 115) W206 hx (hw _ (List.mem_of_getElem? w_0)) (hb hby at_112) rfl ?_
    refine g_land (pc' := 116) W206.here hx (hb hby at_115) rfl ?_
    refine g_l2i (pc' := 117) W206.here hx (hb hby at_116) rfl ?_
    refine g_i2c (pc' := 118) W206.here hx (hb hby at_117) rfl ?_
    refine w_callS (pc' := 121) (st := []) (y := (⟨"com/example/updatable_views/updatableviews/SqlNamesSamePinLaw", "pick", "(ICC)C"⟩ : MethodName)) W206 hx [(.int (((p2.toUInt32 >>> ((4 : Int32) &&& 31).toUInt32).toInt32) &&& (3 : Int32))), (.int x2), (.int (((((p1.toUInt64 >>> ((32 : Int32) &&& 0x3f).toInt64.toUInt64).toInt64) &&& (65535 : Int64)).toInt32).toUInt32.toUInt16.toUInt32.toInt32))] (hw _ (List.mem_of_getElem? w_1)) (hw _ (List.mem_of_getElem? w_2)) (hw _ (List.mem_of_getElem? w_3)) (hw _ (List.mem_of_getElem? w_4)) (by decide) (c_pick l Z a0 hw hE (((p2.toUInt32 >>> ((4 : Int32) &&& 31).toUInt32).toInt32) &&& (3 : Int32)) x2 (((((p1.toUInt64 >>> ((32 : Int32) &&& 0x3f).toInt64.toUInt64).toInt64) &&& (65535 : Int64)).toInt32).toUInt32.toUInt16.toUInt32.toInt32) h206 W206.old) all0 (by rw [hml]; rfl) (lenOf pd_18 rfl) rfl (hb hby at_118) (Nat.le_of_ble_eq_true rfl) (Nat.le_of_ble_eq_true rfl) (Nat.le_of_ble_eq_true rfl) (Nat.le_of_ble_eq_true rfl) rfl fun v207 T207 h207 W207 K207 Q207 => ?_
    have z_K207 : h206.size ≤ h207.size := K207.1
    obtain ⟨y2, rfl, r_y2⟩ := Q207
    refine g_istore (pc' := 123) (Ls' := #[.val (.long p0), .second, .val (.long p1), .second, .val (.int p2), .val (.int p3), .val (.int la), .val (.int lb), .val (.int x0), .val (.int x1), .val (.int x2), .val (.int y0), .val (.int y1), .val (.int y2), .unset, .unset, .unset]) W207.here hx (hb hby at_121) rfl rfl ?_
    refine g_iload (pc' := 125) W207.here hx (hb hby at_123) rfl rfl ?_
    refine g_iload (pc' := 127) W207.here hx (hb hby at_125) rfl rfl ?_
    refine g_iload (pc' := 129) W207.here hx (hb hby at_127) rfl rfl ?_
    refine g_iload (pc' := 131) W207.here hx (hb hby at_129) rfl rfl ?_
    refine w_callS (pc' := 134) (st := []) (y := (⟨"com/example/updatable_views/updatableviews/SqlNamesSamePinLaw", "mk", "(ICCC)Ljava/lang/String;"⟩ : MethodName)) W207 hx [(.int la), (.int x0), (.int x1), (.int x2)] (hw _ (List.mem_of_getElem? w_5)) (hw _ (List.mem_of_getElem? w_6)) (hw _ (List.mem_of_getElem? w_3)) (hw _ (List.mem_of_getElem? w_7)) (by decide) (c_mk l Z a0 hw hE cc fm la x0 x1 x2 h207 W207.old G GU r_x0 r_x1 r_x2) all0 (by rw [hml]; rfl) (lenOf pd_19 rfl) rfl (hb hby at_131) (Nat.le_of_ble_eq_true rfl) (Nat.le_of_ble_eq_true rfl) (Nat.le_of_ble_eq_true rfl) (Nat.le_of_ble_eq_true rfl) rfl fun v208 T208 h208 W208 K208 Q208 => ?_
    have z_K208 : h207.size ≤ h208.size := K208.1
    obtain ⟨sa209, sb209, rfl, S209⟩ := Q208
    have ES209 := S209.exa
    have lt_sa209 : sa209 < h208.size := S209.lt
    have lt_sb209 : sb209 < h208.size := S209.ltb
    refine g_astore (pc' := 136) (Ls' := #[.val (.long p0), .second, .val (.long p1), .second, .val (.int p2), .val (.int p3), .val (.int la), .val (.int lb), .val (.int x0), .val (.int x1), .val (.int x2), .val (.int y0), .val (.int y1), .val (.int y2), .val (.ref sa209), .unset, .unset]) W208.here hx (hb hby at_134) rfl rfl rfl ?_
    refine g_iload (pc' := 138) W208.here hx (hb hby at_136) rfl rfl ?_
    refine g_iload (pc' := 140) W208.here hx (hb hby at_138) rfl rfl ?_
    refine g_iload (pc' := 142) W208.here hx (hb hby at_140) rfl rfl ?_
    refine g_iload (pc' := 144) W208.here hx (hb hby at_142) rfl rfl ?_
    refine w_callS (pc' := 147) (st := []) (y := (⟨"com/example/updatable_views/updatableviews/SqlNamesSamePinLaw", "mk", "(ICCC)Ljava/lang/String;"⟩ : MethodName)) W208 hx [(.int lb), (.int y0), (.int y1), (.int y2)] (hw _ (List.mem_of_getElem? w_5)) (hw _ (List.mem_of_getElem? w_6)) (hw _ (List.mem_of_getElem? w_3)) (hw _ (List.mem_of_getElem? w_7)) (by decide) (c_mk l Z a0 hw hE cc fm lb y0 y1 y2 h208 W208.old G GU r_y0 r_y1 r_y2) all0 (by rw [hml]; rfl) (lenOf pd_19 rfl) rfl (hb hby at_144) (Nat.le_of_ble_eq_true rfl) (Nat.le_of_ble_eq_true rfl) (Nat.le_of_ble_eq_true rfl) (Nat.le_of_ble_eq_true rfl) rfl fun v210 T210 h210 W210 K210 Q210 => ?_
    have z_K210 : h208.size ≤ h210.size := K210.1
    obtain ⟨sa211, sb211, rfl, S211⟩ := Q210
    have ES211 := S211.exa
    have lt_sa211 : sa211 < h210.size := S211.lt
    have lt_sb211 : sb211 < h210.size := S211.ltb
    refine g_astore (pc' := 149) (Ls' := #[.val (.long p0), .second, .val (.long p1), .second, .val (.int p2), .val (.int p3), .val (.int la), .val (.int lb), .val (.int x0), .val (.int x1), .val (.int x2), .val (.int y0), .val (.int y1), .val (.int y2), .val (.ref sa209), .val (.ref sa211), .unset]) W210.here hx (hb hby at_147) rfl rfl rfl ?_
    refine g_iload (pc' := 151) W210.here hx (hb hby at_149) rfl rfl ?_
    refine g_iload (pc' := 153) W210.here hx (hb hby at_151) rfl rfl ?_
    refine g_icmpN (pc' := 156) W210.here hx (hb hby at_153) rfl (teq (show la = lb from hlb.symm)).2 ?_
    refine g_iconst (1 : Int32) (pc' := 157) W210.here hx (hb hby at_156) rfl rfl ?_
    refine g_goto (pc' := 161) W210.here hx (hb hby at_157) rfl ?_
    refine g_istore (pc' := 163) (Ls' := #[.val (.long p0), .second, .val (.long p1), .second, .val (.int p2), .val (.int p3), .val (.int la), .val (.int lb), .val (.int x0), .val (.int x1), .val (.int x2), .val (.int y0), .val (.int y1), .val (.int y2), .val (.ref sa209), .val (.ref sa211), .val (.int (1 : Int32))]) W210.here hx (hb hby at_161) rfl rfl ?_
    refine g_iload (pc' := 165) W210.here hx (hb hby at_163) rfl rfl ?_
    refine g_ifN (pc' := 168) W210.here hx (hb hby at_165) rfl (feq (show ¬ ((1 : Int32) = (0 : Int32)) from (by decide))).1 ?_
    refine g_iload (pc' := 170) W210.here hx (hb hby at_168) rfl rfl ?_
    refine g_iconst (1 : Int32) (pc' := 171) W210.here hx (hb hby at_170) rfl rfl ?_
    by_cases hc171_212 : la < (1 : Int32)
    · refine g_icmpY (pc' := 183) W210.here hx (hb hby at_171) rfl (tlt hc171_212).1 ?_
      refine g_iload (pc' := 185) W210.here hx (hb hby at_183) rfl rfl ?_
      refine g_ifN (pc' := 188) W210.here hx (hb hby at_185) rfl (feq (show ¬ ((1 : Int32) = (0 : Int32)) from (by decide))).1 ?_
      refine g_iload (pc' := 190) W210.here hx (hb hby at_188) rfl rfl ?_
      refine g_iconst (2 : Int32) (pc' := 191) W210.here hx (hb hby at_190) rfl rfl ?_
      refine g_icmpY (pc' := 203) W210.here hx (hb hby at_191) rfl (tlt (show la < (2 : Int32) from (Int32.lt_trans hc171_212 (by decide)))).1 ?_
      refine g_iload (pc' := 205) W210.here hx (hb hby at_203) rfl rfl ?_
      refine g_ifN (pc' := 208) W210.here hx (hb hby at_205) rfl (feq (show ¬ ((1 : Int32) = (0 : Int32)) from (by decide))).1 ?_
      refine g_iload (pc' := 210) W210.here hx (hb hby at_208) rfl rfl ?_
      refine g_iconst (3 : Int32) (pc' := 211) W210.here hx (hb hby at_210) rfl rfl ?_
      refine g_icmpY (pc' := 223) W210.here hx (hb hby at_211) rfl (tlt (show la < (3 : Int32) from (Int32.lt_trans hc171_212 (by decide)))).1 ?_
      refine g_aload (pc' := 225) W210.here hx (hb hby at_223) rfl rfl rfl ?_
      refine g_aload (pc' := 227) W210.here hx (hb hby at_225) rfl rfl rfl ?_
      have c213 := (S209.keep K210 nin0 nin0)
      refine w_callSp (pc' := 230) (st := []) (y := (⟨"com/example/updatable_views/updatableviews/SqlNames", "same", "(Ljava/lang/String;Ljava/lang/String;)Z"⟩ : MethodName)) W210 hx [(.ref sa209), (.ref sa211)] (hw _ (List.mem_of_getElem? w_41)) (hw _ (List.mem_of_getElem? w_42)) (hw _ (List.mem_of_getElem? w_43)) (hw _ (List.mem_of_getElem? w_44)) (by decide) (c_same l Z a0 hw hE cc fm sa209 sb209 sa211 sb211 (mkL la x0 x1 x2) (mkL lb y0 y1 y2) h210 W210.old G GU c213 S211 (by have := own_mkl la x0 x1 x2; omega) (by have := own_mkl lb y0 y1 y2; omega)) (by rw [hml]; rfl) (lenOf pd_20 rfl) rfl (hb hby at_227) (Nat.le_of_ble_eq_true rfl) (Nat.le_of_ble_eq_true rfl) rfl rfl (Nat.le_of_ble_eq_true rfl) (Nat.le_of_ble_eq_true rfl) rfl fun T214 W214 => ?_
      refine g_iload (pc' := 232) W214.here hx (hb hby at_230) rfl rfl ?_
      refine g_icmpN (pc' := 235) W214.here hx (hb hby at_232) rfl (teq (show (sameI (mkL la x0 x1 x2) (mkL lb y0 y1 y2)) = (1 : Int32) from (by clear hla; rcases cla with rfl | rfl | rfl | rfl <;> rcases clb with rfl | rfl | rfl | rfl <;> first | (exact absurd hc171_212 (by decide)) | (exact absurd hlb (by decide)) | (simp [sameI, mkL]; done)))).2 ?_
      refine g_iconst (1 : Int32) (pc' := 236) W214.here hx (hb hby at_235) rfl rfl ?_
      refine g_goto (pc' := 240) W214.here hx (hb hby at_236) rfl ?_
      refine w_retN (t := .boolean) W214 hx hh hlk hret (by simp) (hb hby at_240) (Nat.le_of_ble_eq_true rfl) (Nat.le_of_ble_eq_true rfl) ?_
      exact rfl
    · refine g_icmpN (pc' := 174) W210.here hx (hb hby at_171) rfl (flt hc171_212).1 ?_
      refine g_iload (pc' := 176) W210.here hx (hb hby at_174) rfl rfl ?_
      refine g_iload (pc' := 178) W210.here hx (hb hby at_176) rfl rfl ?_
      refine w_callSp (pc' := 181) (st := []) (y := (⟨"com/example/updatable_views/updatableviews/SqlNamesSamePinLaw", "eq", "(CC)Z"⟩ : MethodName)) W210 hx [(.int x0), (.int y0)] (hw _ (List.mem_of_getElem? w_74)) (hw _ (List.mem_of_getElem? w_75)) (hw _ (List.mem_of_getElem? w_3)) (hw _ (List.mem_of_getElem? w_76)) (by decide) (c_eq l Z a0 hw hE x0 y0 h210 W210.old r_x0 r_y0) (by rw [hml]; rfl) (lenOf pd_21 rfl) rfl (hb hby at_178) (Nat.le_of_ble_eq_true rfl) (Nat.le_of_ble_eq_true rfl) rfl rfl (Nat.le_of_ble_eq_true rfl) (Nat.le_of_ble_eq_true rfl) rfl fun T215 W215 => ?_
      by_cases hq0 : lowI x0 = lowI y0
      · refine g_name (w := .int (1 : Int32)) (congrArg Value.int (by rw [eqI, if_pos hq0])) ?_
        refine g_istore (pc' := 183) (Ls' := #[.val (.long p0), .second, .val (.long p1), .second, .val (.int p2), .val (.int p3), .val (.int la), .val (.int lb), .val (.int x0), .val (.int x1), .val (.int x2), .val (.int y0), .val (.int y1), .val (.int y2), .val (.ref sa209), .val (.ref sa211), .val (.int (1 : Int32))]) W215.here hx (hb hby at_181) rfl rfl ?_
        refine g_iload (pc' := 185) W215.here hx (hb hby at_183) rfl rfl ?_
        refine g_ifN (pc' := 188) W215.here hx (hb hby at_185) rfl (feq (show ¬ ((1 : Int32) = (0 : Int32)) from (by decide))).1 ?_
        refine g_iload (pc' := 190) W215.here hx (hb hby at_188) rfl rfl ?_
        refine g_iconst (2 : Int32) (pc' := 191) W215.here hx (hb hby at_190) rfl rfl ?_
        by_cases hc191_216 : la < (2 : Int32)
        · refine g_icmpY (pc' := 203) W215.here hx (hb hby at_191) rfl (tlt hc191_216).1 ?_
          refine g_iload (pc' := 205) W215.here hx (hb hby at_203) rfl rfl ?_
          refine g_ifN (pc' := 208) W215.here hx (hb hby at_205) rfl (feq (show ¬ ((1 : Int32) = (0 : Int32)) from (by decide))).1 ?_
          refine g_iload (pc' := 210) W215.here hx (hb hby at_208) rfl rfl ?_
          refine g_iconst (3 : Int32) (pc' := 211) W215.here hx (hb hby at_210) rfl rfl ?_
          refine g_icmpY (pc' := 223) W215.here hx (hb hby at_211) rfl (tlt (show la < (3 : Int32) from (Int32.lt_trans hc191_216 (by decide)))).1 ?_
          refine g_aload (pc' := 225) W215.here hx (hb hby at_223) rfl rfl rfl ?_
          refine g_aload (pc' := 227) W215.here hx (hb hby at_225) rfl rfl rfl ?_
          have c217 := (S209.keep K210 nin0 nin0)
          refine w_callSp (pc' := 230) (st := []) (y := (⟨"com/example/updatable_views/updatableviews/SqlNames", "same", "(Ljava/lang/String;Ljava/lang/String;)Z"⟩ : MethodName)) W215 hx [(.ref sa209), (.ref sa211)] (hw _ (List.mem_of_getElem? w_41)) (hw _ (List.mem_of_getElem? w_42)) (hw _ (List.mem_of_getElem? w_43)) (hw _ (List.mem_of_getElem? w_44)) (by decide) (c_same l Z a0 hw hE cc fm sa209 sb209 sa211 sb211 (mkL la x0 x1 x2) (mkL lb y0 y1 y2) h210 W215.old G GU c217 S211 (by have := own_mkl la x0 x1 x2; omega) (by have := own_mkl lb y0 y1 y2; omega)) (by rw [hml]; rfl) (lenOf pd_20 rfl) rfl (hb hby at_227) (Nat.le_of_ble_eq_true rfl) (Nat.le_of_ble_eq_true rfl) rfl rfl (Nat.le_of_ble_eq_true rfl) (Nat.le_of_ble_eq_true rfl) rfl fun T218 W218 => ?_
          refine g_iload (pc' := 232) W218.here hx (hb hby at_230) rfl rfl ?_
          refine g_icmpN (pc' := 235) W218.here hx (hb hby at_232) rfl (teq (show (sameI (mkL la x0 x1 x2) (mkL lb y0 y1 y2)) = (1 : Int32) from (by clear hla; rcases cla with rfl | rfl | rfl | rfl <;> rcases clb with rfl | rfl | rfl | rfl <;> first | (exact absurd (by decide) hc171_212) | (exact absurd hc191_216 (by decide)) | (exact absurd hlb (by decide)) | (simp [sameI, mkL, hq0]; done)))).2 ?_
          refine g_iconst (1 : Int32) (pc' := 236) W218.here hx (hb hby at_235) rfl rfl ?_
          refine g_goto (pc' := 240) W218.here hx (hb hby at_236) rfl ?_
          refine w_retN (t := .boolean) W218 hx hh hlk hret (by simp) (hb hby at_240) (Nat.le_of_ble_eq_true rfl) (Nat.le_of_ble_eq_true rfl) ?_
          exact rfl
        · refine g_icmpN (pc' := 194) W215.here hx (hb hby at_191) rfl (flt hc191_216).1 ?_
          refine g_iload (pc' := 196) W215.here hx (hb hby at_194) rfl rfl ?_
          refine g_iload (pc' := 198) W215.here hx (hb hby at_196) rfl rfl ?_
          refine w_callSp (pc' := 201) (st := []) (y := (⟨"com/example/updatable_views/updatableviews/SqlNamesSamePinLaw", "eq", "(CC)Z"⟩ : MethodName)) W215 hx [(.int x1), (.int y1)] (hw _ (List.mem_of_getElem? w_74)) (hw _ (List.mem_of_getElem? w_75)) (hw _ (List.mem_of_getElem? w_3)) (hw _ (List.mem_of_getElem? w_76)) (by decide) (c_eq l Z a0 hw hE x1 y1 h210 W215.old r_x1 r_y1) (by rw [hml]; rfl) (lenOf pd_21 rfl) rfl (hb hby at_198) (Nat.le_of_ble_eq_true rfl) (Nat.le_of_ble_eq_true rfl) rfl rfl (Nat.le_of_ble_eq_true rfl) (Nat.le_of_ble_eq_true rfl) rfl fun T219 W219 => ?_
          by_cases hq1 : lowI x1 = lowI y1
          · refine g_name (w := .int (1 : Int32)) (congrArg Value.int (by rw [eqI, if_pos hq1])) ?_
            refine g_istore (pc' := 203) (Ls' := #[.val (.long p0), .second, .val (.long p1), .second, .val (.int p2), .val (.int p3), .val (.int la), .val (.int lb), .val (.int x0), .val (.int x1), .val (.int x2), .val (.int y0), .val (.int y1), .val (.int y2), .val (.ref sa209), .val (.ref sa211), .val (.int (1 : Int32))]) W219.here hx (hb hby at_201) rfl rfl ?_
            refine g_iload (pc' := 205) W219.here hx (hb hby at_203) rfl rfl ?_
            refine g_ifN (pc' := 208) W219.here hx (hb hby at_205) rfl (feq (show ¬ ((1 : Int32) = (0 : Int32)) from (by decide))).1 ?_
            refine g_iload (pc' := 210) W219.here hx (hb hby at_208) rfl rfl ?_
            refine g_iconst (3 : Int32) (pc' := 211) W219.here hx (hb hby at_210) rfl rfl ?_
            by_cases hc211_220 : la < (3 : Int32)
            · refine g_icmpY (pc' := 223) W219.here hx (hb hby at_211) rfl (tlt hc211_220).1 ?_
              refine g_aload (pc' := 225) W219.here hx (hb hby at_223) rfl rfl rfl ?_
              refine g_aload (pc' := 227) W219.here hx (hb hby at_225) rfl rfl rfl ?_
              have c221 := (S209.keep K210 nin0 nin0)
              refine w_callSp (pc' := 230) (st := []) (y := (⟨"com/example/updatable_views/updatableviews/SqlNames", "same", "(Ljava/lang/String;Ljava/lang/String;)Z"⟩ : MethodName)) W219 hx [(.ref sa209), (.ref sa211)] (hw _ (List.mem_of_getElem? w_41)) (hw _ (List.mem_of_getElem? w_42)) (hw _ (List.mem_of_getElem? w_43)) (hw _ (List.mem_of_getElem? w_44)) (by decide) (c_same l Z a0 hw hE cc fm sa209 sb209 sa211 sb211 (mkL la x0 x1 x2) (mkL lb y0 y1 y2) h210 W219.old G GU c221 S211 (by have := own_mkl la x0 x1 x2; omega) (by have := own_mkl lb y0 y1 y2; omega)) (by rw [hml]; rfl) (lenOf pd_20 rfl) rfl (hb hby at_227) (Nat.le_of_ble_eq_true rfl) (Nat.le_of_ble_eq_true rfl) rfl rfl (Nat.le_of_ble_eq_true rfl) (Nat.le_of_ble_eq_true rfl) rfl fun T222 W222 => ?_
              refine g_iload (pc' := 232) W222.here hx (hb hby at_230) rfl rfl ?_
              refine g_icmpN (pc' := 235) W222.here hx (hb hby at_232) rfl (teq (show (sameI (mkL la x0 x1 x2) (mkL lb y0 y1 y2)) = (1 : Int32) from (by clear hla; rcases cla with rfl | rfl | rfl | rfl <;> rcases clb with rfl | rfl | rfl | rfl <;> first | (exact absurd (by decide) hc171_212) | (exact absurd (by decide) hc191_216) | (exact absurd hc211_220 (by decide)) | (exact absurd hlb (by decide)) | (simp [sameI, mkL, hq0, hq1]; done)))).2 ?_
              refine g_iconst (1 : Int32) (pc' := 236) W222.here hx (hb hby at_235) rfl rfl ?_
              refine g_goto (pc' := 240) W222.here hx (hb hby at_236) rfl ?_
              refine w_retN (t := .boolean) W222 hx hh hlk hret (by simp) (hb hby at_240) (Nat.le_of_ble_eq_true rfl) (Nat.le_of_ble_eq_true rfl) ?_
              exact rfl
            · refine g_icmpN (pc' := 214) W219.here hx (hb hby at_211) rfl (flt hc211_220).1 ?_
              refine g_iload (pc' := 216) W219.here hx (hb hby at_214) rfl rfl ?_
              refine g_iload (pc' := 218) W219.here hx (hb hby at_216) rfl rfl ?_
              refine w_callSp (pc' := 221) (st := []) (y := (⟨"com/example/updatable_views/updatableviews/SqlNamesSamePinLaw", "eq", "(CC)Z"⟩ : MethodName)) W219 hx [(.int x2), (.int y2)] (hw _ (List.mem_of_getElem? w_74)) (hw _ (List.mem_of_getElem? w_75)) (hw _ (List.mem_of_getElem? w_3)) (hw _ (List.mem_of_getElem? w_76)) (by decide) (c_eq l Z a0 hw hE x2 y2 h210 W219.old r_x2 r_y2) (by rw [hml]; rfl) (lenOf pd_21 rfl) rfl (hb hby at_218) (Nat.le_of_ble_eq_true rfl) (Nat.le_of_ble_eq_true rfl) rfl rfl (Nat.le_of_ble_eq_true rfl) (Nat.le_of_ble_eq_true rfl) rfl fun T223 W223 => ?_
              by_cases hq2 : lowI x2 = lowI y2
              · refine g_name (w := .int (1 : Int32)) (congrArg Value.int (by rw [eqI, if_pos hq2])) ?_
                refine g_istore (pc' := 223) (Ls' := #[.val (.long p0), .second, .val (.long p1), .second, .val (.int p2), .val (.int p3), .val (.int la), .val (.int lb), .val (.int x0), .val (.int x1), .val (.int x2), .val (.int y0), .val (.int y1), .val (.int y2), .val (.ref sa209), .val (.ref sa211), .val (.int (1 : Int32))]) W223.here hx (hb hby at_221) rfl rfl ?_
                refine g_aload (pc' := 225) W223.here hx (hb hby at_223) rfl rfl rfl ?_
                refine g_aload (pc' := 227) W223.here hx (hb hby at_225) rfl rfl rfl ?_
                have c224 := (S209.keep K210 nin0 nin0)
                refine w_callSp (pc' := 230) (st := []) (y := (⟨"com/example/updatable_views/updatableviews/SqlNames", "same", "(Ljava/lang/String;Ljava/lang/String;)Z"⟩ : MethodName)) W223 hx [(.ref sa209), (.ref sa211)] (hw _ (List.mem_of_getElem? w_41)) (hw _ (List.mem_of_getElem? w_42)) (hw _ (List.mem_of_getElem? w_43)) (hw _ (List.mem_of_getElem? w_44)) (by decide) (c_same l Z a0 hw hE cc fm sa209 sb209 sa211 sb211 (mkL la x0 x1 x2) (mkL lb y0 y1 y2) h210 W223.old G GU c224 S211 (by have := own_mkl la x0 x1 x2; omega) (by have := own_mkl lb y0 y1 y2; omega)) (by rw [hml]; rfl) (lenOf pd_20 rfl) rfl (hb hby at_227) (Nat.le_of_ble_eq_true rfl) (Nat.le_of_ble_eq_true rfl) rfl rfl (Nat.le_of_ble_eq_true rfl) (Nat.le_of_ble_eq_true rfl) rfl fun T225 W225 => ?_
                refine g_iload (pc' := 232) W225.here hx (hb hby at_230) rfl rfl ?_
                refine g_icmpN (pc' := 235) W225.here hx (hb hby at_232) rfl (teq (show (sameI (mkL la x0 x1 x2) (mkL lb y0 y1 y2)) = (1 : Int32) from (by clear hla; rcases cla with rfl | rfl | rfl | rfl <;> rcases clb with rfl | rfl | rfl | rfl <;> first | (exact absurd (by decide) hc171_212) | (exact absurd (by decide) hc191_216) | (exact absurd (by decide) hc211_220) | (exact absurd hlb (by decide)) | (simp [sameI, mkL, hq0, hq1, hq2]; done)))).2 ?_
                refine g_iconst (1 : Int32) (pc' := 236) W225.here hx (hb hby at_235) rfl rfl ?_
                refine g_goto (pc' := 240) W225.here hx (hb hby at_236) rfl ?_
                refine w_retN (t := .boolean) W225 hx hh hlk hret (by simp) (hb hby at_240) (Nat.le_of_ble_eq_true rfl) (Nat.le_of_ble_eq_true rfl) ?_
                exact rfl
              · refine g_name (w := .int (0 : Int32)) (congrArg Value.int (by rw [eqI, if_neg hq2])) ?_
                refine g_istore (pc' := 223) (Ls' := #[.val (.long p0), .second, .val (.long p1), .second, .val (.int p2), .val (.int p3), .val (.int la), .val (.int lb), .val (.int x0), .val (.int x1), .val (.int x2), .val (.int y0), .val (.int y1), .val (.int y2), .val (.ref sa209), .val (.ref sa211), .val (.int (0 : Int32))]) W223.here hx (hb hby at_221) rfl rfl ?_
                refine g_aload (pc' := 225) W223.here hx (hb hby at_223) rfl rfl rfl ?_
                refine g_aload (pc' := 227) W223.here hx (hb hby at_225) rfl rfl rfl ?_
                have c226 := (S209.keep K210 nin0 nin0)
                refine w_callSp (pc' := 230) (st := []) (y := (⟨"com/example/updatable_views/updatableviews/SqlNames", "same", "(Ljava/lang/String;Ljava/lang/String;)Z"⟩ : MethodName)) W223 hx [(.ref sa209), (.ref sa211)] (hw _ (List.mem_of_getElem? w_41)) (hw _ (List.mem_of_getElem? w_42)) (hw _ (List.mem_of_getElem? w_43)) (hw _ (List.mem_of_getElem? w_44)) (by decide) (c_same l Z a0 hw hE cc fm sa209 sb209 sa211 sb211 (mkL la x0 x1 x2) (mkL lb y0 y1 y2) h210 W223.old G GU c226 S211 (by have := own_mkl la x0 x1 x2; omega) (by have := own_mkl lb y0 y1 y2; omega)) (by rw [hml]; rfl) (lenOf pd_20 rfl) rfl (hb hby at_227) (Nat.le_of_ble_eq_true rfl) (Nat.le_of_ble_eq_true rfl) rfl rfl (Nat.le_of_ble_eq_true rfl) (Nat.le_of_ble_eq_true rfl) rfl fun T227 W227 => ?_
                refine g_iload (pc' := 232) W227.here hx (hb hby at_230) rfl rfl ?_
                refine g_icmpN (pc' := 235) W227.here hx (hb hby at_232) rfl (teq (show (sameI (mkL la x0 x1 x2) (mkL lb y0 y1 y2)) = (0 : Int32) from (by clear hla; rcases cla with rfl | rfl | rfl | rfl <;> rcases clb with rfl | rfl | rfl | rfl <;> first | (exact absurd (by decide) hc171_212) | (exact absurd (by decide) hc191_216) | (exact absurd (by decide) hc211_220) | (exact absurd hlb (by decide)) | (simp [sameI, mkL, hq0, hq1, hq2]; done)))).2 ?_
                refine g_iconst (1 : Int32) (pc' := 236) W227.here hx (hb hby at_235) rfl rfl ?_
                refine g_goto (pc' := 240) W227.here hx (hb hby at_236) rfl ?_
                refine w_retN (t := .boolean) W227 hx hh hlk hret (by simp) (hb hby at_240) (Nat.le_of_ble_eq_true rfl) (Nat.le_of_ble_eq_true rfl) ?_
                exact rfl
          · refine g_name (w := .int (0 : Int32)) (congrArg Value.int (by rw [eqI, if_neg hq1])) ?_
            refine g_istore (pc' := 203) (Ls' := #[.val (.long p0), .second, .val (.long p1), .second, .val (.int p2), .val (.int p3), .val (.int la), .val (.int lb), .val (.int x0), .val (.int x1), .val (.int x2), .val (.int y0), .val (.int y1), .val (.int y2), .val (.ref sa209), .val (.ref sa211), .val (.int (0 : Int32))]) W219.here hx (hb hby at_201) rfl rfl ?_
            refine g_iload (pc' := 205) W219.here hx (hb hby at_203) rfl rfl ?_
            refine g_ifY (pc' := 223) W219.here hx (hb hby at_205) rfl (teq (show (0 : Int32) = (0 : Int32) from (by decide))).1 ?_
            refine g_aload (pc' := 225) W219.here hx (hb hby at_223) rfl rfl rfl ?_
            refine g_aload (pc' := 227) W219.here hx (hb hby at_225) rfl rfl rfl ?_
            have c228 := (S209.keep K210 nin0 nin0)
            refine w_callSp (pc' := 230) (st := []) (y := (⟨"com/example/updatable_views/updatableviews/SqlNames", "same", "(Ljava/lang/String;Ljava/lang/String;)Z"⟩ : MethodName)) W219 hx [(.ref sa209), (.ref sa211)] (hw _ (List.mem_of_getElem? w_41)) (hw _ (List.mem_of_getElem? w_42)) (hw _ (List.mem_of_getElem? w_43)) (hw _ (List.mem_of_getElem? w_44)) (by decide) (c_same l Z a0 hw hE cc fm sa209 sb209 sa211 sb211 (mkL la x0 x1 x2) (mkL lb y0 y1 y2) h210 W219.old G GU c228 S211 (by have := own_mkl la x0 x1 x2; omega) (by have := own_mkl lb y0 y1 y2; omega)) (by rw [hml]; rfl) (lenOf pd_20 rfl) rfl (hb hby at_227) (Nat.le_of_ble_eq_true rfl) (Nat.le_of_ble_eq_true rfl) rfl rfl (Nat.le_of_ble_eq_true rfl) (Nat.le_of_ble_eq_true rfl) rfl fun T229 W229 => ?_
            refine g_iload (pc' := 232) W229.here hx (hb hby at_230) rfl rfl ?_
            refine g_icmpN (pc' := 235) W229.here hx (hb hby at_232) rfl (teq (show (sameI (mkL la x0 x1 x2) (mkL lb y0 y1 y2)) = (0 : Int32) from (by clear hla; rcases cla with rfl | rfl | rfl | rfl <;> rcases clb with rfl | rfl | rfl | rfl <;> first | (exact absurd (by decide) hc171_212) | (exact absurd (by decide) hc191_216) | (exact absurd hlb (by decide)) | (simp [sameI, mkL, hq0, hq1]; done)))).2 ?_
            refine g_iconst (1 : Int32) (pc' := 236) W229.here hx (hb hby at_235) rfl rfl ?_
            refine g_goto (pc' := 240) W229.here hx (hb hby at_236) rfl ?_
            refine w_retN (t := .boolean) W229 hx hh hlk hret (by simp) (hb hby at_240) (Nat.le_of_ble_eq_true rfl) (Nat.le_of_ble_eq_true rfl) ?_
            exact rfl
      · refine g_name (w := .int (0 : Int32)) (congrArg Value.int (by rw [eqI, if_neg hq0])) ?_
        refine g_istore (pc' := 183) (Ls' := #[.val (.long p0), .second, .val (.long p1), .second, .val (.int p2), .val (.int p3), .val (.int la), .val (.int lb), .val (.int x0), .val (.int x1), .val (.int x2), .val (.int y0), .val (.int y1), .val (.int y2), .val (.ref sa209), .val (.ref sa211), .val (.int (0 : Int32))]) W215.here hx (hb hby at_181) rfl rfl ?_
        refine g_iload (pc' := 185) W215.here hx (hb hby at_183) rfl rfl ?_
        refine g_ifY (pc' := 203) W215.here hx (hb hby at_185) rfl (teq (show (0 : Int32) = (0 : Int32) from (by decide))).1 ?_
        refine g_iload (pc' := 205) W215.here hx (hb hby at_203) rfl rfl ?_
        refine g_ifY (pc' := 223) W215.here hx (hb hby at_205) rfl (teq (show (0 : Int32) = (0 : Int32) from (by decide))).1 ?_
        refine g_aload (pc' := 225) W215.here hx (hb hby at_223) rfl rfl rfl ?_
        refine g_aload (pc' := 227) W215.here hx (hb hby at_225) rfl rfl rfl ?_
        have c230 := (S209.keep K210 nin0 nin0)
        refine w_callSp (pc' := 230) (st := []) (y := (⟨"com/example/updatable_views/updatableviews/SqlNames", "same", "(Ljava/lang/String;Ljava/lang/String;)Z"⟩ : MethodName)) W215 hx [(.ref sa209), (.ref sa211)] (hw _ (List.mem_of_getElem? w_41)) (hw _ (List.mem_of_getElem? w_42)) (hw _ (List.mem_of_getElem? w_43)) (hw _ (List.mem_of_getElem? w_44)) (by decide) (c_same l Z a0 hw hE cc fm sa209 sb209 sa211 sb211 (mkL la x0 x1 x2) (mkL lb y0 y1 y2) h210 W215.old G GU c230 S211 (by have := own_mkl la x0 x1 x2; omega) (by have := own_mkl lb y0 y1 y2; omega)) (by rw [hml]; rfl) (lenOf pd_20 rfl) rfl (hb hby at_227) (Nat.le_of_ble_eq_true rfl) (Nat.le_of_ble_eq_true rfl) rfl rfl (Nat.le_of_ble_eq_true rfl) (Nat.le_of_ble_eq_true rfl) rfl fun T231 W231 => ?_
        refine g_iload (pc' := 232) W231.here hx (hb hby at_230) rfl rfl ?_
        refine g_icmpN (pc' := 235) W231.here hx (hb hby at_232) rfl (teq (show (sameI (mkL la x0 x1 x2) (mkL lb y0 y1 y2)) = (0 : Int32) from (by clear hla; rcases cla with rfl | rfl | rfl | rfl <;> rcases clb with rfl | rfl | rfl | rfl <;> first | (exact absurd (by decide) hc171_212) | (exact absurd hlb (by decide)) | (simp [sameI, mkL, hq0]; done)))).2 ?_
        refine g_iconst (1 : Int32) (pc' := 236) W231.here hx (hb hby at_235) rfl rfl ?_
        refine g_goto (pc' := 240) W231.here hx (hb hby at_236) rfl ?_
        refine w_retN (t := .boolean) W231 hx hh hlk hret (by simp) (hb hby at_240) (Nat.le_of_ble_eq_true rfl) (Nat.le_of_ble_eq_true rfl) ?_
        exact rfl
set_option maxRecDepth 65536 in
set_option maxHeartbeats 40000000 in
theorem comes_1 {Post : Tables → Env → Array Value → State → Outcome → State → Prop} (hpost : ∀ tb e args s v u, (limb_1_1.after args s (.returned v) u = true ∧ limb_1_2.after args s (.returned v) u = true ∧ True) → ReturnedEndW s (.returned v) u (Jvm.fieldLocs frame_1_writes args s ++ Jvm.arrayLocs frame_1_arrays args s ++ Jvm.staticLocs frame_1_statics s) 32 1216 → Post tb e args s (.returned v) u) :
    ArmFor flags0 classFile x code maxLocals ret World_1 tables_1 room_1 Calls_1 rest_1 Pre_1 Post := by
  intro l hfl _ _ p e ha hc hk s m args below hf hA hF happ hP
  obtain ⟨hcalls, hrest, hpre⟩ := hP
  obtain ⟨-, -, -, hnamed, -, -, -, hat⟩ := (Spec.applies_iff hf).mp happ
  obtain ⟨hg, hn⟩ := and_e (Cond.before_iff.mp (show (Jvm.Cond.and given_1 narrow_1).before args s = true from hpre))
  obtain ⟨hg0, hg⟩ := and_e hg
  obtain ⟨w0, w1, w2, w3, rfl⟩ : ∃ w0 w1 w2 w3 : Value, args = #[w0, w1, w2, w3] := by
    have hs : args.size = 4 := by simpa [Cond.value, given_1] using hg0
    obtain ⟨L⟩ := args
    match L, hs with
    | [w0, w1, w2, w3], _ => exact ⟨w0, w1, w2, w3, rfl⟩
  have hw := fun d (hd : d ∈ tables_1) => atoms_spec (ws := Jvm.Cond.code x code maxLocals ret :: tables_1) hat d (List.mem_cons_of_mem _ hd)
  have hfit : Fit s := fun {y c} hc i hi => by
    obtain ⟨ha, rfl⟩ := Array.getElem?_eq_some_iff.mp hc
    have q := List.all_eq_true.mp ((Array.all_eq_true_iff_forall_mem.mp hF) _ (Array.getElem_mem ha)) i (List.mem_range.mpr hi)
    simpa [Array.getElem?_eq_getElem hi] using q
  obtain ⟨hg1, hg⟩ := and_e hg
  obtain ⟨p0, ep0⟩ := isL_v hg1
  obtain rfl : w0 = (.long p0) := Option.some.inj ep0
  obtain ⟨hg2, hg⟩ := and_e hg
  obtain ⟨p1, ep1⟩ := isL_v hg2
  obtain rfl : w1 = (.long p1) := Option.some.inj ep1
  obtain ⟨hg3, hg⟩ := and_e hg
  obtain ⟨p2, ep2⟩ := is_v hg3
  obtain rfl : w2 = (.int p2) := Option.some.inj ep2
  have hg4 := hg
  obtain ⟨p3, ep3⟩ := is_v hg4
  obtain rfl : w3 = (.int p3) := Option.some.inj ep3
  have n1 := hn
  have hsets := (atoms_of jdkStatics_1 (show (jdkStatics_1.foldr Cond.and restOwn_1).before _ s = true by rw [← rest_1_c_eq]; exact hrest)).1
  have hheld : ∀ p ∈ consts_1, Jvm.Lit.constHeld s p.1 p.2 := hcalls.1
  obtain ⟨cc, ecc⟩ := is_v (Cond.before_iff.mp (hsets _ (List.mem_of_getElem? (i := 1) rfl)))
  have hcc : ¬ cc = 0 := fun q => by
    have q1 := not_v (Cond.before_iff.mp (hsets _ (List.mem_of_getElem? (i := 2) rfl)))
    exact absurd q (gotF (Cond.eq_ints ecc (Term.int_eval 0)) q1)
  obtain ⟨fm, efm, hfm⟩ := isR_v (Cond.before_iff.mp (hsets _ (List.mem_of_getElem? (i := 8) rfl)))
  have hG : SEnv s cc fm := ⟨Sta.start ecc (Or.inl (hsets _ (List.mem_of_getElem? (i := 0) rfl))), hcc, Sta.start efm (Or.inl (hsets _ (List.mem_of_getElem? (i := 7) rfl))), hfm⟩
  have hEW : EW s _ consts_1 := (EW.cons (hw _ (List.mem_of_getElem? w_38)) (by decide) EW.nil)
  have hCH : CHv s consts_1 s.vm s.heap := CHv.start hEW hheld (a0 := _) (hsets _ (List.mem_of_getElem? (i := 2) rfl)) (hw _ (List.mem_of_getElem? w_27)) (hw _ (List.mem_of_getElem? w_9))
  have hU__assertionsDisabled : Sta s s.heap "java/lang/StringUTF16" "$assertionsDisabled" "Z" (.int 1) := Sta.start (eqv_i (Z := s) (F := Jvm.Term.int (1 : Int32)) (y := 1) rfl (Cond.before_iff.mp (hsets _ (List.mem_of_getElem? (i := 12) rfl)))) (Or.inl (hsets _ (List.mem_of_getElem? (i := 11) rfl)))
  have hU_HI_BYTE_SHIFT : Sta s s.heap "java/lang/StringUTF16" "HI_BYTE_SHIFT" "I" (.int 0) := Sta.start (eqv_i (Z := s) (F := Jvm.Term.int (0 : Int32)) (y := 0) rfl (Cond.before_iff.mp (hsets _ (List.mem_of_getElem? (i := 15) rfl)))) (Or.inl (hsets _ (List.mem_of_getElem? (i := 14) rfl)))
  have hU_LO_BYTE_SHIFT : Sta s s.heap "java/lang/StringUTF16" "LO_BYTE_SHIFT" "I" (.int 8) := Sta.start (eqv_i (Z := s) (F := Jvm.Term.int (8 : Int32)) (y := 8) rfl (Cond.before_iff.mp (hsets _ (List.mem_of_getElem? (i := 18) rfl)))) (Or.inl (hsets _ (List.mem_of_getElem? (i := 17) rfl)))
  have hGU : SEnvU s := ⟨hU__assertionsDisabled, hU_HI_BYTE_SHIFT, hU_LO_BYTE_SHIFT⟩
  obtain ⟨t, o, h1, h2, h3, v, L, rfl, ⟨rfl, N, -⟩, -, hq⟩ := c_law l s _ hw hEW cc fm p0 p1 p2 p3 s.heap ⟨Nat.le_refl _, fun _ _ q => q⟩ hG hGU
    p e ha hc hk s m _ below hf ((Spec.applies_iff_loose hf).mp happ).1 ⟨rfl, State.Warmed39.refl s, rfl, hCH, fun _ q => nomatch q⟩ trivial
  refine ⟨t, _, h1, h2, h3, hpost _ _ _ _ _ _ ⟨Cond.after_iff.mpr rfl, Cond.after_iff.mpr (eq_i res_at (Term.int_eval (1)) rfl), trivial⟩ ⟨hq.1, hq.2.1, hq.2.2.1, (hq.2.2.2.sift fun y hy => Or.inr (N y hy)).mono (by decide) (by decide)⟩⟩
theorem main_1_1 : Claimed_1_1 := comes_1 fun _ _ _ _ _ _ h hF => ⟨h.1, hF⟩
theorem main_1_2 : Claimed_1_2 := comes_1 fun _ _ _ _ _ _ h hF => ⟨h.2.1, hF⟩
end Jvm.Pilot.@@N@@
namespace Jvm.Pilot.@@N@@
open Jvm Jvm.ClassFile Sem Op Lib Jvm.Free Jvm.Stand Jvm.Pilot.@@N@@.Jvm.D
/-! MADE BY PROGRAM (witnessworld.py) out of the Statement's table words and the real class files: 20 classes; the members and pool entries that the words name. The judged class is class 1, her method 1. -/
namespace start1
open Jvm.ClassFile
def u (s : String) : CpInfo := .utf8 (stringToUtf16 s)
/-- a pool by its gaps: so many unusable entries, then the entry; so many at the end -/
def gap : Nat → List CpInfo → List CpInfo
  | 0, r => r
  | n + 1, r => .unusable :: gap n r
def poolList (es : List (Nat × CpInfo)) (last : Nat) : List CpInfo := es.foldr (fun e r => gap e.1 (e.2 :: r)) (gap last [])
def pool (es : List (Nat × CpInfo)) (last : Nat) : Array CpInfo := ⟨poolList es last⟩
def fileOf (pool : Array CpInfo) (this : Nat) (attrs : Array Attribute := #[]) (ms : Array MethodInfo := #[]) (fl : Nat := 33) (sup : Nat := 0) (ifs : Array Nat := #[]) (fds : Array FieldInfo := #[]) : ClassFile where
  minorVersion := 0
  majorVersion := 65
  constantPool := pool
  accessFlags := fl
  thisClass := this
  superClass := sup
  interfaces := ifs
  fields := fds
  methods := ms
  attributes := attrs
def plain (name : String) (sup : Option ClassId) : Class where
  name := name
  kind := .ordinary
  loader := none
  accessFlags := 33
  super := sup
  interfaces := #[]
  cf := none
  fields := #[]
  methods := #[]
  instanceTypes := #[]
  staticTypes := #[]
  resolved := #[]
  callSites := []
  init := .initialized
  statics := none
  mirror := none

def pool0 : Array CpInfo := pool [(5, u "<init>"), (0, u "()V"), (1, .class_ 10), (1, u "java/lang/Object")] 113

def k0c0 : Code := { maxStack := 0, maxLocals := 1, code := object_method_1_code, exceptionTable := #[], attributes := #[] }
def k0m0 : Method := { name := "<init>", desc := "()V", sig := { parameters := [], returnType := none }, accessFlags := 1, code := some k0c0 }
/-- java/lang/Object -/
def k0 : Class := { plain "java/lang/Object" none with
  accessFlags := 33
  interfaces := #[]
  cf := some (fileOf pool0 8 #[] #[{ accessFlags := 1, nameIndex := 5, descriptorIndex := 6, attributes := #[] }] 33 0 #[] #[])
  fields := #[]
  methods := #[k0m0]
  instanceTypes := #[]
  staticTypes := #[]
  resolved := Array.replicate 124 none
  statics := none }

def pool1 : Array CpInfo := pool [(2, .class_ 4), (1, u "java/lang/Object"), (0, u "<init>"), (0, u "()V"), (0, .long 65535), (1, .methodref 10 11), (0, .class_ 12), (0, .nameAndType 13 14), (0, u "com/example/updatable_views/updatableviews/SqlNamesSamePinLaw"), (0, u "pick"), (0, u "(ICC)C"), (0, .methodref 10 16), (0, .nameAndType 17 18), (0, u "mk"), (0, u "(ICCC)Ljava/lang/String;"), (0, .methodref 10 20), (0, .nameAndType 21 22), (0, u "eq"), (0, u "(CC)Z"), (0, .methodref 24 25), (0, .class_ 26), (0, .nameAndType 27 28), (0, u "com/example/updatable_views/updatableviews/SqlNames"), (0, u "same"), (0, u "(Ljava/lang/String;Ljava/lang/String;)Z"), (0, .class_ 30), (0, u "java/lang/String"), (0, .methodref 29 32), (0, .nameAndType 5 33), (0, u "([C)V"), (2, u "law"), (0, u "(JJII)Z")] 3

def k1m0 : Method := { name := "<init>", desc := "()V", sig := { parameters := [], returnType := none }, accessFlags := 1, code := none }
def k1c1 : Code := { maxStack := 6, maxLocals := 17, code := code, exceptionTable := #[], attributes := #[] }
def k1m1 : Method := { name := "law", desc := "(JJII)Z", sig := { parameters := [.long, .long, .int, .int], returnType := some .boolean }, accessFlags := 9, code := some k1c1 }
def k1c2 : Code := { maxStack := 2, maxLocals := 3, code := method_3_code, exceptionTable := #[], attributes := #[] }
def k1m2 : Method := { name := "pick", desc := "(ICC)C", sig := { parameters := [.int, .char, .char], returnType := some .char }, accessFlags := 10, code := some k1c2 }
def k1c3 : Code := { maxStack := 6, maxLocals := 4, code := method_4_code, exceptionTable := #[], attributes := #[] }
def k1m3 : Method := { name := "mk", desc := "(ICCC)Ljava/lang/String;", sig := { parameters := [.int, .char, .char, .char], returnType := some (.object "java/lang/String") }, accessFlags := 10, code := some k1c3 }
def k1c4 : Code := { maxStack := 3, maxLocals := 2, code := method_5_code, exceptionTable := #[], attributes := #[] }
def k1m4 : Method := { name := "eq", desc := "(CC)Z", sig := { parameters := [.char, .char], returnType := some .boolean }, accessFlags := 10, code := some k1c4 }
/-- com/example/updatable_views/updatableviews/SqlNamesSamePinLaw -/
def k1 : Class := { plain "com/example/updatable_views/updatableviews/SqlNamesSamePinLaw" (some 0) with
  accessFlags := 49
  interfaces := #[]
  cf := some (fileOf pool1 10 #[] #[{ accessFlags := 1, nameIndex := 5, descriptorIndex := 6, attributes := #[] }, { accessFlags := 9, nameIndex := 36, descriptorIndex := 37, attributes := #[] }, { accessFlags := 10, nameIndex := 13, descriptorIndex := 14, attributes := #[] }, { accessFlags := 10, nameIndex := 17, descriptorIndex := 18, attributes := #[] }, { accessFlags := 10, nameIndex := 21, descriptorIndex := 22, attributes := #[] }] 49 2 #[] #[])
  fields := #[]
  methods := #[k1m0, k1m1, k1m2, k1m3, k1m4]
  instanceTypes := #[]
  staticTypes := #[]
  resolved := Array.replicate 41 none
  statics := none }

def pool2 : Array CpInfo := pool [(1, .class_ 2), (0, u "java/io/Serializable"), (0, .class_ 4), (0, u "java/lang/Object")] 2

/-- java/io/Serializable -/
def k2 : Class := { plain "java/io/Serializable" (some 0) with
  accessFlags := 1537
  interfaces := #[]
  cf := some (fileOf pool2 1 #[] #[] 1537 3 #[] #[])
  fields := #[]
  methods := #[]
  instanceTypes := #[]
  staticTypes := #[]
  resolved := Array.replicate 7 none
  statics := none }

def pool3 : Array CpInfo := pool [(1, .class_ 2), (0, u "java/lang/Comparable"), (0, .class_ 4), (0, u "java/lang/Object")] 7

/-- java/lang/Comparable -/
def k3 : Class := { plain "java/lang/Comparable" (some 0) with
  accessFlags := 1537
  interfaces := #[]
  cf := some (fileOf pool3 1 #[] #[] 1537 3 #[] #[])
  fields := #[]
  methods := #[]
  instanceTypes := #[]
  staticTypes := #[]
  resolved := Array.replicate 12 none
  statics := none }

def pool4 : Array CpInfo := pool [(2, .class_ 4), (1, u "java/lang/CharSequence"), (42, .class_ 48), (0, u "java/lang/CharSequence$1CodePointIterator"), (10, .class_ 60), (0, u "java/lang/CharSequence$1CharIterator"), (5, .class_ 67), (0, u "java/lang/Object")] 63

/-- java/lang/CharSequence -/
def k4 : Class := { plain "java/lang/CharSequence" (some 0) with
  accessFlags := 1537
  interfaces := #[]
  cf := some (fileOf pool4 2 #[.nestMembers #[47, 59]] #[] 1537 66 #[] #[])
  fields := #[]
  methods := #[]
  instanceTypes := #[]
  staticTypes := #[]
  resolved := Array.replicate 131 none
  statics := none }

def pool5 : Array CpInfo := pool [(1, .class_ 2), (0, u "java/lang/constant/Constable"), (0, .class_ 4), (0, u "java/lang/Object")] 6

/-- java/lang/constant/Constable -/
def k5 : Class := { plain "java/lang/constant/Constable" (some 0) with
  accessFlags := 1537
  interfaces := #[]
  cf := some (fileOf pool5 1 #[] #[] 1537 3 #[] #[])
  fields := #[]
  methods := #[]
  instanceTypes := #[]
  staticTypes := #[]
  resolved := Array.replicate 11 none
  statics := none }

def pool6 : Array CpInfo := pool [(1, .class_ 2), (0, u "java/lang/constant/ConstantDesc"), (0, .class_ 4), (0, u "java/lang/Object")] 32

/-- java/lang/constant/ConstantDesc -/
def k6 : Class := { plain "java/lang/constant/ConstantDesc" (some 0) with
  accessFlags := 1537
  interfaces := #[]
  cf := some (fileOf pool6 1 #[] #[] 1537 3 #[] #[])
  fields := #[]
  methods := #[]
  instanceTypes := #[]
  staticTypes := #[]
  resolved := Array.replicate 37 none
  statics := none }

def pool7 : Array CpInfo := pool [(1, .methodref 2 3), (0, .class_ 4), (0, .nameAndType 5 6), (0, u "java/lang/Object"), (0, u "<init>"), (0, u "()V"), (0, .string 8), (0, u ""), (0, .fieldref 10 11), (0, .class_ 12), (0, .nameAndType 13 14), (0, u "java/lang/String"), (0, u "value"), (0, u "[B"), (0, .fieldref 10 16), (0, .nameAndType 17 18), (0, u "coder"), (0, u "B"), (2, u "hash"), (0, u "I"), (2, u "hashIsZero"), (0, u "Z"), (0, .methodref 10 28), (0, .nameAndType 5 29), (0, u "([CIILjava/lang/Void;)V"), (8, .fieldref 10 39), (0, .nameAndType 40 26), (0, u "COMPACT_STRINGS"), (1, .class_ 44), (1, u "java/lang/StringUTF16"), (0, u "compress"), (1, .methodref 42 48), (0, .nameAndType 49 50), (0, u "coderFromArrayLen"), (0, u "([BI)B"), (56, .class_ 109), (1, u "java/lang/StringLatin1"), (32, u "()Z"), (34, .methodref 42 178), (0, .nameAndType 45 179), (0, u "([CII)[B"), (154, u "()I"), (0, .methodref 10 336), (0, .nameAndType 17 337), (0, u "()B"), (25, u "([BI)C"), (27, u "(II)V"), (35, u "(I)C"), (64, .methodref 10 493), (0, .nameAndType 494 142), (0, u "isLatin1"), (0, .methodref 107 496), (0, .nameAndType 497 363), (0, u "charAt"), (0, .methodref 42 496), (2, u "checkIndex"), (5, u "length"), (67, .class_ 576), (0, u "java/lang/CharSequence"), (22, u "CASE_INSENSITIVE_ORDER"), (0, u "Ljava/util/Comparator;"), (409, u "([C)V"), (42, .fieldref 1054 1055), (0, .class_ 1056), (0, .nameAndType 1057 1058), (0, u "jdk/internal/util/Preconditions"), (0, u "SIOOBE_FORMATTER"), (0, u "Ljava/util/function/BiFunction;"), (0, .methodref 1054 1060), (0, .nameAndType 501 1061), (0, u "(IILjava/util/function/BiFunction;)I"), (39, u "serialPersistentFields"), (0, u "[Ljava/io/ObjectStreamField;"), (0, .class_ 1104), (0, u "java/lang/String$CaseInsensitiveComparator"), (1, .class_ 1107), (0, u "java/io/Serializable"), (0, .class_ 1109), (0, u "java/lang/Comparable"), (0, .class_ 1111), (0, u "java/lang/constant/Constable"), (0, .class_ 1113), (0, u "java/lang/constant/ConstantDesc"), (2, u "serialVersionUID"), (0, u "J"), (3, u "REPL"), (0, u "C"), (2, u "LATIN1"), (1, u "UTF16")] 323

def k7m0 : Method := { name := "<init>", desc := "()V", sig := { parameters := [], returnType := none }, accessFlags := 1, code := none }
def k7c1 : Code := { maxStack := 5, maxLocals := 2, code := jdk_42_method_3_code, exceptionTable := #[], attributes := #[] }
def k7m1 : Method := { name := "<init>", desc := "([C)V", sig := { parameters := [(.array .char)], returnType := none }, accessFlags := 1, code := some k7c1 }
def k7c2 : Code := { maxStack := 2, maxLocals := 1, code := jdk_42_method_54_code, exceptionTable := #[], attributes := #[] }
def k7m2 : Method := { name := "length", desc := "()I", sig := { parameters := [], returnType := some .int }, accessFlags := 1, code := some k7c2 }
def k7c3 : Code := { maxStack := 2, maxLocals := 2, code := jdk_42_method_56_code, exceptionTable := #[], attributes := #[] }
def k7m3 : Method := { name := "charAt", desc := "(I)C", sig := { parameters := [.int], returnType := some .char }, accessFlags := 1, code := some k7c3 }
def k7c4 : Code := { maxStack := 4, maxLocals := 6, code := jdk_42_method_149_code, exceptionTable := #[], attributes := #[] }
def k7m4 : Method := { name := "<init>", desc := "([CIILjava/lang/Void;)V", sig := { parameters := [(.array .char), .int, .int, (.object "java/lang/Void")], returnType := none }, accessFlags := 2, code := some k7c4 }
def k7c5 : Code := { maxStack := 1, maxLocals := 1, code := jdk_42_method_152_code, exceptionTable := #[], attributes := #[] }
def k7m5 : Method := { name := "coder", desc := "()B", sig := { parameters := [], returnType := some .byte }, accessFlags := 0, code := some k7c5 }
def k7c6 : Code := { maxStack := 1, maxLocals := 1, code := jdk_42_method_154_code, exceptionTable := #[], attributes := #[] }
def k7m6 : Method := { name := "isLatin1", desc := "()Z", sig := { parameters := [], returnType := some .boolean }, accessFlags := 0, code := some k7c6 }
def k7c7 : Code := { maxStack := 3, maxLocals := 2, code := jdk_42_method_155_code, exceptionTable := #[], attributes := #[] }
def k7m7 : Method := { name := "checkIndex", desc := "(II)V", sig := { parameters := [.int, .int], returnType := none }, accessFlags := 8, code := some k7c7 }
/-- java/lang/String -/
def k7 : Class := { plain "java/lang/String" (some 0) with
  accessFlags := 49
  interfaces := #[2, 3, 4, 5, 6]
  cf := some (fileOf pool7 10 #[.nestMembers #[1103]] #[{ accessFlags := 1, nameIndex := 5, descriptorIndex := 6, attributes := #[] }, { accessFlags := 1, nameIndex := 5, descriptorIndex := 1010, attributes := #[] }, { accessFlags := 1, nameIndex := 507, descriptorIndex := 334, attributes := #[] }, { accessFlags := 1, nameIndex := 497, descriptorIndex := 427, attributes := #[] }, { accessFlags := 2, nameIndex := 5, descriptorIndex := 29, attributes := #[] }, { accessFlags := 0, nameIndex := 17, descriptorIndex := 337, attributes := #[] }, { accessFlags := 0, nameIndex := 494, descriptorIndex := 142, attributes := #[] }, { accessFlags := 8, nameIndex := 501, descriptorIndex := 391, attributes := #[] }] 49 2 #[1106, 1108, 575, 1110, 1112] #[{ accessFlags := 18, nameIndex := 13, descriptorIndex := 14, attributes := #[] }, { accessFlags := 18, nameIndex := 17, descriptorIndex := 18, attributes := #[] }, { accessFlags := 2, nameIndex := 21, descriptorIndex := 22, attributes := #[] }, { accessFlags := 2, nameIndex := 25, descriptorIndex := 26, attributes := #[] }, { accessFlags := 26, nameIndex := 1116, descriptorIndex := 1117, attributes := #[] }, { accessFlags := 24, nameIndex := 40, descriptorIndex := 26, attributes := #[] }, { accessFlags := 26, nameIndex := 1101, descriptorIndex := 1102, attributes := #[] }, { accessFlags := 26, nameIndex := 1121, descriptorIndex := 1122, attributes := #[] }, { accessFlags := 25, nameIndex := 599, descriptorIndex := 600, attributes := #[] }, { accessFlags := 24, nameIndex := 1125, descriptorIndex := 18, attributes := #[] }, { accessFlags := 24, nameIndex := 1127, descriptorIndex := 18, attributes := #[] }])
  fields := #[{ name := "value", type := (.array .byte), accessFlags := 18, slot := 0, constantValue := 0 }, { name := "coder", type := .byte, accessFlags := 18, slot := 1, constantValue := 0 }, { name := "hash", type := .int, accessFlags := 2, slot := 2, constantValue := 0 }, { name := "hashIsZero", type := .boolean, accessFlags := 2, slot := 3, constantValue := 0 }, { name := "serialVersionUID", type := .long, accessFlags := 26, slot := 0, constantValue := 0 }, { name := "COMPACT_STRINGS", type := .boolean, accessFlags := 24, slot := 1, constantValue := 0 }, { name := "serialPersistentFields", type := (.array (.object "java/io/ObjectStreamField")), accessFlags := 26, slot := 2, constantValue := 0 }, { name := "REPL", type := .char, accessFlags := 26, slot := 3, constantValue := 0 }, { name := "CASE_INSENSITIVE_ORDER", type := (.object "java/util/Comparator"), accessFlags := 25, slot := 4, constantValue := 0 }, { name := "LATIN1", type := .byte, accessFlags := 24, slot := 5, constantValue := 0 }, { name := "UTF16", type := .byte, accessFlags := 24, slot := 6, constantValue := 0 }]
  methods := #[k7m0, k7m1, k7m2, k7m3, k7m4, k7m5, k7m6, k7m7]
  instanceTypes := #[(.array .byte), .byte, .int, .boolean]
  staticTypes := #[.long, .boolean, (.array (.object "java/io/ObjectStreamField")), .char, (.object "java/util/Comparator"), .byte, .byte]
  resolved := Array.replicate 1451 none
  statics := some 0 }

def pool8 : Array CpInfo := pool [(3, .class_ 4), (0, u "java/lang/String"), (1, .class_ 8), (1, u "java/lang/Object"), (0, u "<init>"), (0, u "()V"), (0, .methodref 12 13), (0, .class_ 14), (0, .nameAndType 15 16), (0, u "java/lang/StringUTF16"), (0, u "newBytesLength"), (0, u "(I)I"), (3, .integer 1073741823), (23, .fieldref 12 45), (0, .nameAndType 46 47), (0, u "$assertionsDisabled"), (0, u "Z"), (0, .methodref 12 49), (0, .nameAndType 50 51), (0, u "length"), (0, u "([B)I"), (7, .fieldref 12 60), (0, .nameAndType 61 62), (0, u "HI_BYTE_SHIFT"), (0, u "I"), (0, .fieldref 12 64), (0, .nameAndType 65 62), (0, u "LO_BYTE_SHIFT"), (1, .methodref 12 68), (0, .nameAndType 69 70), (0, u "checkIndex"), (0, u "(I[B)V"), (0, .methodref 12 72), (0, .nameAndType 73 74), (0, u "getChar"), (0, u "([BI)C"), (32, .methodref 12 108), (0, .nameAndType 109 110), (0, u "newBytesFor"), (0, u "(I)[B"), (0, .methodref 12 112), (0, .nameAndType 113 114), (0, u "putChar"), (0, u "([BII)V"), (0, .methodref 12 116), (0, .nameAndType 117 118), (0, u "compress"), (0, u "([CI[BII)I"), (0, .methodref 12 120), (0, .nameAndType 121 122), (0, u "toBytes"), (0, u "([CII)[B"), (138, u "coderFromArrayLen"), (0, u "([BI)B"), (106, .class_ 371), (1, u "java/lang/StringUTF16$LinesSpliterator"), (20, u "charAt"), (21, .methodref 3 415), (0, .nameAndType 69 416), (0, u "(II)V"), (13, u "MAX_LENGTH"), (196, .class_ 628), (0, u "java/lang/StringUTF16$CodePointsSpliterator"), (0, .class_ 630), (0, u "java/lang/StringUTF16$CharsSpliterator")] 4

def k8m0 : Method := { name := "<init>", desc := "()V", sig := { parameters := [], returnType := none }, accessFlags := 0, code := none }
def k8c1 : Code := { maxStack := 1, maxLocals := 1, code := jdk_52_method_2_code, exceptionTable := #[], attributes := #[] }
def k8m1 : Method := { name := "newBytesFor", desc := "(I)[B", sig := { parameters := [.int], returnType := some (.array .byte) }, accessFlags := 9, code := some k8c1 }
def k8c2 : Code := { maxStack := 4, maxLocals := 1, code := jdk_52_method_3_code, exceptionTable := #[], attributes := #[] }
def k8m2 : Method := { name := "newBytesLength", desc := "(I)I", sig := { parameters := [.int], returnType := some .int }, accessFlags := 9, code := some k8c2 }
def k8c3 : Code := { maxStack := 4, maxLocals := 3, code := jdk_52_method_4_code, exceptionTable := #[], attributes := #[] }
def k8m3 : Method := { name := "putChar", desc := "([BII)V", sig := { parameters := [(.array .byte), .int, .int], returnType := none }, accessFlags := 8, code := some k8c3 }
def k8c4 : Code := { maxStack := 3, maxLocals := 2, code := jdk_52_method_5_code, exceptionTable := #[], attributes := #[] }
def k8m4 : Method := { name := "getChar", desc := "([BI)C", sig := { parameters := [(.array .byte), .int], returnType := some .char }, accessFlags := 8, code := some k8c4 }
def k8c5 : Code := { maxStack := 2, maxLocals := 1, code := jdk_52_method_6_code, exceptionTable := #[], attributes := #[] }
def k8m5 : Method := { name := "length", desc := "([B)I", sig := { parameters := [(.array .byte)], returnType := some .int }, accessFlags := 9, code := some k8c5 }
def k8c6 : Code := { maxStack := 4, maxLocals := 5, code := jdk_52_method_14_code, exceptionTable := #[], attributes := #[] }
def k8m6 : Method := { name := "toBytes", desc := "([CII)[B", sig := { parameters := [(.array .char), .int, .int], returnType := some (.array .byte) }, accessFlags := 9, code := some k8c6 }
def k8c7 : Code := { maxStack := 2, maxLocals := 2, code := jdk_52_method_15_code, exceptionTable := #[], attributes := #[] }
def k8m7 : Method := { name := "coderFromArrayLen", desc := "([BI)B", sig := { parameters := [(.array .byte), .int], returnType := some .byte }, accessFlags := 8, code := some k8c7 }
def k8c8 : Code := { maxStack := 5, maxLocals := 6, code := jdk_52_method_16_code, exceptionTable := #[], attributes := #[] }
def k8m8 : Method := { name := "compress", desc := "([CII)[B", sig := { parameters := [(.array .char), .int, .int], returnType := some (.array .byte) }, accessFlags := 9, code := some k8c8 }
def k8c9 : Code := { maxStack := 3, maxLocals := 7, code := jdk_52_method_21_code, exceptionTable := #[], attributes := #[] }
def k8m9 : Method := { name := "compress", desc := "([CI[BII)I", sig := { parameters := [(.array .char), .int, (.array .byte), .int, .int], returnType := some .int }, accessFlags := 9, code := some k8c9 }
def k8c10 : Code := { maxStack := 2, maxLocals := 2, code := jdk_52_method_83_code, exceptionTable := #[], attributes := #[] }
def k8m10 : Method := { name := "charAt", desc := "([BI)C", sig := { parameters := [(.array .byte), .int], returnType := some .char }, accessFlags := 9, code := some k8c10 }
def k8c11 : Code := { maxStack := 2, maxLocals := 2, code := jdk_52_method_91_code, exceptionTable := #[], attributes := #[] }
def k8m11 : Method := { name := "checkIndex", desc := "(I[B)V", sig := { parameters := [.int, (.array .byte)], returnType := none }, accessFlags := 9, code := some k8c11 }
/-- java/lang/StringUTF16 -/
def k8 : Class := { plain "java/lang/StringUTF16" (some 0) with
  accessFlags := 48
  interfaces := #[]
  cf := some (fileOf pool8 12 #[.nestMembers #[627, 629, 369]] #[{ accessFlags := 0, nameIndex := 9, descriptorIndex := 10, attributes := #[] }, { accessFlags := 9, nameIndex := 109, descriptorIndex := 110, attributes := #[] }, { accessFlags := 9, nameIndex := 15, descriptorIndex := 16, attributes := #[] }, { accessFlags := 8, nameIndex := 113, descriptorIndex := 114, attributes := #[] }, { accessFlags := 8, nameIndex := 73, descriptorIndex := 74, attributes := #[] }, { accessFlags := 9, nameIndex := 50, descriptorIndex := 51, attributes := #[] }, { accessFlags := 9, nameIndex := 121, descriptorIndex := 122, attributes := #[] }, { accessFlags := 8, nameIndex := 261, descriptorIndex := 262, attributes := #[] }, { accessFlags := 9, nameIndex := 117, descriptorIndex := 122, attributes := #[] }, { accessFlags := 9, nameIndex := 117, descriptorIndex := 118, attributes := #[] }, { accessFlags := 9, nameIndex := 392, descriptorIndex := 74, attributes := #[] }, { accessFlags := 9, nameIndex := 69, descriptorIndex := 70, attributes := #[] }] 48 6 #[] #[{ accessFlags := 26, nameIndex := 61, descriptorIndex := 62, attributes := #[] }, { accessFlags := 26, nameIndex := 65, descriptorIndex := 62, attributes := #[] }, { accessFlags := 24, nameIndex := 430, descriptorIndex := 62, attributes := #[] }, { accessFlags := 4120, nameIndex := 46, descriptorIndex := 47, attributes := #[] }])
  fields := #[{ name := "HI_BYTE_SHIFT", type := .int, accessFlags := 26, slot := 0, constantValue := 0 }, { name := "LO_BYTE_SHIFT", type := .int, accessFlags := 26, slot := 1, constantValue := 0 }, { name := "MAX_LENGTH", type := .int, accessFlags := 24, slot := 2, constantValue := 0 }, { name := "$assertionsDisabled", type := .boolean, accessFlags := 4120, slot := 3, constantValue := 0 }]
  methods := #[k8m0, k8m1, k8m2, k8m3, k8m4, k8m5, k8m6, k8m7, k8m8, k8m9, k8m10, k8m11]
  instanceTypes := #[]
  staticTypes := #[.int, .int, .int, .boolean]
  resolved := Array.replicate 635 none
  statics := some 1 }

def pool9 : Array CpInfo := pool [(2, .class_ 4), (1, u "java/lang/Object"), (0, u "<init>"), (0, u "()V"), (5, .class_ 14), (1, u "java/lang/String"), (6, .methodref 12 22), (0, .nameAndType 23 24), (0, u "length"), (0, u "()I"), (0, .methodref 12 26), (0, .nameAndType 27 28), (0, u "charAt"), (0, u "(I)C"), (0, .methodref 30 31), (0, .class_ 32), (0, .nameAndType 33 34), (0, u "com/example/updatable_views/updatableviews/SqlNames"), (0, u "lower"), (0, u "(C)C"), (18, u "same"), (0, u "(Ljava/lang/String;Ljava/lang/String;)Z")] 25

def k9m0 : Method := { name := "<init>", desc := "()V", sig := { parameters := [], returnType := none }, accessFlags := 2, code := none }
def k9c1 : Code := { maxStack := 3, maxLocals := 3, code := prog_8_method_3_code, exceptionTable := #[], attributes := #[] }
def k9m1 : Method := { name := "same", desc := "(Ljava/lang/String;Ljava/lang/String;)Z", sig := { parameters := [(.object "java/lang/String"), (.object "java/lang/String")], returnType := some .boolean }, accessFlags := 8, code := some k9c1 }
def k9c2 : Code := { maxStack := 2, maxLocals := 1, code := prog_8_method_5_code, exceptionTable := #[], attributes := #[] }
def k9m2 : Method := { name := "lower", desc := "(C)C", sig := { parameters := [.char], returnType := some .char }, accessFlags := 10, code := some k9c2 }
/-- com/example/updatable_views/updatableviews/SqlNames -/
def k9 : Class := { plain "com/example/updatable_views/updatableviews/SqlNames" (some 0) with
  accessFlags := 48
  interfaces := #[]
  cf := some (fileOf pool9 30 #[] #[{ accessFlags := 2, nameIndex := 5, descriptorIndex := 6, attributes := #[] }, { accessFlags := 8, nameIndex := 53, descriptorIndex := 54, attributes := #[] }, { accessFlags := 10, nameIndex := 33, descriptorIndex := 34, attributes := #[] }] 48 2 #[] #[])
  fields := #[]
  methods := #[k9m0, k9m1, k9m2]
  instanceTypes := #[]
  staticTypes := #[]
  resolved := Array.replicate 80 none
  statics := none }

def pool10 : Array CpInfo := pool [(1, .class_ 2), (0, u "java/lang/String"), (1, .class_ 6), (1, u "java/lang/Object"), (0, u "<init>"), (0, u "()V"), (0, .methodref 1 10), (0, .nameAndType 11 12), (0, u "checkIndex"), (0, u "(II)V"), (1, .class_ 16), (1, u "java/lang/StringLatin1"), (36, u "([BI)C"), (67, u "$assertionsDisabled"), (0, u "Z"), (98, .class_ 223), (1, u "java/lang/StringLatin1$LinesSpliterator"), (28, u "charAt"), (137, .class_ 391), (0, u "java/lang/StringLatin1$CharsSpliterator")] 3

def k10m0 : Method := { name := "<init>", desc := "()V", sig := { parameters := [], returnType := none }, accessFlags := 0, code := none }
def k10c1 : Code := { maxStack := 2, maxLocals := 2, code := jdk_43_method_2_code, exceptionTable := #[], attributes := #[] }
def k10m1 : Method := { name := "charAt", desc := "([BI)C", sig := { parameters := [(.array .byte), .int], returnType := some .char }, accessFlags := 9, code := some k10c1 }
/-- java/lang/StringLatin1 -/
def k10 : Class := { plain "java/lang/StringLatin1" (some 0) with
  accessFlags := 48
  interfaces := #[]
  cf := some (fileOf pool10 14 #[.nestMembers #[390, 221]] #[{ accessFlags := 0, nameIndex := 7, descriptorIndex := 8, attributes := #[] }, { accessFlags := 9, nameIndex := 252, descriptorIndex := 53, attributes := #[] }] 48 4 #[] #[{ accessFlags := 4120, nameIndex := 121, descriptorIndex := 122, attributes := #[] }])
  fields := #[{ name := "$assertionsDisabled", type := .boolean, accessFlags := 4120, slot := 0, constantValue := 0 }]
  methods := #[k10m0, k10m1]
  instanceTypes := #[]
  staticTypes := #[.boolean]
  resolved := Array.replicate 395 none
  statics := none }

def pool11 : Array CpInfo := pool [(2, .class_ 4), (1, u "java/lang/Object"), (0, u "<init>"), (0, u "()V"), (17, .class_ 26), (1, u "jdk/internal/util/Preconditions"), (6, u "checkIndex"), (21, .class_ 56), (0, u "jdk/internal/util/Preconditions$4"), (57, .class_ 115), (0, u "jdk/internal/util/Preconditions$1"), (7, u "SIOOBE_FORMATTER"), (0, u "Ljava/util/function/BiFunction;"), (0, .class_ 126), (0, u "jdk/internal/util/Preconditions$2"), (3, u "AIOOBE_FORMATTER"), (0, .class_ 132), (0, u "jdk/internal/util/Preconditions$3"), (3, u "IOOBE_FORMATTER"), (41, u "(IILjava/util/function/BiFunction;)I")] 15

def k11m0 : Method := { name := "<init>", desc := "()V", sig := { parameters := [], returnType := none }, accessFlags := 1, code := none }
def k11c1 : Code := { maxStack := 3, maxLocals := 3, code := jdk_41_method_11_code, exceptionTable := #[], attributes := #[] }
def k11m1 : Method := { name := "checkIndex", desc := "(IILjava/util/function/BiFunction;)I", sig := { parameters := [.int, .int, (.object "java/util/function/BiFunction")], returnType := some .int }, accessFlags := 9, code := some k11c1 }
/-- jdk/internal/util/Preconditions -/
def k11 : Class := { plain "jdk/internal/util/Preconditions" (some 0) with
  accessFlags := 33
  interfaces := #[]
  cf := some (fileOf pool11 24 #[.nestMembers #[55, 131, 125, 114]] #[{ accessFlags := 1, nameIndex := 5, descriptorIndex := 6, attributes := #[] }, { accessFlags := 9, nameIndex := 33, descriptorIndex := 178, attributes := #[] }] 33 2 #[] #[{ accessFlags := 25, nameIndex := 123, descriptorIndex := 124, attributes := #[] }, { accessFlags := 25, nameIndex := 130, descriptorIndex := 124, attributes := #[] }, { accessFlags := 25, nameIndex := 136, descriptorIndex := 124, attributes := #[] }])
  fields := #[{ name := "SIOOBE_FORMATTER", type := (.object "java/util/function/BiFunction"), accessFlags := 25, slot := 0, constantValue := 0 }, { name := "AIOOBE_FORMATTER", type := (.object "java/util/function/BiFunction"), accessFlags := 25, slot := 1, constantValue := 0 }, { name := "IOOBE_FORMATTER", type := (.object "java/util/function/BiFunction"), accessFlags := 25, slot := 2, constantValue := 0 }]
  methods := #[k11m0, k11m1]
  instanceTypes := #[]
  staticTypes := #[(.object "java/util/function/BiFunction"), (.object "java/util/function/BiFunction"), (.object "java/util/function/BiFunction")]
  resolved := Array.replicate 194 none
  statics := some 2 }

def pool12 : Array CpInfo := pool [(9, u "<init>"), (6, .class_ 18), (1, u "java/lang/Object"), (0, u "()V"), (1, .class_ 23), (1, u "jdk/internal/util/ArraysSupport"), (0, u "LOG2_ARRAY_LONG_INDEX_SCALE"), (0, u "I"), (2, u "U"), (0, u "Ljdk/internal/misc/Unsafe;"), (8, u "BIG_ENDIAN"), (0, u "Z"), (8, u "LOG2_BYTE_BIT_SIZE"), (4, u "LOG2_ARRAY_INT_INDEX_SCALE"), (54, u "JLA"), (0, u "Ljdk/internal/access/JavaLangAccess;"), (11, u "LOG2_ARRAY_BOOLEAN_INDEX_SCALE"), (9, u "LOG2_ARRAY_BYTE_INDEX_SCALE"), (5, u "LOG2_ARRAY_CHAR_INDEX_SCALE"), (5, u "LOG2_ARRAY_SHORT_INDEX_SCALE"), (18, u "LOG2_ARRAY_FLOAT_INDEX_SCALE"), (24, u "LOG2_ARRAY_DOUBLE_INDEX_SCALE"), (89, u "T_BOOLEAN"), (2, u "T_CHAR"), (1, u "T_FLOAT"), (1, u "T_DOUBLE"), (1, u "T_BYTE"), (1, u "T_SHORT"), (1, u "T_INT"), (1, u "T_LONG"), (1, u "SOFT_MAX_ARRAY_LENGTH")] 83

def k12m0 : Method := { name := "<init>", desc := "()V", sig := { parameters := [], returnType := none }, accessFlags := 2, code := none }
/-- jdk/internal/util/ArraysSupport -/
def k12 : Class := { plain "jdk/internal/util/ArraysSupport" (some 0) with
  accessFlags := 33
  interfaces := #[]
  cf := some (fileOf pool12 21 #[] #[{ accessFlags := 2, nameIndex := 9, descriptorIndex := 19, attributes := #[] }] 33 16 #[] #[{ accessFlags := 24, nameIndex := 28, descriptorIndex := 29, attributes := #[] }, { accessFlags := 26, nameIndex := 38, descriptorIndex := 39, attributes := #[] }, { accessFlags := 25, nameIndex := 121, descriptorIndex := 25, attributes := #[] }, { accessFlags := 25, nameIndex := 131, descriptorIndex := 25, attributes := #[] }, { accessFlags := 25, nameIndex := 137, descriptorIndex := 25, attributes := #[] }, { accessFlags := 25, nameIndex := 143, descriptorIndex := 25, attributes := #[] }, { accessFlags := 25, nameIndex := 53, descriptorIndex := 25, attributes := #[] }, { accessFlags := 25, nameIndex := 24, descriptorIndex := 25, attributes := #[] }, { accessFlags := 25, nameIndex := 162, descriptorIndex := 25, attributes := #[] }, { accessFlags := 25, nameIndex := 187, descriptorIndex := 25, attributes := #[] }, { accessFlags := 26, nameIndex := 48, descriptorIndex := 25, attributes := #[] }, { accessFlags := 25, nameIndex := 277, descriptorIndex := 25, attributes := #[] }, { accessFlags := 25, nameIndex := 280, descriptorIndex := 25, attributes := #[] }, { accessFlags := 25, nameIndex := 282, descriptorIndex := 25, attributes := #[] }, { accessFlags := 25, nameIndex := 284, descriptorIndex := 25, attributes := #[] }, { accessFlags := 25, nameIndex := 286, descriptorIndex := 25, attributes := #[] }, { accessFlags := 25, nameIndex := 288, descriptorIndex := 25, attributes := #[] }, { accessFlags := 25, nameIndex := 290, descriptorIndex := 25, attributes := #[] }, { accessFlags := 25, nameIndex := 292, descriptorIndex := 25, attributes := #[] }, { accessFlags := 26, nameIndex := 108, descriptorIndex := 109, attributes := #[] }, { accessFlags := 25, nameIndex := 294, descriptorIndex := 25, attributes := #[] }])
  fields := #[{ name := "U", type := (.object "jdk/internal/misc/Unsafe"), accessFlags := 24, slot := 0, constantValue := 0 }, { name := "BIG_ENDIAN", type := .boolean, accessFlags := 26, slot := 1, constantValue := 0 }, { name := "LOG2_ARRAY_BOOLEAN_INDEX_SCALE", type := .int, accessFlags := 25, slot := 2, constantValue := 0 }, { name := "LOG2_ARRAY_BYTE_INDEX_SCALE", type := .int, accessFlags := 25, slot := 3, constantValue := 0 }, { name := "LOG2_ARRAY_CHAR_INDEX_SCALE", type := .int, accessFlags := 25, slot := 4, constantValue := 0 }, { name := "LOG2_ARRAY_SHORT_INDEX_SCALE", type := .int, accessFlags := 25, slot := 5, constantValue := 0 }, { name := "LOG2_ARRAY_INT_INDEX_SCALE", type := .int, accessFlags := 25, slot := 6, constantValue := 0 }, { name := "LOG2_ARRAY_LONG_INDEX_SCALE", type := .int, accessFlags := 25, slot := 7, constantValue := 0 }, { name := "LOG2_ARRAY_FLOAT_INDEX_SCALE", type := .int, accessFlags := 25, slot := 8, constantValue := 0 }, { name := "LOG2_ARRAY_DOUBLE_INDEX_SCALE", type := .int, accessFlags := 25, slot := 9, constantValue := 0 }, { name := "LOG2_BYTE_BIT_SIZE", type := .int, accessFlags := 26, slot := 10, constantValue := 0 }, { name := "T_BOOLEAN", type := .int, accessFlags := 25, slot := 11, constantValue := 0 }, { name := "T_CHAR", type := .int, accessFlags := 25, slot := 12, constantValue := 0 }, { name := "T_FLOAT", type := .int, accessFlags := 25, slot := 13, constantValue := 0 }, { name := "T_DOUBLE", type := .int, accessFlags := 25, slot := 14, constantValue := 0 }, { name := "T_BYTE", type := .int, accessFlags := 25, slot := 15, constantValue := 0 }, { name := "T_SHORT", type := .int, accessFlags := 25, slot := 16, constantValue := 0 }, { name := "T_INT", type := .int, accessFlags := 25, slot := 17, constantValue := 0 }, { name := "T_LONG", type := .int, accessFlags := 25, slot := 18, constantValue := 0 }, { name := "JLA", type := (.object "jdk/internal/access/JavaLangAccess"), accessFlags := 26, slot := 19, constantValue := 0 }, { name := "SOFT_MAX_ARRAY_LENGTH", type := .int, accessFlags := 25, slot := 20, constantValue := 0 }]
  methods := #[k12m0]
  instanceTypes := #[]
  staticTypes := #[(.object "jdk/internal/misc/Unsafe"), .boolean, .int, .int, .int, .int, .int, .int, .int, .int, .int, .int, .int, .int, .int, .int, .int, .int, .int, (.object "jdk/internal/access/JavaLangAccess"), .int]
  resolved := Array.replicate 378 none
  statics := none }

def pool13 : Array CpInfo := pool [(1, u "java/lang/Cloneable"), (0, .class_ 1), (0, u "java/lang/Object"), (0, .class_ 3)] 3

/-- java/lang/Cloneable -/
def k13 : Class := { plain "java/lang/Cloneable" (some 0) with
  accessFlags := 1537
  interfaces := #[]
  cf := some (fileOf pool13 2 #[] #[] 1537 4 #[] #[])
  fields := #[]
  methods := #[]
  instanceTypes := #[]
  staticTypes := #[]
  resolved := Array.replicate 8 none
  statics := none }

/-- the primitive byte -/
def k14 : Class := { plain "byte" none with kind := .primitive 'B', accessFlags := 0x411 }
/-- [B -/
def k15 : Class := { plain "[B" (some 0) with kind := .array 14 .byte, interfaces := #[13, 2], accessFlags := 1041 }

/-- the primitive char -/
def k16 : Class := { plain "char" none with kind := .primitive 'C', accessFlags := 0x411 }
/-- [C -/
def k17 : Class := { plain "[C" (some 0) with kind := .array 16 .char, interfaces := #[13, 2], accessFlags := 1041 }

/-- the primitive int -/
def k18 : Class := { plain "int" none with kind := .primitive 'I', accessFlags := 0x411 }
/-- [I -/
def k19 : Class := { plain "[I" (some 0) with kind := .array 18 .int, interfaces := #[13, 2], accessFlags := 1041 }

def heap : Heap := #[{ cls := 7, slots := #[.long 0, .int 1, .null, .int 0, .null, .int 0, .int 0], vm := .statics 7 },
  { cls := 8, slots := #[.int 0, .int 8, .int 0, .int 1], vm := .statics 8 },
  { cls := 11, slots := #[.null, .null, .null], vm := .statics 11 }]
def classes : Array Class := #[k0, k1, k2, k3, k4, k5, k6, k7, k8, k9, k10, k11, k12, k13, k14, k15, k16, k17, k18, k19]
def interned : List (Array UInt16 × Addr) := []
def slotsUsed : Nat := 14
def theMethod : MethodId := ⟨1, 1⟩
def args0 : Array Value := #[.long 5, .long 6, .int 1, .int 7]
def aboutOver (below : List Frame) : State where
  vm := { classes := classes, interned := interned.toArray }
  heap := heap
  slotsUsed := slotsUsed
  threads := #[{ frames := .invoking theMethod args0 :: below }]
def below0 : List Frame := [.native { method := ⟨0, 0⟩, args := #[] }]
def about1 : State := aboutOver below0
def p0 : Program := .bare "" "" ""
def e0 : Env := launch0.env 0 0 0
theorem w_frames : about1.frames = Frame.invoking theMethod args0 :: below0 := rfl
set_option maxRecDepth 65536 in
theorem w_args : argsFit about1.vm theMethod args0 = true := by decide +kernel
set_option maxRecDepth 65536 in
theorem w_heap : heapFits about1 = true := by decide +kernel
set_option maxRecDepth 65536 in
theorem w_runnable : about1.curStatus? = some .runnable := by decide +kernel
set_option maxRecDepth 65536 in
theorem w_alone : about1.alone = true := by decide +kernel
set_option maxRecDepth 65536 in
theorem w_named : about1.methodNamed? x = some theMethod := by decide +kernel
set_option maxRecDepth 65536 in
theorem w_hears : about1.hears theMethod below0 = true := by decide +kernel
set_option maxRecDepth 65536 in
theorem w_ripe : about1.ripe theMethod args0 below0 = true := by decide +kernel
theorem w_running : about1.status = .running := rfl
set_option maxRecDepth 65536 in
theorem w_room : about1.hasRoom e0.platform room_1 = true :=
  launch0.hasRoom_least _ room_1 (by decide +kernel) (by decide +kernel) (by decide +kernel) (by decide +kernel) (by decide +kernel) (by decide +kernel)
theorem allAtoms_all (ts : List Jvm.Cond) (a : Array Jvm.Value) (st : Jvm.State) : (allAtoms ts).before a st = ts.all (fun c => c.before a st) := by
  induction ts with
  | nil => rfl
  | cons c t ih =>
    show (Jvm.Cond.and c (allAtoms t)).before a st = _
    rw [Jvm.Cond.before_and, ih, List.all_cons]
def words1 : List Jvm.Cond := Jvm.Cond.code x code maxLocals ret :: tables_1
/-- a 'code' word, met by the world's own term for the bytes: nothing is compared byte by byte -/
theorem code_word {y : MethodName} {bytes : ByteArray} {mx : Nat} {rt : Option FieldType} {a : Array Value} {s : State} {m : MethodId} {meth : Method} {c : Code} (h1 : s.methodNamed? y = some m) (h2 : s.vm.method? m = some meth) (h3 : meth.code = some c) (h4 : c.code = bytes)
    (h5 : (c.maxLocals == mx && c.exceptionTable.isEmpty && decide (c.maxStack ≤ mostOperands) && decide (meth.sig.returnType = rt) && !meth.locks && decide (parseMethodDescriptor y.desc = some meth.sig)) = true) : (Jvm.Cond.code y bytes mx rt).before a s = true := by
  simp only [Bool.and_eq_true, beq_iff_eq, Bool.not_eq_true', decide_eq_true_eq] at h5
  obtain ⟨⟨⟨⟨⟨g1, g2⟩, g3⟩, g4⟩, g5⟩, g6⟩ := h5
  simp [Cond.before, Cond.holds, Cond.value, h1, h2, h3, h4, g1, g2, g3, g4, g5, g6]
def isCode : Jvm.Cond → Bool
  | .code _ _ _ _ => true
  | _ => false
theorem all_split {L : List Jvm.Cond} {P : Jvm.Cond → Bool} (h1 : L.all (fun c => isCode c || P c) = true) (h2 : ∀ c ∈ L.filter isCode, P c = true) : L.all P = true := by
  refine List.all_eq_true.mpr fun c hc => ?_
  have h := List.all_eq_true.mp h1 c hc
  rcases Bool.eq_false_or_eq_true (isCode c) with hi | hi
  · exact h2 c (List.mem_filter.mpr ⟨hc, hi⟩)
  · simpa [hi] using h
set_option maxRecDepth 65536 in
theorem w_c0 : (Jvm.Cond.code x code maxLocals ret).before args0 about1 = true := code_word (m := ⟨1, 1⟩) (meth := k1m1) (c := k1c1) (by decide +kernel) rfl rfl rfl (by decide +kernel)
set_option maxRecDepth 65536 in
theorem w_c1 : (Jvm.Cond.code ({ cls := "com/example/updatable_views/updatableviews/SqlNamesSamePinLaw", name := "pick", desc := "(ICC)C" } : Jvm.MethodName) method_3_code (3 : Nat) (Option.some Jvm.ClassFile.FieldType.char)).before args0 about1 = true := code_word (m := ⟨1, 2⟩) (meth := k1m2) (c := k1c2) (by decide +kernel) rfl rfl rfl (by decide +kernel)
set_option maxRecDepth 65536 in
theorem w_c2 : (Jvm.Cond.code ({ cls := "com/example/updatable_views/updatableviews/SqlNamesSamePinLaw", name := "mk", desc := "(ICCC)Ljava/lang/String;" } : Jvm.MethodName) method_4_code (4 : Nat) (Option.some (Jvm.ClassFile.FieldType.object "java/lang/String"))).before args0 about1 = true := code_word (m := ⟨1, 3⟩) (meth := k1m3) (c := k1c3) (by decide +kernel) rfl rfl rfl (by decide +kernel)
set_option maxRecDepth 65536 in
theorem w_c3 : (Jvm.Cond.code ({ cls := "java/lang/String", name := "<init>", desc := "([C)V" } : Jvm.MethodName) jdk_42_method_3_code (2 : Nat) (Option.none : Option Jvm.ClassFile.FieldType)).before args0 about1 = true := code_word (m := ⟨7, 1⟩) (meth := k7m1) (c := k7c1) (by decide +kernel) rfl rfl rfl (by decide +kernel)
set_option maxRecDepth 65536 in
theorem w_c4 : (Jvm.Cond.code ({ cls := "java/lang/String", name := "<init>", desc := "([CIILjava/lang/Void;)V" } : Jvm.MethodName) jdk_42_method_149_code (6 : Nat) (Option.none : Option Jvm.ClassFile.FieldType)).before args0 about1 = true := code_word (m := ⟨7, 4⟩) (meth := k7m4) (c := k7c4) (by decide +kernel) rfl rfl rfl (by decide +kernel)
set_option maxRecDepth 65536 in
theorem w_c5 : (Jvm.Cond.code ({ cls := "java/lang/Object", name := "<init>", desc := "()V" } : Jvm.MethodName) object_method_1_code (1 : Nat) (Option.none : Option Jvm.ClassFile.FieldType)).before args0 about1 = true := code_word (m := ⟨0, 0⟩) (meth := k0m0) (c := k0c0) (by decide +kernel) rfl rfl rfl (by decide +kernel)
set_option maxRecDepth 65536 in
theorem w_c6 : (Jvm.Cond.code ({ cls := "java/lang/StringUTF16", name := "compress", desc := "([CII)[B" } : Jvm.MethodName) jdk_52_method_16_code (6 : Nat) (Option.some (Jvm.ClassFile.FieldType.array Jvm.ClassFile.FieldType.byte))).before args0 about1 = true := code_word (m := ⟨8, 8⟩) (meth := k8m8) (c := k8c8) (by decide +kernel) rfl rfl rfl (by decide +kernel)
set_option maxRecDepth 65536 in
theorem w_c7 : (Jvm.Cond.code ({ cls := "java/lang/StringUTF16", name := "compress", desc := "([CI[BII)I" } : Jvm.MethodName) jdk_52_method_21_code (7 : Nat) (Option.some Jvm.ClassFile.FieldType.int)).before args0 about1 = true := code_word (m := ⟨8, 9⟩) (meth := k8m9) (c := k8c9) (by decide +kernel) rfl rfl rfl (by decide +kernel)
set_option maxRecDepth 65536 in
theorem w_c8 : (Jvm.Cond.code ({ cls := "java/lang/StringUTF16", name := "coderFromArrayLen", desc := "([BI)B" } : Jvm.MethodName) jdk_52_method_15_code (2 : Nat) (Option.some Jvm.ClassFile.FieldType.byte)).before args0 about1 = true := code_word (m := ⟨8, 7⟩) (meth := k8m7) (c := k8c7) (by decide +kernel) rfl rfl rfl (by decide +kernel)
set_option maxRecDepth 65536 in
theorem w_c9 : (Jvm.Cond.code ({ cls := "com/example/updatable_views/updatableviews/SqlNames", name := "same", desc := "(Ljava/lang/String;Ljava/lang/String;)Z" } : Jvm.MethodName) prog_8_method_3_code (3 : Nat) (Option.some Jvm.ClassFile.FieldType.boolean)).before args0 about1 = true := code_word (m := ⟨9, 1⟩) (meth := k9m1) (c := k9c1) (by decide +kernel) rfl rfl rfl (by decide +kernel)
set_option maxRecDepth 65536 in
theorem w_c10 : (Jvm.Cond.code ({ cls := "java/lang/String", name := "length", desc := "()I" } : Jvm.MethodName) jdk_42_method_54_code (1 : Nat) (Option.some Jvm.ClassFile.FieldType.int)).before args0 about1 = true := code_word (m := ⟨7, 2⟩) (meth := k7m2) (c := k7c2) (by decide +kernel) rfl rfl rfl (by decide +kernel)
set_option maxRecDepth 65536 in
theorem w_c11 : (Jvm.Cond.code ({ cls := "java/lang/String", name := "coder", desc := "()B" } : Jvm.MethodName) jdk_42_method_152_code (1 : Nat) (Option.some Jvm.ClassFile.FieldType.byte)).before args0 about1 = true := code_word (m := ⟨7, 5⟩) (meth := k7m5) (c := k7c5) (by decide +kernel) rfl rfl rfl (by decide +kernel)
set_option maxRecDepth 65536 in
theorem w_c12 : (Jvm.Cond.code ({ cls := "java/lang/StringUTF16", name := "toBytes", desc := "([CII)[B" } : Jvm.MethodName) jdk_52_method_14_code (5 : Nat) (Option.some (Jvm.ClassFile.FieldType.array Jvm.ClassFile.FieldType.byte))).before args0 about1 = true := code_word (m := ⟨8, 6⟩) (meth := k8m6) (c := k8c6) (by decide +kernel) rfl rfl rfl (by decide +kernel)
set_option maxRecDepth 65536 in
theorem w_c13 : (Jvm.Cond.code ({ cls := "java/lang/StringUTF16", name := "newBytesFor", desc := "(I)[B" } : Jvm.MethodName) jdk_52_method_2_code (1 : Nat) (Option.some (Jvm.ClassFile.FieldType.array Jvm.ClassFile.FieldType.byte))).before args0 about1 = true := code_word (m := ⟨8, 1⟩) (meth := k8m1) (c := k8c1) (by decide +kernel) rfl rfl rfl (by decide +kernel)
set_option maxRecDepth 65536 in
theorem w_c14 : (Jvm.Cond.code ({ cls := "java/lang/StringUTF16", name := "newBytesLength", desc := "(I)I" } : Jvm.MethodName) jdk_52_method_3_code (1 : Nat) (Option.some Jvm.ClassFile.FieldType.int)).before args0 about1 = true := code_word (m := ⟨8, 2⟩) (meth := k8m2) (c := k8c2) (by decide +kernel) rfl rfl rfl (by decide +kernel)
set_option maxRecDepth 65536 in
theorem w_c15 : (Jvm.Cond.code ({ cls := "java/lang/StringUTF16", name := "putChar", desc := "([BII)V" } : Jvm.MethodName) jdk_52_method_4_code (3 : Nat) (Option.none : Option Jvm.ClassFile.FieldType)).before args0 about1 = true := code_word (m := ⟨8, 3⟩) (meth := k8m3) (c := k8c3) (by decide +kernel) rfl rfl rfl (by decide +kernel)
set_option maxRecDepth 65536 in
theorem w_c16 : (Jvm.Cond.code ({ cls := "java/lang/StringUTF16", name := "getChar", desc := "([BI)C" } : Jvm.MethodName) jdk_52_method_5_code (2 : Nat) (Option.some Jvm.ClassFile.FieldType.char)).before args0 about1 = true := code_word (m := ⟨8, 4⟩) (meth := k8m4) (c := k8c4) (by decide +kernel) rfl rfl rfl (by decide +kernel)
set_option maxRecDepth 65536 in
theorem w_c17 : (Jvm.Cond.code ({ cls := "com/example/updatable_views/updatableviews/SqlNamesSamePinLaw", name := "eq", desc := "(CC)Z" } : Jvm.MethodName) method_5_code (2 : Nat) (Option.some Jvm.ClassFile.FieldType.boolean)).before args0 about1 = true := code_word (m := ⟨1, 4⟩) (meth := k1m4) (c := k1c4) (by decide +kernel) rfl rfl rfl (by decide +kernel)
set_option maxRecDepth 65536 in
theorem w_c18 : (Jvm.Cond.code ({ cls := "java/lang/String", name := "charAt", desc := "(I)C" } : Jvm.MethodName) jdk_42_method_56_code (2 : Nat) (Option.some Jvm.ClassFile.FieldType.char)).before args0 about1 = true := code_word (m := ⟨7, 3⟩) (meth := k7m3) (c := k7c3) (by decide +kernel) rfl rfl rfl (by decide +kernel)
set_option maxRecDepth 65536 in
theorem w_c19 : (Jvm.Cond.code ({ cls := "java/lang/String", name := "isLatin1", desc := "()Z" } : Jvm.MethodName) jdk_42_method_154_code (1 : Nat) (Option.some Jvm.ClassFile.FieldType.boolean)).before args0 about1 = true := code_word (m := ⟨7, 6⟩) (meth := k7m6) (c := k7c6) (by decide +kernel) rfl rfl rfl (by decide +kernel)
set_option maxRecDepth 65536 in
theorem w_c20 : (Jvm.Cond.code ({ cls := "java/lang/StringLatin1", name := "charAt", desc := "([BI)C" } : Jvm.MethodName) jdk_43_method_2_code (2 : Nat) (Option.some Jvm.ClassFile.FieldType.char)).before args0 about1 = true := code_word (m := ⟨10, 1⟩) (meth := k10m1) (c := k10c1) (by decide +kernel) rfl rfl rfl (by decide +kernel)
set_option maxRecDepth 65536 in
theorem w_c21 : (Jvm.Cond.code ({ cls := "java/lang/String", name := "checkIndex", desc := "(II)V" } : Jvm.MethodName) jdk_42_method_155_code (2 : Nat) (Option.none : Option Jvm.ClassFile.FieldType)).before args0 about1 = true := code_word (m := ⟨7, 7⟩) (meth := k7m7) (c := k7c7) (by decide +kernel) rfl rfl rfl (by decide +kernel)
set_option maxRecDepth 65536 in
theorem w_c22 : (Jvm.Cond.code ({ cls := "jdk/internal/util/Preconditions", name := "checkIndex", desc := "(IILjava/util/function/BiFunction;)I" } : Jvm.MethodName) jdk_41_method_11_code (3 : Nat) (Option.some Jvm.ClassFile.FieldType.int)).before args0 about1 = true := code_word (m := ⟨11, 1⟩) (meth := k11m1) (c := k11c1) (by decide +kernel) rfl rfl rfl (by decide +kernel)
set_option maxRecDepth 65536 in
theorem w_c23 : (Jvm.Cond.code ({ cls := "com/example/updatable_views/updatableviews/SqlNames", name := "lower", desc := "(C)C" } : Jvm.MethodName) prog_8_method_5_code (1 : Nat) (Option.some Jvm.ClassFile.FieldType.char)).before args0 about1 = true := code_word (m := ⟨9, 2⟩) (meth := k9m2) (c := k9c2) (by decide +kernel) rfl rfl rfl (by decide +kernel)
set_option maxRecDepth 65536 in
theorem w_c24 : (Jvm.Cond.code ({ cls := "java/lang/StringUTF16", name := "charAt", desc := "([BI)C" } : Jvm.MethodName) jdk_52_method_83_code (2 : Nat) (Option.some Jvm.ClassFile.FieldType.char)).before args0 about1 = true := code_word (m := ⟨8, 10⟩) (meth := k8m10) (c := k8c10) (by decide +kernel) rfl rfl rfl (by decide +kernel)
set_option maxRecDepth 65536 in
theorem w_c25 : (Jvm.Cond.code ({ cls := "java/lang/StringUTF16", name := "checkIndex", desc := "(I[B)V" } : Jvm.MethodName) jdk_52_method_91_code (2 : Nat) (Option.none : Option Jvm.ClassFile.FieldType)).before args0 about1 = true := code_word (m := ⟨8, 11⟩) (meth := k8m11) (c := k8c11) (by decide +kernel) rfl rfl rfl (by decide +kernel)
set_option maxRecDepth 65536 in
theorem w_c26 : (Jvm.Cond.code ({ cls := "java/lang/StringUTF16", name := "length", desc := "([B)I" } : Jvm.MethodName) jdk_52_method_6_code (1 : Nat) (Option.some Jvm.ClassFile.FieldType.int)).before args0 about1 = true := code_word (m := ⟨8, 5⟩) (meth := k8m5) (c := k8c5) (by decide +kernel) rfl rfl rfl (by decide +kernel)
def codes1 : List Jvm.Cond := [Jvm.Cond.code x code maxLocals ret, Jvm.Cond.code ({ cls := "com/example/updatable_views/updatableviews/SqlNamesSamePinLaw", name := "pick", desc := "(ICC)C" } : Jvm.MethodName) method_3_code (3 : Nat) (Option.some Jvm.ClassFile.FieldType.char), Jvm.Cond.code ({ cls := "com/example/updatable_views/updatableviews/SqlNamesSamePinLaw", name := "mk", desc := "(ICCC)Ljava/lang/String;" } : Jvm.MethodName) method_4_code (4 : Nat) (Option.some (Jvm.ClassFile.FieldType.object "java/lang/String")), Jvm.Cond.code ({ cls := "java/lang/String", name := "<init>", desc := "([C)V" } : Jvm.MethodName) jdk_42_method_3_code (2 : Nat) (Option.none : Option Jvm.ClassFile.FieldType), Jvm.Cond.code ({ cls := "java/lang/String", name := "<init>", desc := "([CIILjava/lang/Void;)V" } : Jvm.MethodName) jdk_42_method_149_code (6 : Nat) (Option.none : Option Jvm.ClassFile.FieldType), Jvm.Cond.code ({ cls := "java/lang/Object", name := "<init>", desc := "()V" } : Jvm.MethodName) object_method_1_code (1 : Nat) (Option.none : Option Jvm.ClassFile.FieldType), Jvm.Cond.code ({ cls := "java/lang/StringUTF16", name := "compress", desc := "([CII)[B" } : Jvm.MethodName) jdk_52_method_16_code (6 : Nat) (Option.some (Jvm.ClassFile.FieldType.array Jvm.ClassFile.FieldType.byte)), Jvm.Cond.code ({ cls := "java/lang/StringUTF16", name := "compress", desc := "([CI[BII)I" } : Jvm.MethodName) jdk_52_method_21_code (7 : Nat) (Option.some Jvm.ClassFile.FieldType.int), Jvm.Cond.code ({ cls := "java/lang/StringUTF16", name := "coderFromArrayLen", desc := "([BI)B" } : Jvm.MethodName) jdk_52_method_15_code (2 : Nat) (Option.some Jvm.ClassFile.FieldType.byte), Jvm.Cond.code ({ cls := "com/example/updatable_views/updatableviews/SqlNames", name := "same", desc := "(Ljava/lang/String;Ljava/lang/String;)Z" } : Jvm.MethodName) prog_8_method_3_code (3 : Nat) (Option.some Jvm.ClassFile.FieldType.boolean), Jvm.Cond.code ({ cls := "java/lang/String", name := "length", desc := "()I" } : Jvm.MethodName) jdk_42_method_54_code (1 : Nat) (Option.some Jvm.ClassFile.FieldType.int), Jvm.Cond.code ({ cls := "java/lang/String", name := "coder", desc := "()B" } : Jvm.MethodName) jdk_42_method_152_code (1 : Nat) (Option.some Jvm.ClassFile.FieldType.byte), Jvm.Cond.code ({ cls := "java/lang/StringUTF16", name := "toBytes", desc := "([CII)[B" } : Jvm.MethodName) jdk_52_method_14_code (5 : Nat) (Option.some (Jvm.ClassFile.FieldType.array Jvm.ClassFile.FieldType.byte)), Jvm.Cond.code ({ cls := "java/lang/StringUTF16", name := "newBytesFor", desc := "(I)[B" } : Jvm.MethodName) jdk_52_method_2_code (1 : Nat) (Option.some (Jvm.ClassFile.FieldType.array Jvm.ClassFile.FieldType.byte)), Jvm.Cond.code ({ cls := "java/lang/StringUTF16", name := "newBytesLength", desc := "(I)I" } : Jvm.MethodName) jdk_52_method_3_code (1 : Nat) (Option.some Jvm.ClassFile.FieldType.int), Jvm.Cond.code ({ cls := "java/lang/StringUTF16", name := "putChar", desc := "([BII)V" } : Jvm.MethodName) jdk_52_method_4_code (3 : Nat) (Option.none : Option Jvm.ClassFile.FieldType), Jvm.Cond.code ({ cls := "java/lang/StringUTF16", name := "getChar", desc := "([BI)C" } : Jvm.MethodName) jdk_52_method_5_code (2 : Nat) (Option.some Jvm.ClassFile.FieldType.char), Jvm.Cond.code ({ cls := "com/example/updatable_views/updatableviews/SqlNamesSamePinLaw", name := "eq", desc := "(CC)Z" } : Jvm.MethodName) method_5_code (2 : Nat) (Option.some Jvm.ClassFile.FieldType.boolean), Jvm.Cond.code ({ cls := "java/lang/String", name := "charAt", desc := "(I)C" } : Jvm.MethodName) jdk_42_method_56_code (2 : Nat) (Option.some Jvm.ClassFile.FieldType.char), Jvm.Cond.code ({ cls := "java/lang/String", name := "isLatin1", desc := "()Z" } : Jvm.MethodName) jdk_42_method_154_code (1 : Nat) (Option.some Jvm.ClassFile.FieldType.boolean), Jvm.Cond.code ({ cls := "java/lang/StringLatin1", name := "charAt", desc := "([BI)C" } : Jvm.MethodName) jdk_43_method_2_code (2 : Nat) (Option.some Jvm.ClassFile.FieldType.char), Jvm.Cond.code ({ cls := "java/lang/String", name := "checkIndex", desc := "(II)V" } : Jvm.MethodName) jdk_42_method_155_code (2 : Nat) (Option.none : Option Jvm.ClassFile.FieldType), Jvm.Cond.code ({ cls := "jdk/internal/util/Preconditions", name := "checkIndex", desc := "(IILjava/util/function/BiFunction;)I" } : Jvm.MethodName) jdk_41_method_11_code (3 : Nat) (Option.some Jvm.ClassFile.FieldType.int), Jvm.Cond.code ({ cls := "com/example/updatable_views/updatableviews/SqlNames", name := "lower", desc := "(C)C" } : Jvm.MethodName) prog_8_method_5_code (1 : Nat) (Option.some Jvm.ClassFile.FieldType.char), Jvm.Cond.code ({ cls := "java/lang/StringUTF16", name := "charAt", desc := "([BI)C" } : Jvm.MethodName) jdk_52_method_83_code (2 : Nat) (Option.some Jvm.ClassFile.FieldType.char), Jvm.Cond.code ({ cls := "java/lang/StringUTF16", name := "checkIndex", desc := "(I[B)V" } : Jvm.MethodName) jdk_52_method_91_code (2 : Nat) (Option.none : Option Jvm.ClassFile.FieldType), Jvm.Cond.code ({ cls := "java/lang/StringUTF16", name := "length", desc := "([B)I" } : Jvm.MethodName) jdk_52_method_6_code (1 : Nat) (Option.some Jvm.ClassFile.FieldType.int)]
set_option maxRecDepth 65536 in
theorem codes_eq : words1.filter isCode = codes1 := rfl
theorem w_codes : ∀ c ∈ words1.filter isCode, c.before args0 about1 = true := by
  rw [codes_eq]
  intro c hc
  simp only [codes1, List.mem_cons, List.not_mem_nil, or_false] at hc
  rcases hc with rfl | rfl | rfl | rfl | rfl | rfl | rfl | rfl | rfl | rfl | rfl | rfl | rfl | rfl | rfl | rfl | rfl | rfl | rfl | rfl | rfl | rfl | rfl | rfl | rfl | rfl | rfl
  · exact w_c0
  · exact w_c1
  · exact w_c2
  · exact w_c3
  · exact w_c4
  · exact w_c5
  · exact w_c6
  · exact w_c7
  · exact w_c8
  · exact w_c9
  · exact w_c10
  · exact w_c11
  · exact w_c12
  · exact w_c13
  · exact w_c14
  · exact w_c15
  · exact w_c16
  · exact w_c17
  · exact w_c18
  · exact w_c19
  · exact w_c20
  · exact w_c21
  · exact w_c22
  · exact w_c23
  · exact w_c24
  · exact w_c25
  · exact w_c26
set_option maxRecDepth 65536 in
theorem w_t1 : (words1.take 24).all (fun c => isCode c || c.before args0 about1) = true := by decide +kernel
set_option maxRecDepth 65536 in
theorem w_t2 : ((words1.drop 24).take 24).all (fun c => isCode c || c.before args0 about1) = true := by decide +kernel
set_option maxRecDepth 65536 in
theorem w_t3 : (((words1.drop 24).drop 24).take 24).all (fun c => isCode c || c.before args0 about1) = true := by decide +kernel
set_option maxRecDepth 65536 in
theorem w_t4 : ((((words1.drop 24).drop 24).drop 24).take 24).all (fun c => isCode c || c.before args0 about1) = true := by decide +kernel
set_option maxRecDepth 65536 in
theorem w_t5 : ((((words1.drop 24).drop 24).drop 24).drop 24).all (fun c => isCode c || c.before args0 about1) = true := by decide +kernel
theorem w_tables : (allAtoms (Jvm.Cond.code x code maxLocals ret :: tables_1)).before args0 about1 = true := by
  rw [allAtoms_all]
  show words1.all (fun c => c.before args0 about1) = true
  refine all_split ?_ w_codes
  rw [← List.take_append_drop 24 words1, List.all_append, w_t1, ← List.take_append_drop 24 (words1.drop 24), List.all_append, w_t2, ← List.take_append_drop 24 ((words1.drop 24).drop 24), List.all_append, w_t3, ← List.take_append_drop 24 (((words1.drop 24).drop 24).drop 24), List.all_append, w_t4, w_t5]
  rfl
set_option maxRecDepth 65536 in
theorem w_rest : rest_1_c.before args0 about1 = true := by decide +kernel
set_option maxRecDepth 65536 in
theorem w_case : (Jvm.Cond.and given_1 narrow_1).before args0 about1 = true := by decide +kernel
set_option maxRecDepth 65536 in
theorem w_consts : constsHeld consts_1 about1 := Jvm.Lit.constsHeldB_iff.mp (by decide +kernel)
theorem w_applies : (headSpec (Jvm.Cond.code x code maxLocals ret :: tables_1) room_1).applies x e0.platform about1 = true :=
  (Spec.applies_iff w_frames).mpr ⟨w_running, w_runnable, w_alone, w_named, w_hears, w_ripe, w_room, w_tables⟩
theorem atStart : AtStart classFile x code maxLocals ret World_1 tables_1 room_1 Calls_1 rest_1 Pre_1 launch0 p0 e0 about1 theMethod args0 below0 :=
  ⟨lists_1, trivial, launch0.admits_env _ _ _, launch0.least_env, fairChoices_fair.cas, fairChoices_fair.clock, w_frames, w_args, w_heap, w_applies, ⟨w_consts, trivial⟩, w_rest, w_case⟩
end start1
theorem witness_1 : WitnessClaimed_1 := ⟨start1.p0, start1.e0, start1.about1, start1.theMethod, start1.args0, start1.below0, start1.atStart⟩
end Jvm.Pilot.@@N@@
