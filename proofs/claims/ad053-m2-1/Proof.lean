import JvmDerived
import JvmDerived.Pilot.@@N@@Statement
import JvmDerived.Pilot.@@N@@Code
set_option linter.unusedVariables false
set_option linter.unusedSimpArgs false
@@BLOCK:LamKit.lean.txt@@
namespace Jvm.Pilot.@@N@@
open Jvm.LamKit Jvm Jvm.ClassFile Sem Op Lib Jvm.Free Jvm.Stand Jvm.LawKit Jvm.RoadKit Bundle Jvm.Pilot.@@N@@.Jvm.D
section OwnBase
def Gets (tb : Tables) (e : Env) (below : List Frame) (P : Outcome → State → Prop) (T : State) (g : JFrame) : Prop := ∃ t o, Steps tb e below (T.setTop g) t ∧ t.status = .running ∧ Ended t below o ∧ P o t
theorem Gets.by {tb : Tables} {e : Env} {below : List Frame} {P : Outcome → State → Prop} {T T' : State} {g g' : JFrame} (h : Gets tb e below P T' g') (k : ∀ t, Steps tb e below (T'.setTop g') t → Steps tb e below (T.setTop g) t) : Gets tb e below P T g := by
  obtain ⟨t, o, h1, h2⟩ := h
  exact ⟨t, o, k t h1, h2⟩
theorem g_iloadN {tb : Tables} [Ours tb] {e : Env} {below : List Frame} {T : State} {m : MethodId} {c : Code} {P : Outcome → State → Prop} {pc pc' : Nat} {Ls : Array Slot} {st : List Value} {j : Fin 4} {v : Int32} (H : At T m c below) (hx : tb.exec = Jvm.exec) (hd : decode c.code pc = .ok (.iload_n j, 1)) (hl : Ls[j.val]? = some (.val (.int v))) (hp : pc + 1 = pc')
    (k : Gets tb e below P T (mkF m pc' Ls (.int v :: st))) : Gets tb e below P T (mkF m pc Ls (st)) := by
  subst hp; refine k.by fun t qq => ?_; exact XS.iloadN H hx rfl hd hl qq
theorem g_iload {tb : Tables} [Ours tb] {e : Env} {below : List Frame} {T : State} {m : MethodId} {c : Code} {P : Outcome → State → Prop} {pc pc' : Nat} {Ls : Array Slot} {st : List Value} {j : Nat} {v : Int32} (H : At T m c below) (hx : tb.exec = Jvm.exec) (hd : decode c.code pc = .ok (.iload j, 2)) (hl : Ls[j]? = some (.val (.int v))) (hp : pc + 2 = pc')
    (k : Gets tb e below P T (mkF m pc' Ls (.int v :: st))) : Gets tb e below P T (mkF m pc Ls (st)) := by
  subst hp; refine k.by fun t qq => ?_; exact XS.iload H hx rfl hd hl qq
theorem g_istoreN {tb : Tables} [Ours tb] {e : Env} {below : List Frame} {T : State} {m : MethodId} {c : Code} {P : Outcome → State → Prop} {pc pc' : Nat} {Ls : Array Slot} {st : List Value} {j : Fin 4} {v : Int32} {Ls' : Array Slot} (H : At T m c below) (hx : tb.exec = Jvm.exec) (hd : decode c.code pc = .ok (.istore_n j, 1)) (hl : storeLocals Ls j.val (.int v) = some Ls') (hp : pc + 1 = pc')
    (k : Gets tb e below P T (mkF m pc' Ls' (st))) : Gets tb e below P T (mkF m pc Ls (.int v :: st)) := by
  subst hp; refine k.by fun t qq => ?_; exact XS.istoreN H hx rfl hd rfl hl qq
theorem g_istore {tb : Tables} [Ours tb] {e : Env} {below : List Frame} {T : State} {m : MethodId} {c : Code} {P : Outcome → State → Prop} {pc pc' : Nat} {Ls : Array Slot} {st : List Value} {j : Nat} {v : Int32} {Ls' : Array Slot} (H : At T m c below) (hx : tb.exec = Jvm.exec) (hd : decode c.code pc = .ok (.istore j, 2)) (hl : storeLocals Ls j (.int v) = some Ls') (hp : pc + 2 = pc')
    (k : Gets tb e below P T (mkF m pc' Ls' (st))) : Gets tb e below P T (mkF m pc Ls (.int v :: st)) := by
  subst hp; refine k.by fun t qq => ?_; exact XS.istore H hx rfl hd rfl hl qq
theorem g_lloadN {tb : Tables} [Ours tb] {e : Env} {below : List Frame} {T : State} {m : MethodId} {c : Code} {P : Outcome → State → Prop} {pc pc' : Nat} {Ls : Array Slot} {st : List Value} {j : Fin 4} {v : Int64} (H : At T m c below) (hx : tb.exec = Jvm.exec) (hd : decode c.code pc = .ok (.lload_n j, 1)) (hl : Ls[j.val]? = some (.val (.long v))) (hp : pc + 1 = pc')
    (k : Gets tb e below P T (mkF m pc' Ls (.long v :: st))) : Gets tb e below P T (mkF m pc Ls (st)) := by
  subst hp; refine k.by fun t qq => ?_; exact XS.lloadN H hx rfl hd hl qq
theorem g_lload {tb : Tables} [Ours tb] {e : Env} {below : List Frame} {T : State} {m : MethodId} {c : Code} {P : Outcome → State → Prop} {pc pc' : Nat} {Ls : Array Slot} {st : List Value} {j : Nat} {v : Int64} (H : At T m c below) (hx : tb.exec = Jvm.exec) (hd : decode c.code pc = .ok (.lload j, 2)) (hl : Ls[j]? = some (.val (.long v))) (hp : pc + 2 = pc')
    (k : Gets tb e below P T (mkF m pc' Ls (.long v :: st))) : Gets tb e below P T (mkF m pc Ls (st)) := by
  subst hp; refine k.by fun t qq => ?_; exact XS.lload H hx rfl hd hl qq
theorem g_lstoreN {tb : Tables} [Ours tb] {e : Env} {below : List Frame} {T : State} {m : MethodId} {c : Code} {P : Outcome → State → Prop} {pc pc' : Nat} {Ls : Array Slot} {st : List Value} {j : Fin 4} {v : Int64} {Ls' : Array Slot} (H : At T m c below) (hx : tb.exec = Jvm.exec) (hd : decode c.code pc = .ok (.lstore_n j, 1)) (hl : storeLocals Ls j.val (.long v) = some Ls') (hp : pc + 1 = pc')
    (k : Gets tb e below P T (mkF m pc' Ls' (st))) : Gets tb e below P T (mkF m pc Ls (.long v :: st)) := by
  subst hp; refine k.by fun t qq => ?_; exact XS.lstoreN H hx rfl hd rfl hl qq
theorem g_lstore {tb : Tables} [Ours tb] {e : Env} {below : List Frame} {T : State} {m : MethodId} {c : Code} {P : Outcome → State → Prop} {pc pc' : Nat} {Ls : Array Slot} {st : List Value} {j : Nat} {v : Int64} {Ls' : Array Slot} (H : At T m c below) (hx : tb.exec = Jvm.exec) (hd : decode c.code pc = .ok (.lstore j, 2)) (hl : storeLocals Ls j (.long v) = some Ls') (hp : pc + 2 = pc')
    (k : Gets tb e below P T (mkF m pc' Ls' (st))) : Gets tb e below P T (mkF m pc Ls (.long v :: st)) := by
  subst hp; refine k.by fun t qq => ?_; exact XS.lstore H hx rfl hd rfl hl qq
theorem g_aloadN {tb : Tables} [Ours tb] {e : Env} {below : List Frame} {T : State} {m : MethodId} {c : Code} {P : Outcome → State → Prop} {pc pc' : Nat} {Ls : Array Slot} {st : List Value} {j : Fin 4} {v : Value} (H : At T m c below) (hx : tb.exec = Jvm.exec) (hd : decode c.code pc = .ok (.aload_n j, 1)) (hl : Ls[j.val]? = some (.val v)) (hv : v.isRef = true) (hp : pc + 1 = pc')
    (k : Gets tb e below P T (mkF m pc' Ls (v :: st))) : Gets tb e below P T (mkF m pc Ls (st)) := by
  subst hp; refine k.by fun t qq => ?_; exact XS.aloadN H hx rfl hd hl hv qq
theorem g_aload {tb : Tables} [Ours tb] {e : Env} {below : List Frame} {T : State} {m : MethodId} {c : Code} {P : Outcome → State → Prop} {pc pc' : Nat} {Ls : Array Slot} {st : List Value} {j : Nat} {v : Value} (H : At T m c below) (hx : tb.exec = Jvm.exec) (hd : decode c.code pc = .ok (.aload j, 2)) (hl : Ls[j]? = some (.val v)) (hv : v.isRef = true) (hp : pc + 2 = pc')
    (k : Gets tb e below P T (mkF m pc' Ls (v :: st))) : Gets tb e below P T (mkF m pc Ls (st)) := by
  subst hp; refine k.by fun t qq => ?_; exact XS.aload H hx rfl hd hl hv qq
theorem g_astoreN {tb : Tables} [Ours tb] {e : Env} {below : List Frame} {T : State} {m : MethodId} {c : Code} {P : Outcome → State → Prop} {pc pc' : Nat} {Ls : Array Slot} {st : List Value} {j : Fin 4} {v : Value} {Ls' : Array Slot} (H : At T m c below) (hx : tb.exec = Jvm.exec) (hd : decode c.code pc = .ok (.astore_n j, 1)) (hv : v.isRef = true) (hl : storeLocals Ls j.val v = some Ls') (hp : pc + 1 = pc')
    (k : Gets tb e below P T (mkF m pc' Ls' (st))) : Gets tb e below P T (mkF m pc Ls (v :: st)) := by
  subst hp; refine k.by fun t qq => ?_; exact XS.astoreN H hx rfl hd rfl hv hl qq
theorem g_astore {tb : Tables} [Ours tb] {e : Env} {below : List Frame} {T : State} {m : MethodId} {c : Code} {P : Outcome → State → Prop} {pc pc' : Nat} {Ls : Array Slot} {st : List Value} {j : Nat} {v : Value} {Ls' : Array Slot} (H : At T m c below) (hx : tb.exec = Jvm.exec) (hd : decode c.code pc = .ok (.astore j, 2)) (hv : v.isRef = true) (hl : storeLocals Ls j v = some Ls') (hp : pc + 2 = pc')
    (k : Gets tb e below P T (mkF m pc' Ls' (st))) : Gets tb e below P T (mkF m pc Ls (v :: st)) := by
  subst hp; refine k.by fun t qq => ?_; exact XS.astore H hx rfl hd rfl hv hl qq
theorem g_iconst {tb : Tables} [Ours tb] {e : Env} {below : List Frame} {T : State} {m : MethodId} {c : Code} {P : Outcome → State → Prop} {pc pc' : Nat} {Ls : Array Slot} {st : List Value} {i : Int} (v : Int32) (H : At T m c below) (hx : tb.exec = Jvm.exec) (hd : decode c.code pc = .ok (.iconst i, 1)) (hv : Int32.ofInt i = v) (hp : pc + 1 = pc')
    (k : Gets tb e below P T (mkF m pc' Ls (.int v :: st))) : Gets tb e below P T (mkF m pc Ls st) := by
  subst hp; subst hv; refine k.by fun t qq => ?_; exact XS.iconst H hx rfl hd qq
theorem g_bipush {tb : Tables} [Ours tb] {e : Env} {below : List Frame} {T : State} {m : MethodId} {c : Code} {P : Outcome → State → Prop} {pc pc' : Nat} {Ls : Array Slot} {st : List Value} {i : Int} (v : Int32) (H : At T m c below) (hx : tb.exec = Jvm.exec) (hd : decode c.code pc = .ok (.bipush i, 2)) (hv : (Int8.ofInt i).toInt32 = v) (hp : pc + 2 = pc')
    (k : Gets tb e below P T (mkF m pc' Ls (.int v :: st))) : Gets tb e below P T (mkF m pc Ls st) := by
  subst hp; subst hv; refine k.by fun t qq => ?_; exact XS.bipush H hx rfl hd qq
theorem g_sipush {tb : Tables} [Ours tb] {e : Env} {below : List Frame} {T : State} {m : MethodId} {c : Code} {P : Outcome → State → Prop} {pc pc' : Nat} {Ls : Array Slot} {st : List Value} {i : Int} (v : Int32) (H : At T m c below) (hx : tb.exec = Jvm.exec) (hd : decode c.code pc = .ok (.sipush i, 3)) (hv : (Int16.ofInt i).toInt32 = v) (hp : pc + 3 = pc')
    (k : Gets tb e below P T (mkF m pc' Ls (.int v :: st))) : Gets tb e below P T (mkF m pc Ls st) := by
  subst hp; subst hv; refine k.by fun t qq => ?_; exact XS.sipush H hx rfl hd qq
theorem g_aconstNull {tb : Tables} [Ours tb] {e : Env} {below : List Frame} {T : State} {m : MethodId} {c : Code} {P : Outcome → State → Prop} {pc pc' : Nat} {Ls : Array Slot} {st : List Value}  (H : At T m c below) (hx : tb.exec = Jvm.exec) (hd : decode c.code pc = .ok (.aconst_null, 1))  (hp : pc + 1 = pc')
    (k : Gets tb e below P T (mkF m pc' Ls (.null :: st))) : Gets tb e below P T (mkF m pc Ls (st)) := by
  subst hp; refine k.by fun t qq => ?_; exact XS.aconstNull H hx rfl hd  qq
theorem g_iadd {tb : Tables} [Ours tb] {e : Env} {below : List Frame} {T : State} {m : MethodId} {c : Code} {P : Outcome → State → Prop} {pc pc' : Nat} {Ls : Array Slot} {st : List Value} {x y : Int32} (H : At T m c below) (hx : tb.exec = Jvm.exec) (hd : decode c.code pc = .ok (.iadd, 1))  (hp : pc + 1 = pc')
    (k : Gets tb e below P T (mkF m pc' Ls (.int (x + y) :: st))) : Gets tb e below P T (mkF m pc Ls (.int y :: .int x :: st)) := by
  subst hp; refine k.by fun t qq => ?_; exact XS.iadd H hx rfl hd rfl qq
theorem g_isub {tb : Tables} [Ours tb] {e : Env} {below : List Frame} {T : State} {m : MethodId} {c : Code} {P : Outcome → State → Prop} {pc pc' : Nat} {Ls : Array Slot} {st : List Value} {x y : Int32} (H : At T m c below) (hx : tb.exec = Jvm.exec) (hd : decode c.code pc = .ok (.isub, 1))  (hp : pc + 1 = pc')
    (k : Gets tb e below P T (mkF m pc' Ls (.int (x - y) :: st))) : Gets tb e below P T (mkF m pc Ls (.int y :: .int x :: st)) := by
  subst hp; refine k.by fun t qq => ?_; exact XS.isub H hx rfl hd rfl qq
theorem g_imul {tb : Tables} [Ours tb] {e : Env} {below : List Frame} {T : State} {m : MethodId} {c : Code} {P : Outcome → State → Prop} {pc pc' : Nat} {Ls : Array Slot} {st : List Value} {x y : Int32} (H : At T m c below) (hx : tb.exec = Jvm.exec) (hd : decode c.code pc = .ok (.imul, 1))  (hp : pc + 1 = pc')
    (k : Gets tb e below P T (mkF m pc' Ls (.int (x * y) :: st))) : Gets tb e below P T (mkF m pc Ls (.int y :: .int x :: st)) := by
  subst hp; refine k.by fun t qq => ?_; exact XS.imul H hx rfl hd rfl qq
theorem g_iand {tb : Tables} [Ours tb] {e : Env} {below : List Frame} {T : State} {m : MethodId} {c : Code} {P : Outcome → State → Prop} {pc pc' : Nat} {Ls : Array Slot} {st : List Value} {x y : Int32} (H : At T m c below) (hx : tb.exec = Jvm.exec) (hd : decode c.code pc = .ok (.iand, 1))  (hp : pc + 1 = pc')
    (k : Gets tb e below P T (mkF m pc' Ls (.int (x &&& y) :: st))) : Gets tb e below P T (mkF m pc Ls (.int y :: .int x :: st)) := by
  subst hp; refine k.by fun t qq => ?_; exact XS.iand H hx rfl hd rfl qq
theorem g_ior {tb : Tables} [Ours tb] {e : Env} {below : List Frame} {T : State} {m : MethodId} {c : Code} {P : Outcome → State → Prop} {pc pc' : Nat} {Ls : Array Slot} {st : List Value} {x y : Int32} (H : At T m c below) (hx : tb.exec = Jvm.exec) (hd : decode c.code pc = .ok (.ior, 1))  (hp : pc + 1 = pc')
    (k : Gets tb e below P T (mkF m pc' Ls (.int (x ||| y) :: st))) : Gets tb e below P T (mkF m pc Ls (.int y :: .int x :: st)) := by
  subst hp; refine k.by fun t qq => ?_; exact XS.ior H hx rfl hd rfl qq
theorem g_ixor {tb : Tables} [Ours tb] {e : Env} {below : List Frame} {T : State} {m : MethodId} {c : Code} {P : Outcome → State → Prop} {pc pc' : Nat} {Ls : Array Slot} {st : List Value} {x y : Int32} (H : At T m c below) (hx : tb.exec = Jvm.exec) (hd : decode c.code pc = .ok (.ixor, 1))  (hp : pc + 1 = pc')
    (k : Gets tb e below P T (mkF m pc' Ls (.int (x ^^^ y) :: st))) : Gets tb e below P T (mkF m pc Ls (.int y :: .int x :: st)) := by
  subst hp; refine k.by fun t qq => ?_; exact XS.ixor H hx rfl hd rfl qq
theorem g_ishl {tb : Tables} [Ours tb] {e : Env} {below : List Frame} {T : State} {m : MethodId} {c : Code} {P : Outcome → State → Prop} {pc pc' : Nat} {Ls : Array Slot} {st : List Value} {x y : Int32} (H : At T m c below) (hx : tb.exec = Jvm.exec) (hd : decode c.code pc = .ok (.ishl, 1))  (hp : pc + 1 = pc')
    (k : Gets tb e below P T (mkF m pc' Ls (.int (x <<< (y &&& 31)) :: st))) : Gets tb e below P T (mkF m pc Ls (.int y :: .int x :: st)) := by
  subst hp; refine k.by fun t qq => ?_; exact XS.ishl H hx rfl hd rfl qq
theorem g_ishr {tb : Tables} [Ours tb] {e : Env} {below : List Frame} {T : State} {m : MethodId} {c : Code} {P : Outcome → State → Prop} {pc pc' : Nat} {Ls : Array Slot} {st : List Value} {x y : Int32} (H : At T m c below) (hx : tb.exec = Jvm.exec) (hd : decode c.code pc = .ok (.ishr, 1))  (hp : pc + 1 = pc')
    (k : Gets tb e below P T (mkF m pc' Ls (.int (x >>> (y &&& 31)) :: st))) : Gets tb e below P T (mkF m pc Ls (.int y :: .int x :: st)) := by
  subst hp; refine k.by fun t qq => ?_; exact XS.ishr H hx rfl hd rfl qq
theorem g_iushr {tb : Tables} [Ours tb] {e : Env} {below : List Frame} {T : State} {m : MethodId} {c : Code} {P : Outcome → State → Prop} {pc pc' : Nat} {Ls : Array Slot} {st : List Value} {x y : Int32} (H : At T m c below) (hx : tb.exec = Jvm.exec) (hd : decode c.code pc = .ok (.iushr, 1))  (hp : pc + 1 = pc')
    (k : Gets tb e below P T (mkF m pc' Ls (.int ((x.toUInt32 >>> (y &&& 31).toUInt32).toInt32) :: st))) : Gets tb e below P T (mkF m pc Ls (.int y :: .int x :: st)) := by
  subst hp; refine k.by fun t qq => ?_; exact XS.iushr H hx rfl hd rfl qq
theorem g_ladd {tb : Tables} [Ours tb] {e : Env} {below : List Frame} {T : State} {m : MethodId} {c : Code} {P : Outcome → State → Prop} {pc pc' : Nat} {Ls : Array Slot} {st : List Value} {x y : Int64} (H : At T m c below) (hx : tb.exec = Jvm.exec) (hd : decode c.code pc = .ok (.ladd, 1))  (hp : pc + 1 = pc')
    (k : Gets tb e below P T (mkF m pc' Ls (.long (x + y) :: st))) : Gets tb e below P T (mkF m pc Ls (.long y :: .long x :: st)) := by
  subst hp; refine k.by fun t qq => ?_; exact XS.ladd H hx rfl hd rfl qq
theorem g_lsub {tb : Tables} [Ours tb] {e : Env} {below : List Frame} {T : State} {m : MethodId} {c : Code} {P : Outcome → State → Prop} {pc pc' : Nat} {Ls : Array Slot} {st : List Value} {x y : Int64} (H : At T m c below) (hx : tb.exec = Jvm.exec) (hd : decode c.code pc = .ok (.lsub, 1))  (hp : pc + 1 = pc')
    (k : Gets tb e below P T (mkF m pc' Ls (.long (x - y) :: st))) : Gets tb e below P T (mkF m pc Ls (.long y :: .long x :: st)) := by
  subst hp; refine k.by fun t qq => ?_; exact XS.lsub H hx rfl hd rfl qq
theorem g_lmul {tb : Tables} [Ours tb] {e : Env} {below : List Frame} {T : State} {m : MethodId} {c : Code} {P : Outcome → State → Prop} {pc pc' : Nat} {Ls : Array Slot} {st : List Value} {x y : Int64} (H : At T m c below) (hx : tb.exec = Jvm.exec) (hd : decode c.code pc = .ok (.lmul, 1))  (hp : pc + 1 = pc')
    (k : Gets tb e below P T (mkF m pc' Ls (.long (x * y) :: st))) : Gets tb e below P T (mkF m pc Ls (.long y :: .long x :: st)) := by
  subst hp; refine k.by fun t qq => ?_; exact XS.lmul H hx rfl hd rfl qq
theorem g_land {tb : Tables} [Ours tb] {e : Env} {below : List Frame} {T : State} {m : MethodId} {c : Code} {P : Outcome → State → Prop} {pc pc' : Nat} {Ls : Array Slot} {st : List Value} {x y : Int64} (H : At T m c below) (hx : tb.exec = Jvm.exec) (hd : decode c.code pc = .ok (.land, 1))  (hp : pc + 1 = pc')
    (k : Gets tb e below P T (mkF m pc' Ls (.long (x &&& y) :: st))) : Gets tb e below P T (mkF m pc Ls (.long y :: .long x :: st)) := by
  subst hp; refine k.by fun t qq => ?_; exact XS.land H hx rfl hd rfl qq
theorem g_lor {tb : Tables} [Ours tb] {e : Env} {below : List Frame} {T : State} {m : MethodId} {c : Code} {P : Outcome → State → Prop} {pc pc' : Nat} {Ls : Array Slot} {st : List Value} {x y : Int64} (H : At T m c below) (hx : tb.exec = Jvm.exec) (hd : decode c.code pc = .ok (.lor, 1))  (hp : pc + 1 = pc')
    (k : Gets tb e below P T (mkF m pc' Ls (.long (x ||| y) :: st))) : Gets tb e below P T (mkF m pc Ls (.long y :: .long x :: st)) := by
  subst hp; refine k.by fun t qq => ?_; exact XS.lor H hx rfl hd rfl qq
theorem g_lxor {tb : Tables} [Ours tb] {e : Env} {below : List Frame} {T : State} {m : MethodId} {c : Code} {P : Outcome → State → Prop} {pc pc' : Nat} {Ls : Array Slot} {st : List Value} {x y : Int64} (H : At T m c below) (hx : tb.exec = Jvm.exec) (hd : decode c.code pc = .ok (.lxor, 1))  (hp : pc + 1 = pc')
    (k : Gets tb e below P T (mkF m pc' Ls (.long (x ^^^ y) :: st))) : Gets tb e below P T (mkF m pc Ls (.long y :: .long x :: st)) := by
  subst hp; refine k.by fun t qq => ?_; exact XS.lxor H hx rfl hd rfl qq
theorem g_lshl {tb : Tables} [Ours tb] {e : Env} {below : List Frame} {T : State} {m : MethodId} {c : Code} {P : Outcome → State → Prop} {pc pc' : Nat} {Ls : Array Slot} {st : List Value} {x : Int64} {y : Int32} (H : At T m c below) (hx : tb.exec = Jvm.exec) (hd : decode c.code pc = .ok (.lshl, 1))  (hp : pc + 1 = pc')
    (k : Gets tb e below P T (mkF m pc' Ls (.long (x <<< (y &&& 0x3f).toInt64) :: st))) : Gets tb e below P T (mkF m pc Ls (.int y :: .long x :: st)) := by
  subst hp; refine k.by fun t qq => ?_; exact XS.lshl H hx rfl hd rfl qq
theorem g_lshr {tb : Tables} [Ours tb] {e : Env} {below : List Frame} {T : State} {m : MethodId} {c : Code} {P : Outcome → State → Prop} {pc pc' : Nat} {Ls : Array Slot} {st : List Value} {x : Int64} {y : Int32} (H : At T m c below) (hx : tb.exec = Jvm.exec) (hd : decode c.code pc = .ok (.lshr, 1))  (hp : pc + 1 = pc')
    (k : Gets tb e below P T (mkF m pc' Ls (.long (x >>> (y &&& 0x3f).toInt64) :: st))) : Gets tb e below P T (mkF m pc Ls (.int y :: .long x :: st)) := by
  subst hp; refine k.by fun t qq => ?_; exact XS.lshr H hx rfl hd rfl qq
theorem g_lushr {tb : Tables} [Ours tb] {e : Env} {below : List Frame} {T : State} {m : MethodId} {c : Code} {P : Outcome → State → Prop} {pc pc' : Nat} {Ls : Array Slot} {st : List Value} {x : Int64} {y : Int32} (H : At T m c below) (hx : tb.exec = Jvm.exec) (hd : decode c.code pc = .ok (.lushr, 1))  (hp : pc + 1 = pc')
    (k : Gets tb e below P T (mkF m pc' Ls (.long ((x.toUInt64 >>> (y &&& 0x3f).toInt64.toUInt64).toInt64) :: st))) : Gets tb e below P T (mkF m pc Ls (.int y :: .long x :: st)) := by
  subst hp; refine k.by fun t qq => ?_; exact XS.lushr H hx rfl hd rfl qq
theorem g_lcmp {tb : Tables} [Ours tb] {e : Env} {below : List Frame} {T : State} {m : MethodId} {c : Code} {P : Outcome → State → Prop} {pc pc' : Nat} {Ls : Array Slot} {st : List Value} {x y : Int64} (H : At T m c below) (hx : tb.exec = Jvm.exec) (hd : decode c.code pc = .ok (.lcmp, 1))  (hp : pc + 1 = pc')
    (k : Gets tb e below P T (mkF m pc' Ls (.int (lcmpW x y) :: st))) : Gets tb e below P T (mkF m pc Ls (.long y :: .long x :: st)) := by
  subst hp; refine k.by fun t qq => ?_; exact XS.lcmp H hx rfl hd rfl qq
theorem g_ineg {tb : Tables} [Ours tb] {e : Env} {below : List Frame} {T : State} {m : MethodId} {c : Code} {P : Outcome → State → Prop} {pc pc' : Nat} {Ls : Array Slot} {st : List Value} {x : Int32} (H : At T m c below) (hx : tb.exec = Jvm.exec) (hd : decode c.code pc = .ok (.ineg, 1))  (hp : pc + 1 = pc')
    (k : Gets tb e below P T (mkF m pc' Ls (.int (-x) :: st))) : Gets tb e below P T (mkF m pc Ls (.int x :: st)) := by
  subst hp; refine k.by fun t qq => ?_; exact XS.ineg H hx rfl hd rfl qq
theorem g_i2b {tb : Tables} [Ours tb] {e : Env} {below : List Frame} {T : State} {m : MethodId} {c : Code} {P : Outcome → State → Prop} {pc pc' : Nat} {Ls : Array Slot} {st : List Value} {x : Int32} (H : At T m c below) (hx : tb.exec = Jvm.exec) (hd : decode c.code pc = .ok (.i2b, 1))  (hp : pc + 1 = pc')
    (k : Gets tb e below P T (mkF m pc' Ls (.int (x.toInt8.toInt32) :: st))) : Gets tb e below P T (mkF m pc Ls (.int x :: st)) := by
  subst hp; refine k.by fun t qq => ?_; exact XS.i2b H hx rfl hd rfl qq
theorem g_i2s {tb : Tables} [Ours tb] {e : Env} {below : List Frame} {T : State} {m : MethodId} {c : Code} {P : Outcome → State → Prop} {pc pc' : Nat} {Ls : Array Slot} {st : List Value} {x : Int32} (H : At T m c below) (hx : tb.exec = Jvm.exec) (hd : decode c.code pc = .ok (.i2s, 1))  (hp : pc + 1 = pc')
    (k : Gets tb e below P T (mkF m pc' Ls (.int (x.toInt16.toInt32) :: st))) : Gets tb e below P T (mkF m pc Ls (.int x :: st)) := by
  subst hp; refine k.by fun t qq => ?_; exact XS.i2s H hx rfl hd rfl qq
theorem g_i2c {tb : Tables} [Ours tb] {e : Env} {below : List Frame} {T : State} {m : MethodId} {c : Code} {P : Outcome → State → Prop} {pc pc' : Nat} {Ls : Array Slot} {st : List Value} {x : Int32} (H : At T m c below) (hx : tb.exec = Jvm.exec) (hd : decode c.code pc = .ok (.i2c, 1))  (hp : pc + 1 = pc')
    (k : Gets tb e below P T (mkF m pc' Ls (.int (x.toUInt32.toUInt16.toUInt32.toInt32) :: st))) : Gets tb e below P T (mkF m pc Ls (.int x :: st)) := by
  subst hp; refine k.by fun t qq => ?_; exact XS.i2c H hx rfl hd rfl qq
theorem g_i2l {tb : Tables} [Ours tb] {e : Env} {below : List Frame} {T : State} {m : MethodId} {c : Code} {P : Outcome → State → Prop} {pc pc' : Nat} {Ls : Array Slot} {st : List Value} {x : Int32} (H : At T m c below) (hx : tb.exec = Jvm.exec) (hd : decode c.code pc = .ok (.i2l, 1))  (hp : pc + 1 = pc')
    (k : Gets tb e below P T (mkF m pc' Ls (.long x.toInt64 :: st))) : Gets tb e below P T (mkF m pc Ls (.int x :: st)) := by
  subst hp; refine k.by fun t qq => ?_; exact XS.i2l H hx rfl hd rfl qq
theorem g_l2i {tb : Tables} [Ours tb] {e : Env} {below : List Frame} {T : State} {m : MethodId} {c : Code} {P : Outcome → State → Prop} {pc pc' : Nat} {Ls : Array Slot} {st : List Value} {x : Int64} (H : At T m c below) (hx : tb.exec = Jvm.exec) (hd : decode c.code pc = .ok (.l2i, 1))  (hp : pc + 1 = pc')
    (k : Gets tb e below P T (mkF m pc' Ls (.int x.toInt32 :: st))) : Gets tb e below P T (mkF m pc Ls (.long x :: st)) := by
  subst hp; refine k.by fun t qq => ?_; exact XS.l2i H hx rfl hd rfl qq
theorem g_lneg {tb : Tables} [Ours tb] {e : Env} {below : List Frame} {T : State} {m : MethodId} {c : Code} {P : Outcome → State → Prop} {pc pc' : Nat} {Ls : Array Slot} {st : List Value} {x : Int64} (H : At T m c below) (hx : tb.exec = Jvm.exec) (hd : decode c.code pc = .ok (.lneg, 1))  (hp : pc + 1 = pc')
    (k : Gets tb e below P T (mkF m pc' Ls (.long (-x) :: st))) : Gets tb e below P T (mkF m pc Ls (.long x :: st)) := by
  subst hp; refine k.by fun t qq => ?_; exact XS.lneg H hx rfl hd rfl qq
theorem g_idiv {tb : Tables} [Ours tb] {e : Env} {below : List Frame} {T : State} {m : MethodId} {c : Code} {P : Outcome → State → Prop} {pc pc' : Nat} {Ls : Array Slot} {st : List Value} {x y : Int32} (H : At T m c below) (hx : tb.exec = Jvm.exec) (hd : decode c.code pc = .ok (.idiv, 1)) (hy : y ≠ 0) (hp : pc + 1 = pc')
    (k : Gets tb e below P T (mkF m pc' Ls (.int (x / y) :: st))) : Gets tb e below P T (mkF m pc Ls (.int y :: .int x :: st)) := by
  subst hp; refine k.by fun t qq => ?_; exact XS.idiv H hx rfl hd rfl hy qq
theorem g_dup {tb : Tables} [Ours tb] {e : Env} {below : List Frame} {T : State} {m : MethodId} {c : Code} {P : Outcome → State → Prop} {pc pc' : Nat} {Ls : Array Slot} {st : List Value} {v : Value} (H : At T m c below) (hx : tb.exec = Jvm.exec) (hd : decode c.code pc = .ok (.dup, 1)) (hv : v.category = 1) (hp : pc + 1 = pc')
    (k : Gets tb e below P T (mkF m pc' Ls (v :: v :: st))) : Gets tb e below P T (mkF m pc Ls (v :: st)) := by
  subst hp; refine k.by fun t qq => ?_; exact XS.dup H hx rfl hd rfl hv qq
theorem g_pop {tb : Tables} [Ours tb] {e : Env} {below : List Frame} {T : State} {m : MethodId} {c : Code} {P : Outcome → State → Prop} {pc pc' : Nat} {Ls : Array Slot} {st : List Value} {v : Value} (H : At T m c below) (hx : tb.exec = Jvm.exec) (hd : decode c.code pc = .ok (.pop, 1)) (hv : v.category = 1) (hp : pc + 1 = pc')
    (k : Gets tb e below P T (mkF m pc' Ls (st))) : Gets tb e below P T (mkF m pc Ls (v :: st)) := by
  subst hp; refine k.by fun t qq => ?_; exact XS.pop H hx rfl hd rfl hv qq
theorem g_dupX1 {tb : Tables} [Ours tb] {e : Env} {below : List Frame} {T : State} {m : MethodId} {c : Code} {P : Outcome → State → Prop} {pc pc' : Nat} {Ls : Array Slot} {st : List Value} {v w : Value} (H : At T m c below) (hx : tb.exec = Jvm.exec) (hd : decode c.code pc = .ok (.dup_x1, 1)) (hv : v.category = 1) (hw : w.category = 1) (hp : pc + 1 = pc')
    (k : Gets tb e below P T (mkF m pc' Ls (v :: w :: v :: st))) : Gets tb e below P T (mkF m pc Ls (v :: w :: st)) := by
  subst hp; refine k.by fun t qq => ?_; exact XS.dupX1 H hx rfl hd rfl hv hw qq
theorem g_iinc {tb : Tables} [Ours tb] {e : Env} {below : List Frame} {T : State} {m : MethodId} {c : Code} {P : Outcome → State → Prop} {pc pc' : Nat} {Ls : Array Slot} {st : List Value} {j : Nat} {cst : Int} {x : Int32} {Ls' : Array Slot} (H : At T m c below) (hx : tb.exec = Jvm.exec) (hd : decode c.code pc = .ok (.iinc j cst, 3)) (hl : Ls[j]? = some (.val (.int x))) (hs : storeLocals Ls j (.int (x + Int32.ofInt cst)) = some Ls') (hp : pc + 3 = pc')
    (k : Gets tb e below P T (mkF m pc' Ls' (st))) : Gets tb e below P T (mkF m pc Ls (st)) := by
  subst hp; refine k.by fun t qq => ?_; exact XS.iinc H hx rfl hd hl hs qq
theorem g_lconst {tb : Tables} [Ours tb] {e : Env} {below : List Frame} {T : State} {m : MethodId} {c : Code} {P : Outcome → State → Prop} {pc pc' : Nat} {Ls : Array Slot} {st : List Value} {j : Fin 2} (v : Int64) (H : At T m c below) (hx : tb.exec = Jvm.exec) (hd : decode c.code pc = .ok (.lconst j, 1)) (hv : Int64.ofNat j = v) (hp : pc + 1 = pc')
    (k : Gets tb e below P T (mkF m pc' Ls (.long v :: st))) : Gets tb e below P T (mkF m pc Ls st) := by
  subst hp; subst hv; refine k.by fun t qq => ?_; exact XS.lconst H hx rfl hd qq
theorem g_irem {tb : Tables} [Ours tb] {e : Env} {below : List Frame} {T : State} {m : MethodId} {c : Code} {P : Outcome → State → Prop} {pc pc' : Nat} {Ls : Array Slot} {st : List Value} {x y : Int32} (H : At T m c below) (hx : tb.exec = Jvm.exec) (hd : decode c.code pc = .ok (.irem, 1)) (hy : y ≠ 0) (hp : pc + 1 = pc')
    (k : Gets tb e below P T (mkF m pc' Ls (.int (x % y) :: st))) : Gets tb e below P T (mkF m pc Ls (.int y :: .int x :: st)) := by
  subst hp
  have q : x - x / y * y = x % y := irem_eq_mod x y
  rw [← q] at k
  refine k.by fun t qq => ?_; exact XS.irem H hx rfl hd rfl hy qq
theorem g_goto {tb : Tables} [Ours tb] {e : Env} {below : List Frame} {T : State} {m : MethodId} {c : Code} {P : Outcome → State → Prop} {pc pc' : Nat} {Ls : Array Slot} {st : List Value} {o : Int} (H : At T m c below) (hx : tb.exec = Jvm.exec) (hd : decode c.code pc = .ok (.goto o, 3)) (hp : (pc : Int) + o = (pc' : Int))
    (k : Gets tb e below P T (mkF m pc' Ls st)) : Gets tb e below P T (mkF m pc Ls st) := by
  refine k.by fun t qq => ?_
  exact XS.goto H hx rfl (pc0 := pc) (pc' := pc') rfl hd (by rw [hp]; exact Int.natCast_nonneg _) (by rw [hp]; rfl) qq
theorem g_ifY {tb : Tables} [Ours tb] {e : Env} {below : List Frame} {T : State} {m : MethodId} {c : Code} {P : Outcome → State → Prop} {pc pc' : Nat} {Ls : Array Slot} {st : List Value} {o : Int} {cd : ClassFile.Cond} {x : Int32} (H : At T m c below) (hx : tb.exec = Jvm.exec) (hd : decode c.code pc = .ok (.ifCond cd o, 3)) (hp : (pc : Int) + o = (pc' : Int)) (q : if_icmp.holds cd x 0 = true)
    (k : Gets tb e below P T (mkF m pc' Ls st)) : Gets tb e below P T (mkF m pc Ls (.int x :: st)) := by
  refine k.by fun t qq => ?_
  exact XS.ifYes H hx rfl (pc0 := pc) (pc' := pc') rfl hd rfl ((if0 _ _).trans q) (by rw [hp]; exact Int.natCast_nonneg _) (by rw [hp]; rfl) qq
theorem g_ifN {tb : Tables} [Ours tb] {e : Env} {below : List Frame} {T : State} {m : MethodId} {c : Code} {P : Outcome → State → Prop} {pc pc' : Nat} {Ls : Array Slot} {st : List Value} {o : Int} {cd : ClassFile.Cond} {x : Int32} (H : At T m c below) (hx : tb.exec = Jvm.exec) (hd : decode c.code pc = .ok (.ifCond cd o, 3)) (hp : pc + 3 = pc') (q : if_icmp.holds cd x 0 = false)
    (k : Gets tb e below P T (mkF m pc' Ls st)) : Gets tb e below P T (mkF m pc Ls (.int x :: st)) := by
  subst hp; refine k.by fun t qq => ?_; exact XS.ifNo H hx rfl hd rfl ((if0 _ _).trans q) qq
theorem g_icmpY {tb : Tables} [Ours tb] {e : Env} {below : List Frame} {T : State} {m : MethodId} {c : Code} {P : Outcome → State → Prop} {pc pc' : Nat} {Ls : Array Slot} {st : List Value} {o : Int} {cd : ClassFile.Cond} {x y : Int32} (H : At T m c below) (hx : tb.exec = Jvm.exec) (hd : decode c.code pc = .ok (.if_icmp cd o, 3)) (hp : (pc : Int) + o = (pc' : Int)) (q : if_icmp.holds cd x y = true)
    (k : Gets tb e below P T (mkF m pc' Ls st)) : Gets tb e below P T (mkF m pc Ls (.int y :: .int x :: st)) := by
  refine k.by fun t qq => ?_
  exact XS.icmpYes H hx rfl (pc0 := pc) (pc' := pc') rfl hd rfl q (by rw [hp]; exact Int.natCast_nonneg _) (by rw [hp]; rfl) qq
theorem g_icmpN {tb : Tables} [Ours tb] {e : Env} {below : List Frame} {T : State} {m : MethodId} {c : Code} {P : Outcome → State → Prop} {pc pc' : Nat} {Ls : Array Slot} {st : List Value} {o : Int} {cd : ClassFile.Cond} {x y : Int32} (H : At T m c below) (hx : tb.exec = Jvm.exec) (hd : decode c.code pc = .ok (.if_icmp cd o, 3)) (hp : pc + 3 = pc') (q : if_icmp.holds cd x y = false)
    (k : Gets tb e below P T (mkF m pc' Ls st)) : Gets tb e below P T (mkF m pc Ls (.int y :: .int x :: st)) := by
  subst hp; refine k.by fun t qq => ?_; exact XS.icmpNo H hx rfl hd rfl q qq
theorem g_nullY {tb : Tables} [Ours tb] {e : Env} {below : List Frame} {T : State} {m : MethodId} {c : Code} {P : Outcome → State → Prop} {pc pc' : Nat} {Ls : Array Slot} {st : List Value} {o : Int} (H : At T m c below) (hx : tb.exec = Jvm.exec) (hd : decode c.code pc = .ok (.ifnull o, 3)) (hp : (pc : Int) + o = (pc' : Int))
    (k : Gets tb e below P T (mkF m pc' Ls st)) : Gets tb e below P T (mkF m pc Ls (.null :: st)) := by
  refine k.by fun t qq => ?_
  exact XS.ifnullYes H hx rfl (pc0 := pc) (pc' := pc') rfl hd rfl (by rw [hp]; exact Int.natCast_nonneg _) (by rw [hp]; rfl) qq
theorem g_nullN {tb : Tables} [Ours tb] {e : Env} {below : List Frame} {T : State} {m : MethodId} {c : Code} {P : Outcome → State → Prop} {pc pc' : Nat} {Ls : Array Slot} {st : List Value} {o : Int} {b : Addr} (H : At T m c below) (hx : tb.exec = Jvm.exec) (hd : decode c.code pc = .ok (.ifnull o, 3)) (hp : pc + 3 = pc')
    (k : Gets tb e below P T (mkF m pc' Ls st)) : Gets tb e below P T (mkF m pc Ls (.ref b :: st)) := by
  subst hp; refine k.by fun t qq => ?_; exact XS.ifnullNo H hx rfl hd rfl qq
theorem g_nonnullY {tb : Tables} [Ours tb] {e : Env} {below : List Frame} {T : State} {m : MethodId} {c : Code} {P : Outcome → State → Prop} {pc pc' : Nat} {Ls : Array Slot} {st : List Value} {o : Int} {b : Addr} (H : At T m c below) (hx : tb.exec = Jvm.exec) (hd : decode c.code pc = .ok (.ifnonnull o, 3)) (hp : (pc : Int) + o = (pc' : Int))
    (k : Gets tb e below P T (mkF m pc' Ls st)) : Gets tb e below P T (mkF m pc Ls (.ref b :: st)) := by
  refine k.by fun t qq => ?_
  exact XS.ifnonnullYes H hx rfl (pc0 := pc) (pc' := pc') rfl hd rfl (by rw [hp]; exact Int.natCast_nonneg _) (by rw [hp]; rfl) qq
theorem g_nonnullN {tb : Tables} [Ours tb] {e : Env} {below : List Frame} {T : State} {m : MethodId} {c : Code} {P : Outcome → State → Prop} {pc pc' : Nat} {Ls : Array Slot} {st : List Value} {o : Int} (H : At T m c below) (hx : tb.exec = Jvm.exec) (hd : decode c.code pc = .ok (.ifnonnull o, 3)) (hp : pc + 3 = pc')
    (k : Gets tb e below P T (mkF m pc' Ls st)) : Gets tb e below P T (mkF m pc Ls (.null :: st)) := by
  subst hp; refine k.by fun t qq => ?_; exact XS.ifnonnullNo H hx rfl hd rfl qq
theorem g_tsw {tb : Tables} [Ours tb] {e : Env} {below : List Frame} {T : State} {m : MethodId} {c : Code} {P : Outcome → State → Prop} {pc pc' : Nat} {Ls : Array Slot} {st : List Value} {dflt low high : Int} {offs : Array Int} {len : Nat} {o : Int} {i : Int32} (H : At T m c below) (hx : tb.exec = Jvm.exec) (hd : decode c.code pc = .ok (.tableswitch dflt low high offs, len)) (hin : ¬ (i.toInt < low ∨ i.toInt > high)) (hoff : offs[(i.toInt - low).toNat]? = some o) (hp : (pc : Int) + o = (pc' : Int))
    (k : Gets tb e below P T (mkF m pc' Ls st)) : Gets tb e below P T (mkF m pc Ls (.int i :: st)) := by
  refine k.by fun t qq => ?_
  exact XS.tswIn H hx rfl (pc0 := pc) (pc' := pc') rfl hd rfl hin hoff (by rw [hp]; exact Int.natCast_nonneg _) (by rw [hp]; rfl) qq
theorem g_iincV {tb : Tables} [Ours tb] {e : Env} {below : List Frame} {T : State} {m : MethodId} {c : Code} {P : Outcome → State → Prop} {pc pc' : Nat} {Ls Ls' : Array Slot} {st : List Value} {j : Nat} {cst : Int} {x : Int32} (v : Int32) (H : At T m c below) (hx : tb.exec = Jvm.exec) (hd : decode c.code pc = .ok (.iinc j cst, 3)) (hv : x + Int32.ofInt cst = v) (hl : Ls[j]? = some (.val (.int x))) (hs : storeLocals Ls j (.int v) = some Ls') (hp : pc + 3 = pc')
    (k : Gets tb e below P T (mkF m pc' Ls' st)) : Gets tb e below P T (mkF m pc Ls st) := by
  subst hp; subst hv; refine k.by fun t qq => ?_; exact XS.iinc H hx rfl hd hl hs qq
/-- an array's exact content -/
def Ary (Z : State) (h : Heap) (a : Addr) (ty : FieldType) (vs : List Value) : Prop := ∃ cl : Cell, Arr Z h a cl ty ∧ cl.slots.toList = vs ∧ vs.length < 2 ^ 31 ∧ ∀ v ∈ vs, fits ty v = true
theorem Ary.lt {Z : State} {h : Heap} {a : Addr} {ty : FieldType} {vs : List Value} (F : Ary Z h a ty vs) : a < h.size := by obtain ⟨c, A, -⟩ := F; exact A.lt
theorem Ary.len {Z : State} {h : Heap} {a : Addr} {ty : FieldType} {vs : List Value} (F : Ary Z h a ty vs) : vs.length < 2 ^ 31 := by obtain ⟨c, A, -, q, -⟩ := F; exact q
theorem Ary.keep {Z : State} {h h' : Heap} {a : Addr} {ty : FieldType} {vs : List Value} {ws : List Addr} (F : Ary Z h a ty vs) (K : Keep h h' ws) (q : a ∉ ws) : Ary Z h' a ty vs := by obtain ⟨c, A, r⟩ := F; exact ⟨c, ⟨K.2.1 a c A.1 q, A.2⟩, r⟩
theorem Ary.ext {Z : State} {h h' : Heap} {a : Addr} {ty : FieldType} {vs : List Value} (F : Ary Z h a ty vs) (E : Ext h h') : Ary Z h' a ty vs := by obtain ⟨c, A, r⟩ := F; exact ⟨c, A.ext E, r⟩
theorem Ary.made {Z : State} {h : Heap} {a : Addr} {ty : FieldType} {k : ClassId} {n : Int32} (A : Arr Z h a (newA k ty n) ty) (hn : ¬ n < 0) (hf : fits ty (defaultValue ty) = true) : Ary Z h a ty (List.replicate n.toNatClampNeg (defaultValue ty)) :=
  ⟨_, A, by simp [newA], by rw [List.length_replicate]; exact (back32 hn).2, fun v hv => by rw [(List.mem_replicate.mp hv).2]; exact hf⟩
theorem Ary.of_arv {Z : State} {h : Heap} {a : Addr} {ty : FieldType} {k : ClassId} {z : Int32} {vs : List Value} {d : Value} (F : Arv Z h a k ty z vs d) (hl : z.toNatClampNeg = vs.length) : Ary Z h a ty vs := by
  obtain ⟨c, A, -, sz, hz, H, G⟩ := F
  have e : c.slots.toList = vs := by
    apply List.ext_getElem?
    intro i
    by_cases hi : i < c.slots.size
    · have q := H i hi
      have hi' : i < vs.length := by omega
      rw [Array.getElem?_toList, q]
      simp [List.getD_eq_getElem?_getD, hi']
    · have hi' : vs.length ≤ i := by omega
      rw [Array.getElem?_toList, Array.getElem?_eq_none (by omega), List.getElem?_eq_none hi']
  refine ⟨c, A, e, by rw [← hl]; exact (back32 hz).2, fun v hv => ?_⟩
  obtain ⟨i, hi, rfl⟩ := List.mem_iff_getElem.mp hv
  have q := G i (by omega)
  rwa [List.getD_eq_getElem?_getD, List.getElem?_eq_getElem hi] at q
theorem Ary.wrote {Z : State} {h h' : Heap} {a : Addr} {ty : FieldType} {vs : List Value} {cl : Cell} {v : Value} {i : Nat} (A : Arr Z h a cl ty) (e : cl.slots.toList = vs) (hl : vs.length < 2 ^ 31) (hf : ∀ w ∈ vs, fits ty w = true) (hv : fits ty v = true) (W : Wr h h' a i v) : Ary Z h' a ty (vs.set i v) := by
  refine ⟨cl.setSlot i v, A.same W, ?_, by rw [List.length_set]; exact hl, fun w hw => ?_⟩
  · rw [← e]; simp [Cell.setSlot]
  · rcases List.mem_or_eq_of_mem_set hw with q | q
    · exact hf w q
    · rw [q]; exact hv
theorem size_of_list {cl : Cell} {vs : List Value} (e : cl.slots.toList = vs) : cl.slots.size = vs.length := by rw [← e]; simp
theorem at_of_list {cl : Cell} {vs : List Value} (e : cl.slots.toList = vs) (i : Nat) : cl.slots[i]? = vs[i]? := by rw [← e]; simp
theorem i32_nat {n : Nat} (h : n < 2 ^ 31) : n.toInt32.toNatClampNeg = n := by simp only [Int32.toNatClampNeg, len_toInt h]; rfl
end OwnBase
section OwnWalk
variable {p : Program} {l : Launch} {e : Env} {R : Room} {s : State} {m : MethodId} {args : Array Value} {below : List Frame} {meth : Method} {c : Code} {T : State} {Z : State} {a0 : Array Value} {h : Heap} {EL : List (String × Nat)} {own : String} {cells slots : Nat} {ws nw : List Addr} {P : Outcome → State → Prop} {pc pc' : Nat} {Ls : Array Slot} {st : List Value}
/-- where a walk stands -/
def Wk (p : Program) (l : Launch) (e : Env) (R : Room) (s : State) (m : MethodId) (args : Array Value) (below : List Frame) (meth : Method) (c : Code) (Z : State) (EL : List (String × Nat)) (own : String) (ws nw : List Addr) (T : State) (h : Heap) (cells slots : Nat) : Prop :=
  ∃ (vm0 : Vm) (k0 : Nat) (locs : List Loc) (b0 : Array Value), Stand p l e R (s.setVm vm0) m args below meth c T locs cells slots ∧ T.heap = h ∧ s.Since vm0 k0 ∧ k0 ≤ h.size ∧ Z.Warmed39 vm0 ∧ vm0.findClass own = some m.cls ∧ EW Z b0 EL ∧ CHr Z EL s.vm s.heap vm0 h ∧ Fr Z.heap.size locs ∧ Ext Z.heap h ∧ Keep s.heap h ws ∧
    (∀ x : Nat, x ∈ ws → Z.heap.size ≤ x ∧ x < h.size ∧ Safe Z EL vm0 h x) ∧ (∀ x : Nat, x ∈ nw → s.heap.size ≤ x ∧ Z.heap.size ≤ x ∧ x < h.size ∧ Safe Z EL vm0 h x)
theorem Wk.here (W : Wk p l e R s m args below meth c Z EL own ws nw T h cells slots) : At T m c below := by obtain ⟨_, _, _, _, X, -⟩ := W; exact X.here
theorem Wk.old (W : Wk p l e R s m args below meth c Z EL own ws nw T h cells slots) : Ext Z.heap h := by obtain ⟨_, _, _, _, -, -, -, -, -, -, -, -, -, E, -⟩ := W; exact E
theorem Wk.lt (W : Wk p l e R s m args below meth c Z EL own ws nw T h cells slots) {x : Nat} (q : x ∈ nw) : x < h.size := by obtain ⟨_, _, _, _, -, -, -, -, -, -, -, -, -, -, -, -, n⟩ := W; exact (n x q).2.2.1
theorem Wk.kept (W : Wk p l e R s m args below meth c Z EL own ws nw T h cells slots) : Keep s.heap h ws := by obtain ⟨_, _, _, _, -, -, -, -, -, -, -, -, -, -, K, -⟩ := W; exact K
/-- a callee's contract: from the arguments as' and the heap h0 it returns a value v and a heap h' with Q v h'; of the cells of h0 at the most those at ws are written -/
def ConL (wl : List Cond) (l : Launch) (Z : State) (EL : List (String × Nat)) (y : MethodName) (bytes : ByteArray) (maxL : Nat) (ret : Option FieldType) (rm : Room) (as' : Array Value) (h0 : Heap) (ws : List Addr) (Q : Option Value → Heap → Prop) : Prop :=
  MetFree l y (head1 (Cond.code y bytes maxL ret :: wl) rm) (fun a U => a = as' ∧ Z.Warmed39 U.vm ∧ U.heap = h0 ∧ CHv Z EL U.vm h0 ∧ ∀ x ∈ ws, Safe Z EL U.vm h0 x) (fun _ _ _ _ _ => True)
    (fun _ U o U' => ∃ v L, o = .returned v ∧ (Q v U'.heap ∧ Fr Z.heap.size L ∧ Keep h0 U'.heap ws ∧ Ext Z.heap U'.heap) ∧ CHr Z EL U.vm U.heap U'.vm U'.heap ∧ ReturnedEndW U o U' L rm.cells rm.slots)
abbrev Con := ConL []
/-- what a contract's body is to come to -/
def Post (s : State) (Z : State) (EL : List (String × Nat)) (rm : Room) (h0 : Heap) (ws : List Addr) (Q : Option Value → Heap → Prop) (o : Outcome) (t : State) : Prop :=
  ∃ v L, o = .returned v ∧ (Q v t.heap ∧ Fr Z.heap.size L ∧ Keep h0 t.heap ws ∧ Ext Z.heap t.heap) ∧ CHr Z EL s.vm s.heap t.vm t.heap ∧ ReturnedEndW s o t L rm.cells rm.slots
theorem Con.of {wl : List Cond} {y : MethodName} {bytes : ByteArray} {maxL : Nat} {ret : Option FieldType} {rm : Room} {as' : Array Value} {h0 : Heap} {Q : Option Value → Heap → Prop} (Ls : Array Slot)
    (hy : plainFor y = true) (hE : EW Z a0 EL) (O : Ext Z.heap h0) (hws : ∀ x : Nat, x ∈ ws → Z.heap.size ≤ x ∧ x < h0.size) (hent : ∀ m, entryFrame m as' maxL = mkF m 0 Ls [])
    (body : ∀ (p : Program) (e : Env) (s : State) (m : MethodId) (below : List Frame) (meth : Method) (c : Code) (T : State), p.tables.exec = Jvm.exec → c.code = bytes → c.maxLocals = maxL → meth.name = y.name → meth.sig.returnType = ret → meth.locks = false → s.heap = h0 →
      Wk p l e rm s m as' below meth c Z EL y.cls ws [] T h0 0 0 → Gets p.tables e below (Post s Z EL rm h0 ws Q) T (mkF m 0 Ls [])) :
    ConL wl l Z EL y bytes maxL ret rm as' h0 ws Q := by
  refine MetFree.of_bodySF hy hisR ?_
  intro p e s m args below meth c s₁ Bd hml0 hP hK
  obtain ⟨rfl, hZ, hh, hC, hS⟩ := hP
  have hh' : s.heap = h0 := hh
  have hl : meth.locks = false := Bd.notSynchronized
  have e0 : s₁.heap = h0 := by rw [← hh, Bd.state]; rfl
  have X0 : Stand p l e rm s m args below meth c s₁ [] 0 0 := Stand.of_body Bd
  have W : Wk p l e rm s m args below meth c Z EL y.cls ws [] s₁ h0 0 0 :=
    ⟨s.vm, h0.size, [], a0, X0, e0, (State.WarmedH.refl s).since _, Nat.le_refl _, hZ, findClass_of_methodNamed Bd.named, hE, by rw [hh']; exact CHr.refl hC, Fr.nil _, O, by rw [hh']; exact Keep.refl _ _, fun x hx => ⟨(hws x hx).1, (hws x hx).2, hS x hx⟩, fun x hx => (nomatch hx)⟩
  obtain ⟨t, o, h1, h2, h3, h4⟩ := body p e s m below meth c s₁ Bd.exec Bd.bytes hml0 (name_of_methodNamed Bd.named Bd.method).1 Bd.returns hl hh' W
  exact ⟨t, o, by rw [hent m]; exact h1, h2, h3, h4⟩
/-! ends -/
theorem w_end {rm : Room} {h0 : Heap} {Q : Option Value → Heap → Prop} (W : Wk p l e R s m args below meth c Z EL own ws nw T h cells slots) (hh : s.heap = h0) {v : Option Value} {g : JFrame} (hl : meth.locks = false) (hv : meth.sig.returnType = none → v = none)
    (st : ∀ {vm0 : Vm} {locs : List Loc} {fs : List Frame}, Stand p l e R (s.setVm vm0) m args below meth c T locs cells slots → (∀ (f : JFrame) (acts : List Action), f.method = m → f.locked = none → f.entered = [] → (doReturn e (T.setTop f) acts v).1 = T.setFrames fs) → Steps p.tables e below (T.setTop g) (T.setFrames fs))
    (hc : cells ≤ rm.cells) (hs : slots ≤ rm.slots) (q : Q v h) : Gets p.tables e below (Post s Z EL rm h0 ws Q) T g := by
  obtain ⟨vm0, k0, locs, b0, X, eT, hS, hk, hZ, hown, hE, hC, hF, hO, hK, -, -⟩ := W
  obtain ⟨fs, h1, h2, h3, r1, r2, r3, r4⟩ := X.leaveW hS (by rw [eT]; exact hk) hv hl
  subst hh
  have hA := CHv.at X hZ hE hC.1
  refine ⟨_, _, st X h1, h2, h3, v, locs, rfl, ⟨?_, hF, ?_, ?_⟩, ?_, r1, r2, r3, r4.mono hc hs⟩
  · show Q v T.heap; rw [eT]; exact q
  · show Keep _ T.heap _; rw [eT]; exact hK
  · show Ext _ T.heap; rw [eT]; exact hO
  · show CHr Z EL s.vm s.heap T.vm T.heap
    rw [eT]
    exact hC.trans hA
theorem w_retI {rm : Room} {h0 : Heap} {Q : Option Value → Heap → Prop} {z : Int32} (W : Wk p l e R s m args below meth c Z EL own ws nw T h cells slots) (hx : p.tables.exec = Jvm.exec) (hh : s.heap = h0) (hl : meth.locks = false) (hret : meth.sig.returnType = some .int) (hd : decode c.code pc = .ok (.ireturn, 1)) (hc : cells ≤ rm.cells) (hs : slots ≤ rm.slots) (q : Q (some (.int z)) h) :
    Gets p.tables e below (Post s Z EL rm h0 ws Q) T (mkF m pc Ls (.int z :: st)) :=
  w_end W hh hl (fun q => by rw [hret] at q; cases q) (fun X hr => retOut X hx hret rfl (Or.inl ⟨rfl, Or.inl rfl, z, rfl⟩) hd hr) hc hs q
theorem w_retN {rm : Room} {h0 : Heap} {Q : Option Value → Heap → Prop} {z : Int32} {t : FieldType} (W : Wk p l e R s m args below meth c Z EL own ws nw T h cells slots) (hx : p.tables.exec = Jvm.exec) (hh : s.heap = h0) (hl : meth.locks = false) (hret : meth.sig.returnType = some t) (ht : t = .boolean ∨ t = .byte ∨ t = .char ∨ t = .short) (hd : decode c.code pc = .ok (.ireturn, 1)) (hc : cells ≤ rm.cells) (hs : slots ≤ rm.slots) (q : Q (some (.int (nar t z))) h) :
    Gets p.tables e below (Post s Z EL rm h0 ws Q) T (mkF m pc Ls (.int z :: st)) :=
  w_end W hh hl (fun q => by rw [hret] at q; cases q) (fun X hr => retN X hx hret ht hd hr) hc hs q
theorem w_retJ {rm : Room} {h0 : Heap} {Q : Option Value → Heap → Prop} {z : Int64} (W : Wk p l e R s m args below meth c Z EL own ws nw T h cells slots) (hx : p.tables.exec = Jvm.exec) (hh : s.heap = h0) (hl : meth.locks = false) (hret : meth.sig.returnType = some .long) (hd : decode c.code pc = .ok (.lreturn, 1)) (hc : cells ≤ rm.cells) (hs : slots ≤ rm.slots) (q : Q (some (.long z)) h) :
    Gets p.tables e below (Post s Z EL rm h0 ws Q) T (mkF m pc Ls (.long z :: st)) :=
  w_end W hh hl (fun q => by rw [hret] at q; cases q) (fun X hr => retOut X hx hret rfl (Or.inr (Or.inl ⟨rfl, rfl, z, rfl⟩)) hd hr) hc hs q
theorem w_retA {rm : Room} {h0 : Heap} {Q : Option Value → Heap → Prop} {w : Value} {t : FieldType} (W : Wk p l e R s m args below meth c Z EL own ws nw T h cells slots) (hx : p.tables.exec = Jvm.exec) (hh : s.heap = h0) (hl : meth.locks = false) (hret : meth.sig.returnType = some t) (ht : t.isReference = true) (hw : w.isRef = true) (hd : decode c.code pc = .ok (.areturn, 1)) (hc : cells ≤ rm.cells) (hs : slots ≤ rm.slots) (q : Q (some w) h) :
    Gets p.tables e below (Post s Z EL rm h0 ws Q) T (mkF m pc Ls (w :: st)) :=
  w_end W hh hl (fun q => by rw [hret] at q; cases q) (fun X hr => retOut X hx hret (by cases t <;> cases w <;> simp [FieldType.isReference, Value.isRef, narrow] at ht hw ⊢) (Or.inr (Or.inr (Or.inr (Or.inr ⟨rfl, ht, hw⟩)))) hd hr) hc hs q
theorem w_retV {rm : Room} {h0 : Heap} {Q : Option Value → Heap → Prop} (W : Wk p l e R s m args below meth c Z EL own ws nw T h cells slots) (hx : p.tables.exec = Jvm.exec) (hh : s.heap = h0) (hl : meth.locks = false) (hret : meth.sig.returnType = none) (hd : decode c.code pc = .ok (.return_, 1)) (hc : cells ≤ rm.cells) (hs : slots ≤ rm.slots) (q : Q none h) :
    Gets p.tables e below (Post s Z EL rm h0 ws Q) T (mkF m pc Ls []) :=
  w_end W hh hl (fun _ => rfl) (fun X hr => X.returnOut hx hret hd hr) hc hs q
/-! steps that leave the heap as it is -/
theorem w_get (W : Wk p l e R s m args below meth c Z EL own ws nw T h cells slots) (hx : p.tables.exec = Jvm.exec) {R0 O n d : String} {index : Nat} (w : (Cond.fieldLink own index R0 n d).before a0 Z = true) (via : Via Z R0 O n d) {a : Nat} {v : Value} (F : Fld Z h a O n d v) (hd : decode c.code pc = .ok (.getfield index, 3)) (hp : pc + 3 = pc')
    (k : ∀ T', Wk p l e R s m args below meth c Z EL own ws nw T' h cells slots → Gets p.tables e below P T' (mkF m pc' Ls (v :: st))) : Gets p.tables e below P T (mkF m pc Ls (.ref a :: st)) := by
  subst hp
  obtain ⟨vm0, k0, locs, b0, X, eT, hS, hk, hZ, hown, r⟩ := W
  obtain ⟨T', X', e', stp⟩ := getF X hx hZ hown (host := "") (Or.inl w) via eT F (g := mkF m pc Ls (.ref a :: st)) rfl rfl hd
  exact (k T' ⟨vm0, k0, locs, b0, X', e', hS, hk, hZ, hown, r⟩).by stp
theorem w_getS (W : Wk p l e R s m args below meth c Z EL own ws nw T h cells slots) (hx : p.tables.exec = Jvm.exec) {R0 O n d : String} {index : Nat} (w : (Cond.fieldLink own index R0 n d).before a0 Z = true) (via : Via Z R0 O n d) {v : Value} (F : Sta Z Z.heap O n d v) (hd : decode c.code pc = .ok (.getstatic index, 3)) (hp : pc + 3 = pc')
    (k : ∀ T', Wk p l e R s m args below meth c Z EL own ws nw T' h cells slots → Gets p.tables e below P T' (mkF m pc' Ls (v :: st))) : Gets p.tables e below P T (mkF m pc Ls st) := by
  subst hp
  have O := W.old
  obtain ⟨vm0, k0, locs, b0, X, eT, hS, hk, hZ, hown, r⟩ := W
  obtain ⟨T', X', e', stp⟩ := getS X hx hZ hown (host := "") w via eT (F.ext O) (g := mkF m pc Ls st) rfl hd
  exact (k T' ⟨vm0, k0, locs, b0, X', e', hS, hk, hZ, hown, r⟩).by stp
theorem w_ldcI (W : Wk p l e R s m args below meth c Z EL own ws nw T h cells slots) (hx : p.tables.exec = Jvm.exec) {index : Nat} {v : Int32} (w : (Cond.constant own index v).before a0 Z = true) (hd : decode c.code pc = .ok (.ldc index, 2)) (hp : pc + 2 = pc')
    (k : Gets p.tables e below P T (mkF m pc' Ls (.int v :: st))) : Gets p.tables e below P T (mkF m pc Ls st) := by
  subst hp
  obtain ⟨vm0, k0, locs, b0, X, eT, hS, hk, hZ, hown, r⟩ := W
  exact k.by fun t q => Jvm.Stand.ldcI X hx hown (mv (s := s.setVm vm0) hZ w) (g := mkF m pc Ls st) rfl hd q
theorem w_ldc2J (W : Wk p l e R s m args below meth c Z EL own ws nw T h cells slots) (hx : p.tables.exec = Jvm.exec) {index : Nat} {v : Int64} (w : (Cond.constantLong own index v).before a0 Z = true) (hd : decode c.code pc = .ok (.ldc2_w index, 3)) (hp : pc + 3 = pc')
    (k : Gets p.tables e below P T (mkF m pc' Ls (.long v :: st))) : Gets p.tables e below P T (mkF m pc Ls st) := by
  subst hp
  obtain ⟨vm0, k0, locs, b0, X, eT, hS, hk, hZ, hown, r⟩ := W
  exact k.by fun t q => Jvm.Stand.ldc2J X hx hown (mv (s := s.setVm vm0) hZ w) (g := mkF m pc Ls st) rfl hd q
theorem w_acmp (W : Wk p l e R s m args below meth c Z EL own ws nw T h cells slots) (hx : p.tables.exec = Jvm.exec) {cd : ACond} {x y : Value} {o : Int} (h1 : x.isRef = true) (h2 : y.isRef = true) (same : Bool) (hd : decode c.code pc = .ok (.if_acmp cd o, 3)) (hq : decide (x = y) = same) (ho : 0 ≤ (pc : Int) + o) (hp : pc' = if acV cd same = true then ((pc : Int) + o).toNat else pc + 3)
    (k : Gets p.tables e below P T (mkF m pc' Ls st)) : Gets p.tables e below P T (mkF m pc Ls (y :: x :: st)) := by
  obtain ⟨vm0, k0, locs, b0, X, r⟩ := W
  exact k.by fun t q => Jvm.RoadKit.acmp (g := mkF m pc Ls (y :: x :: st)) X hx rfl h1 h2 (pc0 := pc) (pc' := pc') rfl hd rfl hq ho hp q
theorem w_cast (W : Wk p l e R s m args below meth c Z EL own ws nw T h cells slots) (hx : p.tables.exec = Jvm.exec) {K : String} {index : Nat} (w : (Cond.classLink own index K).before a0 Z = true) {a : Nat} (F : Ins Z h a K true) (hd : decode c.code pc = .ok (.checkcast index, 3)) (hp : pc + 3 = pc')
    (k : ∀ T', Wk p l e R s m args below meth c Z EL own ws nw T' h cells slots → Gets p.tables e below P T' (mkF m pc' Ls (.ref a :: st))) : Gets p.tables e below P T (mkF m pc Ls (.ref a :: st)) := by
  subst hp
  obtain ⟨vm0, k0, locs, b0, X, eT, hS, hk, hZ, hown, r⟩ := W
  obtain ⟨T', X', e', stp⟩ := castY X hx hZ hown w eT F (g := mkF m pc Ls (.ref a :: st)) rfl rfl hd
  exact (k T' ⟨vm0, k0, locs, b0, X', e', hS, hk, hZ, hown, r⟩).by stp
theorem w_inst (W : Wk p l e R s m args below meth c Z EL own ws nw T h cells slots) (hx : p.tables.exec = Jvm.exec) {K : String} {index : Nat} (w : (Cond.classLink own index K).before a0 Z = true) {a : Nat} (F : Ins Z h a K true) (hd : decode c.code pc = .ok (.instanceof index, 3)) (hp : pc + 3 = pc')
    (k : ∀ T', Wk p l e R s m args below meth c Z EL own ws nw T' h cells slots → Gets p.tables e below P T' (mkF m pc' Ls (.int 1 :: st))) : Gets p.tables e below P T (mkF m pc Ls (.ref a :: st)) := by
  subst hp
  obtain ⟨vm0, k0, locs, b0, X, eT, hS, hk, hZ, hown, r⟩ := W
  obtain ⟨T', X', e', stp⟩ := instY X hx hZ hown w eT F (g := mkF m pc Ls (.ref a :: st)) rfl rfl hd
  exact (k T' ⟨vm0, k0, locs, b0, X', e', hS, hk, hZ, hown, r⟩).by stp
theorem w_len (W : Wk p l e R s m args below meth c Z EL own ws nw T h cells slots) (hx : p.tables.exec = Jvm.exec) {a : Nat} {ty : FieldType} {vs : List Value} (F : Ary Z h a ty vs) (hd : decode c.code pc = .ok (.arraylength, 1)) (hp : pc + 1 = pc')
    (k : Gets p.tables e below P T (mkF m pc' Ls (.int vs.length.toInt32 :: st))) : Gets p.tables e below P T (mkF m pc Ls (.ref a :: st)) := by
  subst hp
  obtain ⟨vm0, k0, locs, b0, X, eT, hS, hk, hZ, hown, r⟩ := W
  obtain ⟨cl, A, e1, -, -⟩ := F
  refine k.by fun t q => X.arraylength hx (by rw [eT]; exact A.1) (State.isArrayOf_alike hZ.alike A.2.1) (g := mkF m pc Ls (.ref a :: st)) rfl rfl hd t ?_
  rw [size_of_list e1]; exact q
theorem in_of {cl : Cell} {vs : List Value} {j : Int32} {v : Value} (e : cl.slots.toList = vs) (hj : ¬ j < 0) (hv : vs[j.toNatClampNeg]? = some v) : ¬ (j < 0 ∨ cl.slots.size ≤ j.toNatClampNeg) ∧ cl.slots[j.toNatClampNeg]? = some v := by
  refine ⟨fun q => q.elim hj fun q => ?_, by rw [at_of_list e]; exact hv⟩
  have := (List.getElem?_eq_some_iff.mp hv).1
  rw [size_of_list e] at q; omega
theorem w_caload (W : Wk p l e R s m args below meth c Z EL own ws nw T h cells slots) (hx : p.tables.exec = Jvm.exec) {a : Nat} {vs : List Value} {j : Int32} {v : Value} (F : Ary Z h a .char vs) (hj : ¬ j < 0) (hv : vs[j.toNatClampNeg]? = some v) (hd : decode c.code pc = .ok (.caload, 1)) (hp : pc + 1 = pc')
    (k : Gets p.tables e below P T (mkF m pc' Ls (v :: st))) : Gets p.tables e below P T (mkF m pc Ls (.int j :: .ref a :: st)) := by
  subst hp
  obtain ⟨vm0, k0, locs, b0, X, eT, hS, hk, hZ, hown, r⟩ := W
  obtain ⟨cl, A, e1, -, -⟩ := F
  obtain ⟨q1, q2⟩ := in_of e1 hj hv
  exact k.by fun t q => X.caload hx (by rw [eT]; exact A.1) (State.isArrayOf_alike hZ.alike A.2.1) A.2.2 q1 q2 (g := mkF m pc Ls (.int j :: .ref a :: st)) rfl rfl hd t q
theorem w_baload (W : Wk p l e R s m args below meth c Z EL own ws nw T h cells slots) (hx : p.tables.exec = Jvm.exec) {a : Nat} {vs : List Value} {j : Int32} {v : Value} (F : Ary Z h a .byte vs) (hj : ¬ j < 0) (hv : vs[j.toNatClampNeg]? = some v) (hd : decode c.code pc = .ok (.baload, 1)) (hp : pc + 1 = pc')
    (k : Gets p.tables e below P T (mkF m pc' Ls (v :: st))) : Gets p.tables e below P T (mkF m pc Ls (.int j :: .ref a :: st)) := by
  subst hp
  obtain ⟨vm0, k0, locs, b0, X, eT, hS, hk, hZ, hown, r⟩ := W
  obtain ⟨cl, A, e1, -, -⟩ := F
  obtain ⟨q1, q2⟩ := in_of e1 hj hv
  exact k.by fun t q => X.baloadBytes hx (by rw [eT]; exact A.1) (State.isArrayOf_alike hZ.alike A.2.1) A.2.2 q1 q2 (g := mkF m pc Ls (.int j :: .ref a :: st)) rfl rfl hd t q
theorem w_iaload (W : Wk p l e R s m args below meth c Z EL own ws nw T h cells slots) (hx : p.tables.exec = Jvm.exec) {a : Nat} {vs : List Value} {j : Int32} {v : Value} (F : Ary Z h a .int vs) (hj : ¬ j < 0) (hv : vs[j.toNatClampNeg]? = some v) (hd : decode c.code pc = .ok (.iaload, 1)) (hp : pc + 1 = pc')
    (k : Gets p.tables e below P T (mkF m pc' Ls (v :: st))) : Gets p.tables e below P T (mkF m pc Ls (.int j :: .ref a :: st)) := by
  subst hp
  obtain ⟨vm0, k0, locs, b0, X, eT, hS, hk, hZ, hown, r⟩ := W
  obtain ⟨cl, A, e1, -, -⟩ := F
  obtain ⟨q1, q2⟩ := in_of e1 hj hv
  exact k.by fun t q => X.iaload hx (by rw [eT]; exact A.1) (State.isArrayOf_alike hZ.alike A.2.1) A.2.2 q1 q2 (g := mkF m pc Ls (.int j :: .ref a :: st)) rfl rfl hd t q
theorem w_aaload (W : Wk p l e R s m args below meth c Z EL own ws nw T h cells slots) (hx : p.tables.exec = Jvm.exec) {a : Nat} {ty : FieldType} {vs : List Value} {j : Int32} {v : Value} (F : Ary Z h a ty vs) (hty : ty.isReference = true) (hj : ¬ j < 0) (hv : vs[j.toNatClampNeg]? = some v) (hd : decode c.code pc = .ok (.aaload, 1)) (hp : pc + 1 = pc')
    (k : Gets p.tables e below P T (mkF m pc' Ls (v :: st))) : Gets p.tables e below P T (mkF m pc Ls (.int j :: .ref a :: st)) := by
  subst hp
  obtain ⟨vm0, k0, locs, b0, X, eT, hS, hk, hZ, hown, r⟩ := W
  obtain ⟨cl, A, e1, -, -⟩ := F
  obtain ⟨q1, q2⟩ := in_of e1 hj hv
  exact k.by fun t q => X.aaload hx (by rw [eT]; exact A.1) (State.isArrayOf_alike hZ.alike A.2.1) hty A.2.2 q1 q2 (g := mkF m pc Ls (.int j :: .ref a :: st)) rfl rfl hd t q
theorem w_aaloadA (W : Wk p l e R s m args below meth c Z EL own ws nw T h cells slots) (hx : p.tables.exec = Jvm.exec) {a : Nat} {ty : FieldType} {cl : Cell} {j : Int32} {v : Value} (A : Arr Z h a cl ty) (hty : ty.isReference = true) (hin : ¬ (j < 0 ∨ cl.slots.size ≤ j.toNatClampNeg)) (hv : cl.slots[j.toNatClampNeg]? = some v) (hd : decode c.code pc = .ok (.aaload, 1)) (hp : pc + 1 = pc')
    (k : Gets p.tables e below P T (mkF m pc' Ls (v :: st))) : Gets p.tables e below P T (mkF m pc Ls (.int j :: .ref a :: st)) := by
  subst hp
  obtain ⟨vm0, k0, locs, b0, X, eT, hS, hk, hZ, hown, r⟩ := W
  exact k.by fun t q => X.aaload hx (by rw [eT]; exact A.1) (State.isArrayOf_alike hZ.alike A.2.1) hty A.2.2 hin hv (g := mkF m pc Ls (.int j :: .ref a :: st)) rfl rfl hd t q
theorem w_initO (W : Wk p l e R s m args below meth c Z EL own ws nw T h cells slots) (hx : p.tables.exec = Jvm.exec) {idx : Nat} (w1 : (Cond.methodLink own idx Lib.objectInit).before a0 Z = true) (w2 : (Cond.instanceMethod Lib.objectInit).before a0 Z = true) (w3 : (Cond.code Lib.objectInit ⟨#[0xb1]⟩ 1 none).before a0 Z = true) {a : Nat} (hsz : Ls.size = c.maxLocals) (hd : decode c.code pc = .ok (.invokespecial idx, 3)) (hf : 1 ≤ R.frames) (hW : (st.map fun v => v.category).sum + 12 ≤ R.locals) (hp : pc + 3 = pc')
    (k : ∀ T', Wk p l e R s m args below meth c Z EL own ws nw T' h cells slots → Gets p.tables e below P T' (mkF m pc' Ls st)) : Gets p.tables e below P T (mkF m pc Ls (.ref a :: st)) := by
  subst hp
  obtain ⟨vm0, k0, locs, b0, X, eT, hS, hk, hZ, hown, r⟩ := W
  obtain ⟨T', X', e', stp⟩ := initO X hx hZ hown w1 w2 w3 eT (g := mkF m pc Ls (.ref a :: st)) rfl hsz rfl hd hf (W := (st.map fun v => v.category).sum) (by show 2 * 0 + _ ≤ _; omega) hW
  exact (k T' ⟨vm0, k0, locs, b0, X', e', hS, hk, hZ, hown, r⟩).by stp
/-! steps that move the heap -/
theorem w_new (W : Wk p l e R s m args below meth c Z EL own ws nw T h cells slots) (hx : p.tables.exec = Jvm.exec) {C : String} {index n : Nat} (w : (Cond.classLink own index C).before a0 Z = true) (wi : (Cond.instantiable C n).before a0 Z = true) (wz : (Cond.initialized C).before a0 Z = true) (hd : decode c.code pc = .ok (.new index, 3)) (hc : cells + 1 ≤ R.cells) (hl : slots + n ≤ R.slots) (hp : pc + 3 = pc')
    (k : ∀ (T' : State) (h' : Heap) (b : Nat), b = h.size → Wk p l e R s m args below meth c Z EL own ws (b :: nw) T' h' (cells + 1) (slots + n) → Keep h h' [] → Exa Z h' b C → (∀ {O nm d : String} {ty : FieldType}, Laid Z a0 C O nm d → parseFieldDescriptor d = some ty → Fld Z h' b O nm d (defaultValue ty)) → Gets p.tables e below P T' (mkF m pc' Ls (.ref b :: st))) : Gets p.tables e below P T (mkF m pc Ls st) := by
  subst hp
  obtain ⟨vm0, k0, locs, b0, X, eT, hS, hk, hZ, hown, hE, hC, hF, hO, hK, n1, n2⟩ := W
  obtain ⟨T', h', X', e', E, A, D, -, stp⟩ := newO X hx hZ hown w wi wz eT (g := mkF m pc Ls st) rfl hd hc hl
  have hn : h.size < h'.size := A.lt
  have hs : s.heap.size ≤ h.size := hK.1
  refine (k T' h' h.size rfl ⟨vm0, k0, locs, b0, X', e', hS, Nat.le_trans hk E.1, hZ, hown, hE, hC.trans (CHr.ext E hC.1), hF, ⟨Nat.le_trans hO.1 E.1, fun a c q => E.2 a c (hO.2 a c q)⟩, hK.ext E, fun x hx => ?_, fun x hx => ?_⟩ ((Keep.refl h []).ext E) A D).by stp
  · obtain ⟨a, b, c⟩ := n1 x hx
    exact ⟨a, Nat.lt_of_lt_of_le b E.1, c.ext E hC.1⟩
  · rcases List.mem_cons.mp hx with rfl | hx
    · exact ⟨hs, hO.1, hn, Safe.ext E hC.1 (Safe.new (Nat.le_refl _))⟩
    · obtain ⟨a, b, c, d⟩ := n2 x hx
      exact ⟨a, b, Nat.lt_of_lt_of_le c E.1, d.ext E hC.1⟩
theorem w_newarr (W : Wk p l e R s m args below meth c Z EL own ws nw T h cells slots) (hx : p.tables.exec = Jvm.exec) {aty : ArrayType} (w : (Cond.arrayClass (newarray.typeOf aty)).before a0 Z = true) {n : Int32} (hd : decode c.code pc = .ok (.newarray aty, 2)) (hn : ¬ n < 0) {cap : Nat} (hcap : n.toNatClampNeg ≤ cap) (hb : cap * 8 ≤ 536870912) (hc : cells + 1 ≤ R.cells) (hl : slots + cap ≤ R.slots) (hf : fits (newarray.typeOf aty) (defaultValue (newarray.typeOf aty)) = true) (hp : pc + 2 = pc')
    (k : ∀ (T' : State) (h' : Heap) (b : Nat), b = h.size → Wk p l e R s m args below meth c Z EL own ws (b :: nw) T' h' (cells + 1) (slots + cap) → Keep h h' [] → Ary Z h' b (newarray.typeOf aty) (List.replicate n.toNatClampNeg (defaultValue (newarray.typeOf aty))) → Gets p.tables e below P T' (mkF m pc' Ls (.ref b :: st))) : Gets p.tables e below P T (mkF m pc Ls (.int n :: st)) := by
  subst hp
  obtain ⟨vm0, k0, locs, b0, X, eT, hS, hk, hZ, hown, hE, hC, hF, hO, hK, n1, n2⟩ := W
  obtain ⟨T', h', cA, X', e', E, A, stp⟩ := newP X hx hZ w eT (g := mkF m pc Ls (.int n :: st)) rfl hd rfl hn hcap hb hc hl
  have hn' : h.size < h'.size := A.lt
  have hs : s.heap.size ≤ h.size := hK.1
  refine (k T' h' h.size rfl ⟨vm0, k0, locs, b0, X', e', hS, Nat.le_trans hk E.1, hZ, hown, hE, hC.trans (CHr.ext E hC.1), hF, ⟨Nat.le_trans hO.1 E.1, fun a c q => E.2 a c (hO.2 a c q)⟩, hK.ext E, fun x hx => ?_, fun x hx => ?_⟩ ((Keep.refl h []).ext E) (Ary.made A hn hf)).by stp
  · obtain ⟨a, b, c⟩ := n1 x hx
    exact ⟨a, Nat.lt_of_lt_of_le b E.1, c.ext E hC.1⟩
  · rcases List.mem_cons.mp hx with rfl | hx
    · exact ⟨hs, hO.1, hn', Safe.ext E hC.1 (Safe.new (Nat.le_refl _))⟩
    · obtain ⟨a, b, c, d⟩ := n2 x hx
      exact ⟨a, b, Nat.lt_of_lt_of_le c E.1, d.ext E hC.1⟩
theorem Wk.wrote {vm0 : Vm} {k0 : Nat} {locs : List Loc} {b0 : Array Value} {T' : State} {h' : Heap} {a : Nat} {sl : Nat} {v : Value} (ha : a ∈ ws ++ nw) (WW : Wr h h' a sl v) (X' : Stand p l e R (s.setVm vm0) m args below meth c T' (locs ++ [⟨a, sl⟩]) cells slots) (e' : T'.heap = h')
    (r : s.Since vm0 k0 ∧ k0 ≤ h.size ∧ Z.Warmed39 vm0 ∧ vm0.findClass own = some m.cls ∧ EW Z b0 EL ∧ CHr Z EL s.vm s.heap vm0 h ∧ Fr Z.heap.size locs ∧ Ext Z.heap h ∧ Keep s.heap h ws ∧ (∀ x : Nat, x ∈ ws → Z.heap.size ≤ x ∧ x < h.size ∧ Safe Z EL vm0 h x) ∧ (∀ x : Nat, x ∈ nw → s.heap.size ≤ x ∧ Z.heap.size ≤ x ∧ x < h.size ∧ Safe Z EL vm0 h x)) :
    Wk p l e R s m args below meth c Z EL own ws nw T' h' cells slots := by
  obtain ⟨hS, hk, hZ, hown, hE, hC, hF, hO, hK, n1, n2⟩ := r
  have sz := WW.size
  have key : Z.heap.size ≤ a ∧ Safe Z EL vm0 h a ∧ (a ∈ ws ∨ s.heap.size ≤ a) := by
    rcases List.mem_append.mp ha with q | q
    · exact ⟨(n1 a q).1, (n1 a q).2.2, Or.inl q⟩
    · exact ⟨(n2 a q).2.1, (n2 a q).2.2.2, Or.inr (n2 a q).1⟩
  have K1 : Keep h h' [a] := Keep.of_wr WW
  refine ⟨vm0, k0, locs ++ [⟨a, sl⟩], b0, X', e', hS, by omega, hZ, hown, hE, hC.trans (CHr.wr WW key.2.1 hC.1), Fr.snoc X' hF key.1, ⟨by have := hO.1; omega, fun x cc q => K1.2.1 x cc (hO.2 x cc q) fun z => ?_⟩, hK.wr WW key.2.2, fun x hx => ?_, fun x hx => ?_⟩
  · cases List.mem_singleton.mp z
    have := (Array.getElem?_eq_some_iff.mp q).1
    omega
  · obtain ⟨q1, q2, q3⟩ := n1 x hx
    exact ⟨q1, by omega, Safe.wr WW key.2.1 hC.1 q3⟩
  · obtain ⟨q1, q2, q3, q4⟩ := n2 x hx
    exact ⟨q1, q2, by omega, Safe.wr WW key.2.1 hC.1 q4⟩
theorem w_put (W : Wk p l e R s m args below meth c Z EL own ws nw T h cells slots) (hx : p.tables.exec = Jvm.exec) {R0 O n d C : String} {index kk : Nat} {ty : FieldType} (w : (Cond.fieldLink own index R0 n d).before a0 Z = true) (via : Via Z R0 O n d) {a : Nat} {v old : Value} (F : Fld Z h a O n d old) (E : Exa Z h a C) (L : (Cond.lays C O n d).before a0 Z = true ∨ ((Cond.laysFinal C O n d).before a0 Z = true ∧ own = O ∧ meth.name = "<init>")) (wi : (Cond.instantiable C kk).before a0 Z = true)
    (hty : parseFieldDescriptor d = some ty) (hn : narrow ty v = v) (hf : fits ty v = true) (ha : a ∈ ws ++ nw) (hd : decode c.code pc = .ok (.putfield index, 3)) (hp : pc + 3 = pc')
    (k : ∀ T' h', Wk p l e R s m args below meth c Z EL own ws nw T' h' cells slots → Keep h h' [a] → Wr h h' a (Jvm.RoadKit.slotOf Z O n d) v → Fld Z h' a O n d v → Exa Z h' a C → Gets p.tables e below P T' (mkF m pc' Ls st)) : Gets p.tables e below P T (mkF m pc Ls (v :: .ref a :: st)) := by
  subst hp
  obtain ⟨vm0, k0, locs, b0, X, eT, r⟩ := W
  obtain ⟨T', h', X', e', WW, stp⟩ := putF X hx r.2.2.1 r.2.2.2.1 (host := "") (Or.inl w) via eT F E L wi hty hn hf (g := mkF m pc Ls (v :: .ref a :: st)) rfl rfl hd
  exact (k T' h' (Wk.wrote ha WW X' e' r) (Keep.of_wr WW) WW (F.same WW) (E.wr WW)).by stp
theorem w_putN (W : Wk p l e R s m args below meth c Z EL own ws nw T h cells slots) (hx : p.tables.exec = Jvm.exec) {R0 O n d C : String} {index kk : Nat} {ty : FieldType} (w : (Cond.fieldLink own index R0 n d).before a0 Z = true) (via : Via Z R0 O n d) {a : Nat} {v v' old : Value} (F : Fld Z h a O n d old) (E : Exa Z h a C) (L : (Cond.lays C O n d).before a0 Z = true ∨ ((Cond.laysFinal C O n d).before a0 Z = true ∧ own = O ∧ meth.name = "<init>")) (wi : (Cond.instantiable C kk).before a0 Z = true)
    (hty : parseFieldDescriptor d = some ty) (hn : narrow ty v = v') (hf : fits ty v' = true) (ha : a ∈ ws ++ nw) (hd : decode c.code pc = .ok (.putfield index, 3)) (hp : pc + 3 = pc')
    (k : ∀ T' h', Wk p l e R s m args below meth c Z EL own ws nw T' h' cells slots → Keep h h' [a] → Wr h h' a (Jvm.RoadKit.slotOf Z O n d) v' → Fld Z h' a O n d v' → Exa Z h' a C → Gets p.tables e below P T' (mkF m pc' Ls st)) : Gets p.tables e below P T (mkF m pc Ls (v :: .ref a :: st)) := by
  subst hp
  obtain ⟨vm0, k0, locs, b0, X, eT, r⟩ := W
  obtain ⟨T', h', X', e', WW, stp⟩ := putFN X hx r.2.2.1 r.2.2.2.1 w via eT F E L wi hty hn hf (g := mkF m pc Ls (v :: .ref a :: st)) rfl rfl hd
  exact (k T' h' (Wk.wrote ha WW X' e' r) (Keep.of_wr WW) WW (F.same WW) (E.wr WW)).by stp
theorem w_castore (W : Wk p l e R s m args below meth c Z EL own ws nw T h cells slots) (hx : p.tables.exec = Jvm.exec) {a : Nat} {vs : List Value} {j x : Int32} (F : Ary Z h a .char vs) (hj : ¬ j < 0) (hi : j.toNatClampNeg < vs.length) (ha : a ∈ ws ++ nw) {x' : Int32} (hq : nar .char x = x') (hd : decode c.code pc = .ok (.castore, 1)) (hp : pc + 1 = pc')
    (k : ∀ T' h', Wk p l e R s m args below meth c Z EL own ws nw T' h' cells slots → Keep h h' [a] → Ary Z h' a .char (vs.set j.toNatClampNeg (.int x')) → Gets p.tables e below P T' (mkF m pc' Ls st)) : Gets p.tables e below P T (mkF m pc Ls (.int x :: .int j :: .ref a :: st)) := by
  subst hp; subst hq
  obtain ⟨vm0, k0, locs, b0, X, eT, r⟩ := W
  obtain ⟨cl, A, e1, e2, e3⟩ := F
  obtain ⟨T', h', X', e', WW, stp⟩ := stC X hx r.2.2.1 eT A (j := j) (x := x) (fun q => q.elim hj fun q => by rw [size_of_list e1] at q; omega) (g := mkF m pc Ls (.int x :: .int j :: .ref a :: st)) rfl rfl hd
  exact (k T' h' (Wk.wrote ha WW X' e' r) (Keep.of_wr WW) (Ary.wrote A e1 e2 e3 (fits_nar_char x) WW)).by stp
theorem w_bastore (W : Wk p l e R s m args below meth c Z EL own ws nw T h cells slots) (hx : p.tables.exec = Jvm.exec) {a : Nat} {vs : List Value} {j x : Int32} (F : Ary Z h a .byte vs) (hj : ¬ j < 0) (hi : j.toNatClampNeg < vs.length) (ha : a ∈ ws ++ nw) {x' : Int32} (hq : x.toInt8.toInt32 = x') (hd : decode c.code pc = .ok (.bastore, 1)) (hp : pc + 1 = pc')
    (k : ∀ T' h', Wk p l e R s m args below meth c Z EL own ws nw T' h' cells slots → Keep h h' [a] → Ary Z h' a .byte (vs.set j.toNatClampNeg (.int x')) → Gets p.tables e below P T' (mkF m pc' Ls st)) : Gets p.tables e below P T (mkF m pc Ls (.int x :: .int j :: .ref a :: st)) := by
  subst hp; subst hq
  obtain ⟨vm0, k0, locs, b0, X, eT, r⟩ := W
  obtain ⟨cl, A, e1, e2, e3⟩ := F
  obtain ⟨T', h', X', e', WW, stp⟩ := stB X hx r.2.2.1 eT A (j := j) (x := x) (fun q => q.elim hj fun q => by rw [size_of_list e1] at q; omega) (g := mkF m pc Ls (.int x :: .int j :: .ref a :: st)) rfl rfl hd
  exact (k T' h' (Wk.wrote ha WW X' e' r) (Keep.of_wr WW) (Ary.wrote A e1 e2 e3 (fits_nar_byte x) WW)).by stp
theorem w_iastore (W : Wk p l e R s m args below meth c Z EL own ws nw T h cells slots) (hx : p.tables.exec = Jvm.exec) {a : Nat} {vs : List Value} {j x : Int32} (F : Ary Z h a .int vs) (hj : ¬ j < 0) (hi : j.toNatClampNeg < vs.length) (ha : a ∈ ws ++ nw) (hd : decode c.code pc = .ok (.iastore, 1)) (hp : pc + 1 = pc')
    (k : ∀ T' h', Wk p l e R s m args below meth c Z EL own ws nw T' h' cells slots → Keep h h' [a] → Ary Z h' a .int (vs.set j.toNatClampNeg (.int x)) → Gets p.tables e below P T' (mkF m pc' Ls st)) : Gets p.tables e below P T (mkF m pc Ls (.int x :: .int j :: .ref a :: st)) := by
  subst hp
  obtain ⟨vm0, k0, locs, b0, X, eT, r⟩ := W
  obtain ⟨cl, A, e1, e2, e3⟩ := F
  obtain ⟨T', h', X', e', WW, stp⟩ := stI X hx r.2.2.1 eT A (j := j) (x := x) (fun q => q.elim hj fun q => by rw [size_of_list e1] at q; omega) (g := mkF m pc Ls (.int x :: .int j :: .ref a :: st)) rfl rfl hd
  exact (k T' h' (Wk.wrote ha WW X' e' r) (Keep.of_wr WW) (Ary.wrote A e1 e2 e3 rfl WW)).by stp
/-! calls -/
theorem backC {y : MethodName} {bytes : ByteArray} {maxL : Nat} {ret : Option FieldType} {rm : Room} {len W : Nat} {as' : Array Value} {Q : Option Value → Heap → Prop} {vm0 : Vm} {wsc : List Addr}
    (hM : Con l Z EL y bytes maxL ret rm as' h wsc Q) (hZ : Z.Warmed39 vm0) (wc : (Cond.code y bytes maxL ret).before a0 Z = true) (wz : (Cond.initialized y.cls).before a0 Z = true) (hf : rm.frames + 1 ≤ R.frames) (hl : W + (maxL + 11) + rm.locals ≤ R.locals) {b0 : Array Value} (hEL : EW Z b0 EL) (H : CHv Z EL vm0 h) (hs : ∀ x : Nat, x ∈ wsc → x < h.size ∧ Safe Z EL vm0 h x) :
    BackS l R p e below (s.setVm vm0) args y len W (fun A a => a = as' ∧ A.U.heap = h ∧ A.cells + rm.cells ≤ R.cells ∧ A.slots + rm.slots ≤ R.slots)
      (fun A _ v B => ∃ L, (Q v B.U.heap ∧ Fr Z.heap.size L ∧ Keep h B.U.heap wsc ∧ Ext Z.heap B.U.heap) ∧ B.locs = A.locs ++ L ∧ B.cells = A.cells + rm.cells ∧ B.slots = A.slots + rm.slots ∧ CHr Z EL vm0 h B.U.vm B.U.heap) :=
  BackS.of_freeW (bytes := bytes) (maxL := maxL) (ret := ret) (E := fun _ first o t L k n => k = rm.cells ∧ n = rm.slots ∧ (∃ v, o = .returned v ∧ (Q v t.heap ∧ Fr Z.heap.size L ∧ Keep h t.heap wsc ∧ Ext Z.heap t.heap)) ∧ CHr Z EL first.vm first.heap t.vm t.heap) hM hf hl
    (fun m meth c A a Y hp => have hU : Z.Warmed39 A.U.vm := wtrans (s := s.setVm vm0) hZ Y.warmed
      ⟨by show (Cond.and _ .tt).before a A.U = true; rw [Cond.before_and, mv hU wc]; rfl, mv hU wc, mv hU wz, hp.2.2.1, hp.2.2.2⟩)
    (fun m meth c A a g mk Y hp => ⟨hp.1, wtrans (s := s.setVm vm0) hZ Y.warmed, hp.2.1, (CHv.at Y hZ hEL H).1, fun x hx => (CHv.at Y hZ hEL H).safe (hs x hx).1 (hs x hx).2⟩) (fun _ _ _ _ _ _ _ _ _ => trivial)
    (fun _ _ _ _ ⟨v, L, h1, h2, h3, h4⟩ => ⟨L, _, _, h4, rfl, rfl, ⟨v, h1, h2⟩, h3⟩)
    (fun m meth c A a g mk v t L k n Y hp _ _ ⟨e1, e2, ⟨v', e3, e4⟩, e5⟩ => by
      cases e3; subst e1 e2
      refine ⟨L, e4, rfl, rfl, rfl, (CHv.at Y hZ hEL H).trans ?_⟩
      rw [← hp.2.1]; exact e5)
theorem Wk.called {vm0 : Vm} {k0 : Nat} {locs L : List Loc} {b0 : Array Value} {T' : State} {h' : Heap} {wsc : List Addr} {n c' s' : Nat} (hw : ∀ x ∈ wsc, x ∈ ws ++ nw) (X' : Stand p l e R ((s.setVm vm0).setVm T'.vm) m args below meth c T' (locs ++ L) c' s') (e' : T'.heap = h') (h2 : (s.setVm vm0).Since T'.vm n) (hn : n ≤ h'.size) (hln : h.size ≤ n) (F : Fr Z.heap.size L) (K : Keep h h' wsc) (O' : Ext Z.heap h') (C' : CHr Z EL vm0 h T'.vm h')
    (r : s.Since vm0 k0 ∧ k0 ≤ h.size ∧ Z.Warmed39 vm0 ∧ vm0.findClass own = some m.cls ∧ EW Z b0 EL ∧ CHr Z EL s.vm s.heap vm0 h ∧ Fr Z.heap.size locs ∧ Ext Z.heap h ∧ Keep s.heap h ws ∧ (∀ x : Nat, x ∈ ws → Z.heap.size ≤ x ∧ x < h.size ∧ Safe Z EL vm0 h x) ∧ (∀ x : Nat, x ∈ nw → s.heap.size ≤ x ∧ Z.heap.size ≤ x ∧ x < h.size ∧ Safe Z EL vm0 h x)) :
    Wk p l e R s m args below meth c Z EL own ws nw T' h' c' s' := by
  obtain ⟨hS, hk, hZ, hown, hE, hC, hF, hO, hK, n1, n2⟩ := r
  have sz := K.1
  refine ⟨T'.vm, n, locs ++ L, b0, X', e', hS.trans h2 (by omega), hn, State.Warmed39.trans (t := s.setVm vm0) hZ h2.1, (h2.1.alike.findClass _ _).trans hown, hE, hC.trans C', Fr.app hF F, O', hK.trans K (fun x hx => ?_), fun x hx => ?_, fun x hx => ?_⟩
  · rcases List.mem_append.mp (hw x hx) with q | q
    · exact Or.inl q
    · exact Or.inr (n2 x q).1
  · obtain ⟨q1, q2, q3⟩ := n1 x hx
    exact ⟨q1, by omega, C'.safe q2 q3⟩
  · obtain ⟨q1, q2, q3, q4⟩ := n2 x hx
    exact ⟨q1, q2, by omega, C'.safe q3 q4⟩
theorem w_callS (W : Wk p l e R s m args below meth c Z EL own ws nw T h cells slots) (hx : p.tables.exec = Jvm.exec) {index : Nat} {y : MethodName} {bytes : ByteArray} {maxL : Nat} {ret : Option FieldType} {rm : Room} {Q : Option Value → Heap → Prop} {wsc : List Addr} (argsL : List Value)
    (w1 : (Cond.methodLink own index y).before a0 Z = true) (w2 : (Cond.static y).before a0 Z = true) (w3 : (Cond.initialized y.cls).before a0 Z = true) (w4 : (Cond.code y bytes maxL ret).before a0 Z = true) (hy : y.cls ≠ "java/lang/invoke/MethodHandle" ∧ y.cls ≠ "java/lang/invoke/VarHandle")
    (H : Con l Z EL y bytes maxL ret rm argsL.toArray h wsc Q) (hwc : ∀ x ∈ wsc, x ∈ ws ++ nw) (hsz : Ls.size = c.maxLocals) (hlen : ∀ sig, parseMethodDescriptor y.desc = some sig → argsL.length = sig.parameters.length) {stk : List Value} (hstk : stk = argsL.reverse ++ st) (hd : decode c.code pc = .ok (.invokestatic index, 3))
    (hf : rm.frames + 1 ≤ R.frames) (hl : (st.map fun v => v.category).sum + (maxL + 11) + rm.locals ≤ R.locals) (hc : cells + rm.cells ≤ R.cells) (hs : slots + rm.slots ≤ R.slots) (hp : pc + 3 = pc')
    (k : ∀ v T' h', Wk p l e R s m args below meth c Z EL own ws nw T' h' (cells + rm.cells) (slots + rm.slots) → Keep h h' wsc → Q v h' → Gets p.tables e below P T' (mkF m pc' Ls (v.toList ++ st))) : Gets p.tables e below P T (mkF m pc Ls stk) := by
  subst hp
  obtain ⟨vm0, k0, locs, b0, X, eT, r⟩ := W
  obtain ⟨hS, hk, hZ, hown, hE, hC, hF, hO, hK, n1, n2⟩ := id r
  have sf : ∀ x : Nat, x ∈ wsc → x < h.size ∧ Safe Z EL vm0 h x := fun x hx => by
    rcases List.mem_append.mp (hwc x hx) with q | q
    · exact (n1 x q).2
    · exact (n2 x q).2.2
  obtain ⟨v, vm1, ⟨T', L', c', s'⟩, -, X', hS2, hg2, ⟨L, ⟨q1, q2, q3, q4⟩, l1, l2, l3, C'⟩, stp⟩ := callSS X hx (y := y) hown (mv (s := s.setVm vm0) hZ w1) (mv (s := s.setVm vm0) hZ w2) (mv (s := s.setVm vm0) hZ w3) (mv (s := s.setVm vm0) hZ w4) hy (backC (W := (st.map fun v => v.category).sum) H hZ w4 w3 hf hl hE hC.1 sf) (g := mkF m pc Ls stk) rfl hsz (argsL := argsL) (rest := st) hlen hstk (by show 2 * 0 + _ ≤ _; omega) hd (fun _ _ => ⟨rfl, eT, hc, hs⟩)
  dsimp only [Pt.U, Pt.locs, Pt.cells, Pt.slots] at X' hS2 hg2 q1 q3 q4 l1 l2 l3 C' stp
  subst l1 l2 l3
  exact (k v T' _ (Wk.called (h' := T'.heap) hwc X' rfl hS2 (Nat.le_refl _) (by rw [← eT]; exact hg2) q2 q3 q4 C' r) q3 q1).by fun t q => stp.trans q
theorem w_special (W : Wk p l e R s m args below meth c Z EL own ws nw T h cells slots) (hx : p.tables.exec = Jvm.exec) {index : Nat} {y : MethodName} {bytes : ByteArray} {maxL : Nat} {rm : Room} {Q : Option Value → Heap → Prop} {wsc : List Addr} {a : Nat} (argsL : List Value) (hy1 : y.name = "<init>")
    (w1 : (Cond.methodLink own index y).before a0 Z = true) (w2 : (Cond.instanceMethod y).before a0 Z = true) (w3 : (Cond.initialized y.cls).before a0 Z = true) (w4 : (Cond.code y bytes maxL none).before a0 Z = true) (hy : y.cls ≠ "java/lang/invoke/MethodHandle" ∧ y.cls ≠ "java/lang/invoke/VarHandle")
    (H : Con l Z EL y bytes maxL none rm (.ref a :: argsL).toArray h wsc Q) (hwc : ∀ x ∈ wsc, x ∈ ws ++ nw) (hsz : Ls.size = c.maxLocals) (hlen : ∀ sig, parseMethodDescriptor y.desc = some sig → argsL.length = sig.parameters.length) {stk : List Value} (hstk : stk = argsL.reverse ++ .ref a :: st) (hd : decode c.code pc = .ok (.invokespecial index, 3))
    (hf : rm.frames + 1 ≤ R.frames) (hl : (st.map fun v => v.category).sum + (maxL + 11) + rm.locals ≤ R.locals) (hc : cells + rm.cells ≤ R.cells) (hs : slots + rm.slots ≤ R.slots) (hp : pc + 3 = pc')
    (k : ∀ v T' h', Wk p l e R s m args below meth c Z EL own ws nw T' h' (cells + rm.cells) (slots + rm.slots) → Keep h h' wsc → Q v h' → Gets p.tables e below P T' (mkF m pc' Ls (v.toList ++ st))) : Gets p.tables e below P T (mkF m pc Ls stk) := by
  subst hp
  obtain ⟨vm0, k0, locs, b0, X, eT, r⟩ := W
  obtain ⟨hS, hk, hZ, hown, hE, hC, hF, hO, hK, n1, n2⟩ := id r
  have sf : ∀ x : Nat, x ∈ wsc → x < h.size ∧ Safe Z EL vm0 h x := fun x hx => by
    rcases List.mem_append.mp (hwc x hx) with q | q
    · exact (n1 x q).2
    · exact (n2 x q).2.2
  obtain ⟨v, vm1, ⟨T', L', c', s'⟩, -, X', hS2, hg2, ⟨L, ⟨q1, q2, q3, q4⟩, l1, l2, l3, C'⟩, stp⟩ := X.specialBackS hx (y := y) hy1 hown (mv (s := s.setVm vm0) hZ w1) (mv (s := s.setVm vm0) hZ w2) (mv (s := s.setVm vm0) hZ w4) hy (backC (W := (st.map fun v => v.category).sum) H hZ w4 w3 hf hl hE hC.1 sf) (g := mkF m pc Ls stk) rfl hsz (Steps.refl _) (a := a) (argsL := argsL) (rest := st) hlen hstk (by show 2 * 0 + _ ≤ _; omega) hd (fun _ _ => ⟨rfl, eT, hc, hs⟩)
  dsimp only [Pt.U, Pt.locs, Pt.cells, Pt.slots] at X' hS2 hg2 q1 q3 q4 l1 l2 l3 C' stp
  subst l1 l2 l3
  exact (k v T' _ (Wk.called (h' := T'.heap) hwc X' rfl hS2 (Nat.le_refl _) (by rw [← eT]; exact hg2) q2 q3 q4 C' r) q3 q1).by fun t q => stp.trans q
theorem w_virtual (W : Wk p l e R s m args below meth c Z EL own ws nw T h cells slots) (hx : p.tables.exec = Jvm.exec) {index : Nat} {y z : MethodName} {C : String} {bytes : ByteArray} {maxL : Nat} {ret : Option FieldType} {rm : Room} {Q : Option Value → Heap → Prop} {wsc : List Addr} {a : Nat} (argsL : List Value)
    (w1 : (Cond.methodLink own index y).before a0 Z = true) (w2 : (Cond.declares y).before a0 Z = true) (hnf : ∀ {U : State}, Z.Warmed39 U.vm → NotFace U y) (w3 : (Cond.selects C y z).before a0 Z = true) (w5 : (Cond.instanceMethod z).before a0 Z = true) (w6 : (Cond.initialized z.cls).before a0 Z = true) (w4 : (Cond.code z bytes maxL ret).before a0 Z = true) (hy : y.cls ≠ "java/lang/invoke/MethodHandle" ∧ y.cls ≠ "java/lang/invoke/VarHandle")
    (H : Con l Z EL z bytes maxL ret rm (.ref a :: argsL).toArray h wsc Q) (E : Exa Z h a C) (hwc : ∀ x ∈ wsc, x ∈ ws ++ nw) (hsz : Ls.size = c.maxLocals) (hlen : ∀ sig, parseMethodDescriptor y.desc = some sig → argsL.length = sig.parameters.length) {stk : List Value} (hstk : stk = argsL.reverse ++ .ref a :: st) (hd : decode c.code pc = .ok (.invokevirtual index, 3))
    (hf : rm.frames + 1 ≤ R.frames) (hl : (st.map fun v => v.category).sum + (maxL + 11) + rm.locals ≤ R.locals) (hc : cells + rm.cells ≤ R.cells) (hs : slots + rm.slots ≤ R.slots) (hp : pc + 3 = pc')
    (k : ∀ v T' h', Wk p l e R s m args below meth c Z EL own ws nw T' h' (cells + rm.cells) (slots + rm.slots) → Keep h h' wsc → Q v h' → Gets p.tables e below P T' (mkF m pc' Ls (v.toList ++ st))) : Gets p.tables e below P T (mkF m pc Ls stk) := by
  subst hp
  obtain ⟨vm0, k0, locs, b0, X, eT, r⟩ := W
  obtain ⟨hS, hk, hZ, hown, hE, hC, hF, hO, hK, n1, n2⟩ := id r
  have sf : ∀ x : Nat, x ∈ wsc → x < h.size ∧ Safe Z EL vm0 h x := fun x hx => by
    rcases List.mem_append.mp (hwc x hx) with q | q
    · exact (n1 x q).2
    · exact (n2 x q).2.2
  obtain ⟨cq, kq, qa, qb, qc⟩ := isOf (s := s.setVm vm0) hZ eT E
  obtain ⟨v, vm1, ⟨T', L', c', s'⟩, -, X', hS2, hg2, ⟨L, ⟨q1, q2, q3, q4⟩, l1, l2, l3, C'⟩, stp⟩ := X.virtualBackS hx (y := y) (z := z) hown (mv (s := s.setVm vm0) hZ w1) (mv (s := s.setVm vm0) hZ w2) (hnf (U := s.setVm vm0) hZ) (mv (s := s.setVm vm0) hZ w3) (mv (s := s.setVm vm0) hZ w5) hy (backC (W := (st.map fun v => v.category).sum) H hZ w4 w6 hf hl hE hC.1 sf) qa qc (g := mkF m pc Ls stk) rfl hsz (Steps.refl _) (argsL := argsL) (rest := st) hlen hstk (by show 2 * 0 + _ ≤ _; omega) hd (fun _ _ => ⟨rfl, eT, hc, hs⟩)
  dsimp only [Pt.U, Pt.locs, Pt.cells, Pt.slots] at X' hS2 hg2 q1 q3 q4 l1 l2 l3 C' stp
  subst l1 l2 l3
  exact (k v T' _ (Wk.called (h' := T'.heap) hwc X' rfl hS2 (Nat.le_refl _) (by rw [← eT]; exact hg2) q2 q3 q4 C' r) q3 q1).by fun t q => stp.trans q
theorem w_virtualUp (W : Wk p l e R s m args below meth c Z EL own ws nw T h cells slots) (hx : p.tables.exec = Jvm.exec) {index : Nat} {y z : MethodName} {C owner : String} {bytes : ByteArray} {maxL : Nat} {ret : Option FieldType} {rm : Room} {Q : Option Value → Heap → Prop} {wsc : List Addr} {a : Nat} (argsL : List Value)
    (w1 : (Cond.methodLink own index y).before a0 Z = true) (w7 : (Cond.sameMethod y.cls owner y.name y.desc).before a0 Z = true) (w2 : (Cond.declares ⟨owner, y.name, y.desc⟩).before a0 Z = true) (w3 : (Cond.selects C y z).before a0 Z = true) (w5 : (Cond.instanceMethod z).before a0 Z = true) (w6 : (Cond.initialized z.cls).before a0 Z = true) (w4 : (Cond.code z bytes maxL ret).before a0 Z = true) (hy : owner ≠ "java/lang/invoke/MethodHandle" ∧ owner ≠ "java/lang/invoke/VarHandle")
    (H : Con l Z EL z bytes maxL ret rm (.ref a :: argsL).toArray h wsc Q) (E : Exa Z h a C) (hwc : ∀ x ∈ wsc, x ∈ ws ++ nw) (hsz : Ls.size = c.maxLocals) (hlen : ∀ sig, parseMethodDescriptor y.desc = some sig → argsL.length = sig.parameters.length) {stk : List Value} (hstk : stk = argsL.reverse ++ .ref a :: st) (hd : decode c.code pc = .ok (.invokevirtual index, 3))
    (hf : rm.frames + 1 ≤ R.frames) (hl : (st.map fun v => v.category).sum + (maxL + 11) + rm.locals ≤ R.locals) (hc : cells + rm.cells ≤ R.cells) (hs : slots + rm.slots ≤ R.slots) (hp : pc + 3 = pc')
    (k : ∀ v T' h', Wk p l e R s m args below meth c Z EL own ws nw T' h' (cells + rm.cells) (slots + rm.slots) → Keep h h' wsc → Q v h' → Gets p.tables e below P T' (mkF m pc' Ls (v.toList ++ st))) : Gets p.tables e below P T (mkF m pc Ls stk) := by
  subst hp
  obtain ⟨vm0, k0, locs, b0, X, eT, r⟩ := W
  obtain ⟨hS, hk, hZ, hown, hE, hC, hF, hO, hK, n1, n2⟩ := id r
  have sf : ∀ x : Nat, x ∈ wsc → x < h.size ∧ Safe Z EL vm0 h x := fun x hx => by
    rcases List.mem_append.mp (hwc x hx) with q | q
    · exact (n1 x q).2
    · exact (n2 x q).2.2
  obtain ⟨cq, kq, qa, qb, qc⟩ := isOf (s := s.setVm vm0) hZ eT E
  obtain ⟨v, vm1, ⟨T', L', c', s'⟩, -, X', hS2, hg2, ⟨L, ⟨q1, q2, q3, q4⟩, l1, l2, l3, C'⟩, stp⟩ := X.virtualBackUpS hx (x := y) (y := z) hown (mv (s := s.setVm vm0) hZ w1) (mv (s := s.setVm vm0) hZ w7) (mv (s := s.setVm vm0) hZ w2) hy (mv (s := s.setVm vm0) hZ w3) (mv (s := s.setVm vm0) hZ w5) (backC (W := (st.map fun v => v.category).sum) H hZ w4 w6 hf hl hE hC.1 sf) qa qc (g := mkF m pc Ls stk) rfl hsz (Steps.refl _) (argsL := argsL) (rest := st) hlen hstk (by show 2 * 0 + _ ≤ _; omega) hd (fun _ _ => ⟨rfl, eT, hc, hs⟩)
  dsimp only [Pt.U, Pt.locs, Pt.cells, Pt.slots] at X' hS2 hg2 q1 q3 q4 l1 l2 l3 C' stp
  subst l1 l2 l3
  exact (k v T' _ (Wk.called (h' := T'.heap) hwc X' rfl hS2 (Nat.le_refl _) (by rw [← eT]; exact hg2) q2 q3 q4 C' r) q3 q1).by fun t q => stp.trans q
theorem nfS {y z : MethodName} {C : String} (w : (Cond.selects C y y).before a0 Z = true) {U : State} (hZ : Z.Warmed39 U.vm) : NotFace U y := notFace_of_selects (args := #[]) (mv hZ w)
theorem w_iface (W : Wk p l e R s m args below meth c Z EL own ws nw T h cells slots) (hx : p.tables.exec = Jvm.exec) {index count : Nat} {y z : MethodName} {C : String} {bytes : ByteArray} {maxL : Nat} {ret : Option FieldType} {rm : Room} {Q : Option Value → Heap → Prop} {wsc : List Addr} {a : Nat} (argsL : List Value)
    (w1 : (Cond.methodLink own index y).before a0 Z = true) (w2 : (Cond.declares y).before a0 Z = true) (w7 : (Cond.interfaceMethod y.cls y.cls y.name y.desc).before a0 Z = true) (w3 : (Cond.selects C y z).before a0 Z = true) (w5 : (Cond.instanceMethod z).before a0 Z = true) (w8 : (Cond.publicMethod z).before a0 Z = true) (w9 : (Cond.unhidden C y.name y.desc).before a0 Z = true) (w10 : (Cond.castable C y.cls).before a0 Z = true) (w6 : (Cond.initialized z.cls).before a0 Z = true) (w4 : (Cond.code z bytes maxL ret).before a0 Z = true) (hy : y.cls ≠ "java/lang/invoke/MethodHandle" ∧ y.cls ≠ "java/lang/invoke/VarHandle")
    (H : Con l Z EL z bytes maxL ret rm (.ref a :: argsL).toArray h wsc Q) (E : Exa Z h a C) (hwc : ∀ x ∈ wsc, x ∈ ws ++ nw) (hsz : Ls.size = c.maxLocals) (hlen : ∀ sig, parseMethodDescriptor y.desc = some sig → argsL.length = sig.parameters.length) {stk : List Value} (hstk : stk = argsL.reverse ++ .ref a :: st) (hd : decode c.code pc = .ok (.invokeinterface index count, 5))
    (hf : rm.frames + 1 ≤ R.frames) (hl : (st.map fun v => v.category).sum + (maxL + 11) + rm.locals ≤ R.locals) (hc : cells + rm.cells ≤ R.cells) (hs : slots + rm.slots ≤ R.slots) (hp : pc + 5 = pc')
    (k : ∀ v T' h', Wk p l e R s m args below meth c Z EL own ws nw T' h' (cells + rm.cells) (slots + rm.slots) → Keep h h' wsc → Q v h' → Gets p.tables e below P T' (mkF m pc' Ls (v.toList ++ st))) : Gets p.tables e below P T (mkF m pc Ls stk) := by
  subst hp
  obtain ⟨vm0, k0, locs, b0, X, eT, r⟩ := W
  obtain ⟨hS, hk, hZ, hown, hE, hC, hF, hO, hK, n1, n2⟩ := id r
  have sf : ∀ x : Nat, x ∈ wsc → x < h.size ∧ Safe Z EL vm0 h x := fun x hx => by
    rcases List.mem_append.mp (hwc x hx) with q | q
    · exact (n1 x q).2
    · exact (n2 x q).2.2
  obtain ⟨cq, kq, qa, qb, qc⟩ := isOf (s := s.setVm vm0) hZ eT E
  obtain ⟨v, vm1, ⟨T', L', c', s'⟩, -, X', hS2, hg2, ⟨L, ⟨q1, q2, q3, q4⟩, l1, l2, l3, C'⟩, stp⟩ := X.interfaceBackS hx (xi := y) (y := z) hown (mv (s := s.setVm vm0) hZ w1) (mv (s := s.setVm vm0) hZ w2) (mv (s := s.setVm vm0) hZ w7 (by simp [Cond.onTables, Cond.keepsFace, Cond.keeps, Cond.steady, Cond.faceAtom, hy.1, hy.2])) (mv (s := s.setVm vm0) hZ w3) (mv (s := s.setVm vm0) hZ w5) (mv (s := s.setVm vm0) hZ w8) (mv (s := s.setVm vm0) hZ w9) (mv (s := s.setVm vm0) hZ w10) hy (backC (W := (st.map fun v => v.category).sum) H hZ w4 w6 hf hl hE hC.1 sf) qa qb qc (g := mkF m pc Ls stk) rfl hsz (Steps.refl _) (argsL := argsL) (rest := st) hlen hstk (by show 2 * 0 + _ ≤ _; omega) hd (fun _ _ => ⟨rfl, eT, hc, hs⟩)
  dsimp only [Pt.U, Pt.locs, Pt.cells, Pt.slots] at X' hS2 hg2 q1 q3 q4 l1 l2 l3 C' stp
  subst l1 l2 l3
  exact (k v T' _ (Wk.called (h' := T'.heap) hwc X' rfl hS2 (Nat.le_refl _) (by rw [← eT]; exact hg2) q2 q3 q4 C' r) q3 q1).by fun t q => stp.trans q
/-! String constants -/
theorem w_ldcS (W : Wk p l e R s m args below meth c Z EL own ws nw T h cells slots) (hx : p.tables.exec = Jvm.exec) {index : Nat} {text : String} (w : (Cond.stringLink own index text).before a0 Z = true) (wS : ∀ a ∈ Bundle.stringAtoms, a.before a0 Z = true) (hmem : (own, index) ∈ EL) {vs : List Value} {z : Int32} (ht : (∀ c ∈ text.toList, c.toNat < 256) ∧ text.toList.map (fun c => Value.int (Jvm.Lit.byteI c.toNat.toUInt16)) = vs) (hz : ¬ z < 0) (hzl : z.toNatClampNeg = vs.length)
    (hd : decode c.code pc = .ok (.ldc index, 2)) (n : Nat) (hn : 4 * text.toList.length ≤ n) (hbig : n ≤ 536870912) (hc : cells + 2 ≤ R.cells) (hl : slots + (n + 4) ≤ R.slots) (hp : pc + 2 = pc')
    (k : ∀ (T' : State) (h' : Heap) (a b : Nat), Wk p l e R s m args below meth c Z EL own ws nw T' h' (cells + 2) (slots + (n + 4)) → Keep h h' [] → Exa Z h' a "java/lang/String" → Fld Z h' a "java/lang/String" "coder" "B" (.int 0) → Fld Z h' a "java/lang/String" "value" "[B" (.ref b) → Ary Z h' b .byte vs → (∀ x ∈ ws ++ nw, x ≠ a ∧ x ≠ b) → Gets p.tables e below P T' (mkF m pc' Ls (.ref a :: st))) : Gets p.tables e below P T (mkF m pc Ls st) := by
  subst hp
  obtain ⟨vm0, k0, locs, b0, X, eT, hS, hk, hZ, hown, hE, hC, hF, hO, hK, n1, n2⟩ := W
  obtain ⟨a, T', h', k1, b, cb, X', e', E, hS2, hk2, hZ2, hown2, A, F1, F2, V, la, lb, C', -, hne, stp⟩ := ldcCH X hx hZ hown w wS eT hS hk hE hmem hC.1 ht hz hzl (g := mkF m pc Ls st) rfl hd hn hbig hc hl
  have sz := E.1
  have N1 : ∀ x : Nat, x ∈ ws → Z.heap.size ≤ x ∧ x < h'.size ∧ Safe Z EL T'.vm h' x := fun x hx => by
    obtain ⟨q1, q2, q3⟩ := n1 x hx
    exact ⟨q1, by omega, C'.safe q2 q3⟩
  have N2 : ∀ x : Nat, x ∈ nw → s.heap.size ≤ x ∧ Z.heap.size ≤ x ∧ x < h'.size ∧ Safe Z EL T'.vm h' x := fun x hx => by
    obtain ⟨q1, q2, q3, q4⟩ := n2 x hx
    exact ⟨q1, q2, by omega, C'.safe q3 q4⟩
  refine (k T' h' a b ⟨T'.vm, k1, locs, b0, X', e', hS2, hk2, hZ2, hown2, hE, hC.trans C', hF, ⟨Nat.le_trans hO.1 E.1, fun x cc q => E.2 x cc (hO.2 x cc q)⟩, hK.ext E, N1, N2⟩ ((Keep.refl h []).ext E) A F1 F2 (Ary.of_arv V hzl) fun x hx => ?_).by stp
  rcases List.mem_append.mp hx with q | q
  · exact hne x (N1 x q).2.2
  · exact hne x (N2 x q).2.2.2
theorem w_ldcO (W : Wk p l e R s m args below meth c Z EL own ws nw T h cells slots) (hx : p.tables.exec = Jvm.exec) {index : Nat} {text : String} (w : (Cond.stringLink own index text).before a0 Z = true) (wS : ∀ a ∈ Bundle.stringAtoms, a.before a0 Z = true)
    (hd : decode c.code pc = .ok (.ldc index, 2)) (n : Nat) (hn : 4 * text.toList.length ≤ n) (hbig : n ≤ 536870912) (hc : cells + 2 ≤ R.cells) (hl : slots + (n + 4) ≤ R.slots) (hp : pc + 2 = pc')
    (k : ∀ (T' : State) (h' : Heap) (a : Nat), Wk p l e R s m args below meth c Z EL own ws nw T' h' (cells + 2) (slots + (n + 4)) → Keep h h' [] → Gets p.tables e below P T' (mkF m pc' Ls (.ref a :: st))) : Gets p.tables e below P T (mkF m pc Ls st) := by
  subst hp
  obtain ⟨vm0, k0, locs, b0, X, eT, hS, hk, hZ, hown, hE, hC, hF, hO, hK, n1, n2⟩ := W
  obtain ⟨a, T', h', k1, X', e', E, hS2, hk2, hZ2, hown2, C', -, stp⟩ := ldcOH X hx hZ hown w wS eT hS hk hE hC.1 (g := mkF m pc Ls st) rfl hd hn hbig hc hl
  have sz := E.1
  refine (k T' h' a ⟨T'.vm, k1, locs, b0, X', e', hS2, hk2, hZ2, hown2, hE, hC.trans C', hF, ⟨Nat.le_trans hO.1 E.1, fun x cc q => E.2 x cc (hO.2 x cc q)⟩, hK.ext E, fun x hx => ?_, fun x hx => ?_⟩ ((Keep.refl h []).ext E)).by stp
  · obtain ⟨q1, q2, q3⟩ := n1 x hx
    exact ⟨q1, by omega, C'.safe q2 q3⟩
  · obtain ⟨q1, q2, q3, q4⟩ := n2 x hx
    exact ⟨q1, q2, by omega, C'.safe q3 q4⟩
end OwnWalk
section OwnPure
variable {p : Program} {l : Launch} {e : Env} {R : Room} {s : State} {m : MethodId} {args : Array Value} {below : List Frame} {meth : Method} {c : Code} {T : State} {Z : State} {a0 : Array Value} {h : Heap} {EL : List (String × Nat)} {own : String} {cells slots : Nat} {ws nw : List Addr} {P : Outcome → State → Prop} {pc pc' : Nat} {Ls : Array Slot} {st : List Value}
/-- it returns r and leaves the heap as it was -/
def pureQ (r : Option Value) (h : Heap) : Option Value → Heap → Prop := fun v h' => v = r ∧ h' = h
theorem w_callSp (W : Wk p l e R s m args below meth c Z EL own ws nw T h cells slots) (hx : p.tables.exec = Jvm.exec) {index : Nat} {y : MethodName} {bytes : ByteArray} {maxL : Nat} {ret : Option FieldType} {rm : Room} {r : Option Value} (argsL : List Value)
    (w1 : (Cond.methodLink own index y).before a0 Z = true) (w2 : (Cond.static y).before a0 Z = true) (w3 : (Cond.initialized y.cls).before a0 Z = true) (w4 : (Cond.code y bytes maxL ret).before a0 Z = true) (hy : y.cls ≠ "java/lang/invoke/MethodHandle" ∧ y.cls ≠ "java/lang/invoke/VarHandle")
    (H : Con l Z EL y bytes maxL ret rm argsL.toArray h [] (pureQ r h)) (hsz : Ls.size = c.maxLocals) (hlen : ∀ sig, parseMethodDescriptor y.desc = some sig → argsL.length = sig.parameters.length) {stk : List Value} (hstk : stk = argsL.reverse ++ st) (hd : decode c.code pc = .ok (.invokestatic index, 3))
    (hf : rm.frames + 1 ≤ R.frames) (hl : (st.map fun v => v.category).sum + (maxL + 11) + rm.locals ≤ R.locals) (hc : rm.cells = 0) (hs : rm.slots = 0) (hc' : cells ≤ R.cells) (hs' : slots ≤ R.slots) (hp : pc + 3 = pc')
    (k : ∀ T', Wk p l e R s m args below meth c Z EL own ws nw T' h cells slots → Gets p.tables e below P T' (mkF m pc' Ls (r.toList ++ st))) : Gets p.tables e below P T (mkF m pc Ls stk) :=
  w_callS W hx argsL w1 w2 w3 w4 hy H all0 hsz hlen hstk hd hf hl (by rw [hc]; exact hc') (by rw [hs]; exact hs') hp fun v T' h' W' K q => by
    obtain ⟨e1, e2⟩ := q
    subst e1; rw [e2] at W'; rw [hc, hs] at W'; exact k T' W'
theorem w_virtualp (W : Wk p l e R s m args below meth c Z EL own ws nw T h cells slots) (hx : p.tables.exec = Jvm.exec) {index : Nat} {y z : MethodName} {C : String} {bytes : ByteArray} {maxL : Nat} {ret : Option FieldType} {rm : Room} {r : Option Value} {a : Nat} (argsL : List Value)
    (w1 : (Cond.methodLink own index y).before a0 Z = true) (w2 : (Cond.declares y).before a0 Z = true) (hnf : ∀ {U : State}, Z.Warmed39 U.vm → NotFace U y) (w3 : (Cond.selects C y z).before a0 Z = true) (w5 : (Cond.instanceMethod z).before a0 Z = true) (w6 : (Cond.initialized z.cls).before a0 Z = true) (w4 : (Cond.code z bytes maxL ret).before a0 Z = true) (hy : y.cls ≠ "java/lang/invoke/MethodHandle" ∧ y.cls ≠ "java/lang/invoke/VarHandle")
    (H : Con l Z EL z bytes maxL ret rm (.ref a :: argsL).toArray h [] (pureQ r h)) (E : Exa Z h a C) (hsz : Ls.size = c.maxLocals) (hlen : ∀ sig, parseMethodDescriptor y.desc = some sig → argsL.length = sig.parameters.length) {stk : List Value} (hstk : stk = argsL.reverse ++ .ref a :: st) (hd : decode c.code pc = .ok (.invokevirtual index, 3))
    (hf : rm.frames + 1 ≤ R.frames) (hl : (st.map fun v => v.category).sum + (maxL + 11) + rm.locals ≤ R.locals) (hc : rm.cells = 0) (hs : rm.slots = 0) (hc' : cells ≤ R.cells) (hs' : slots ≤ R.slots) (hp : pc + 3 = pc')
    (k : ∀ T', Wk p l e R s m args below meth c Z EL own ws nw T' h cells slots → Gets p.tables e below P T' (mkF m pc' Ls (r.toList ++ st))) : Gets p.tables e below P T (mkF m pc Ls stk) :=
  w_virtual W hx argsL w1 w2 hnf w3 w5 w6 w4 hy H E all0 hsz hlen hstk hd hf hl (by rw [hc]; exact hc') (by rw [hs]; exact hs') hp fun v T' h' W' K q => by
    obtain ⟨e1, e2⟩ := q
    subst e1; rw [e2] at W'; rw [hc, hs] at W'; exact k T' W'
theorem w_virtualUpp (W : Wk p l e R s m args below meth c Z EL own ws nw T h cells slots) (hx : p.tables.exec = Jvm.exec) {index : Nat} {y z : MethodName} {C owner : String} {bytes : ByteArray} {maxL : Nat} {ret : Option FieldType} {rm : Room} {r : Option Value} {a : Nat} (argsL : List Value)
    (w1 : (Cond.methodLink own index y).before a0 Z = true) (w7 : (Cond.sameMethod y.cls owner y.name y.desc).before a0 Z = true) (w2 : (Cond.declares ⟨owner, y.name, y.desc⟩).before a0 Z = true) (w3 : (Cond.selects C y z).before a0 Z = true) (w5 : (Cond.instanceMethod z).before a0 Z = true) (w6 : (Cond.initialized z.cls).before a0 Z = true) (w4 : (Cond.code z bytes maxL ret).before a0 Z = true) (hy : owner ≠ "java/lang/invoke/MethodHandle" ∧ owner ≠ "java/lang/invoke/VarHandle")
    (H : Con l Z EL z bytes maxL ret rm (.ref a :: argsL).toArray h [] (pureQ r h)) (E : Exa Z h a C) (hsz : Ls.size = c.maxLocals) (hlen : ∀ sig, parseMethodDescriptor y.desc = some sig → argsL.length = sig.parameters.length) {stk : List Value} (hstk : stk = argsL.reverse ++ .ref a :: st) (hd : decode c.code pc = .ok (.invokevirtual index, 3))
    (hf : rm.frames + 1 ≤ R.frames) (hl : (st.map fun v => v.category).sum + (maxL + 11) + rm.locals ≤ R.locals) (hc : rm.cells = 0) (hs : rm.slots = 0) (hc' : cells ≤ R.cells) (hs' : slots ≤ R.slots) (hp : pc + 3 = pc')
    (k : ∀ T', Wk p l e R s m args below meth c Z EL own ws nw T' h cells slots → Gets p.tables e below P T' (mkF m pc' Ls (r.toList ++ st))) : Gets p.tables e below P T (mkF m pc Ls stk) :=
  w_virtualUp W hx argsL w1 w7 w2 w3 w5 w6 w4 hy H E all0 hsz hlen hstk hd hf hl (by rw [hc]; exact hc') (by rw [hs]; exact hs') hp fun v T' h' W' K q => by
    obtain ⟨e1, e2⟩ := q
    subst e1; rw [e2] at W'; rw [hc, hs] at W'; exact k T' W'
theorem w_ifacep (W : Wk p l e R s m args below meth c Z EL own ws nw T h cells slots) (hx : p.tables.exec = Jvm.exec) {index count : Nat} {y z : MethodName} {C : String} {bytes : ByteArray} {maxL : Nat} {ret : Option FieldType} {rm : Room} {r : Option Value} {a : Nat} (argsL : List Value)
    (w1 : (Cond.methodLink own index y).before a0 Z = true) (w2 : (Cond.declares y).before a0 Z = true) (w7 : (Cond.interfaceMethod y.cls y.cls y.name y.desc).before a0 Z = true) (w3 : (Cond.selects C y z).before a0 Z = true) (w5 : (Cond.instanceMethod z).before a0 Z = true) (w8 : (Cond.publicMethod z).before a0 Z = true) (w9 : (Cond.unhidden C y.name y.desc).before a0 Z = true) (w10 : (Cond.castable C y.cls).before a0 Z = true) (w6 : (Cond.initialized z.cls).before a0 Z = true) (w4 : (Cond.code z bytes maxL ret).before a0 Z = true) (hy : y.cls ≠ "java/lang/invoke/MethodHandle" ∧ y.cls ≠ "java/lang/invoke/VarHandle")
    (H : Con l Z EL z bytes maxL ret rm (.ref a :: argsL).toArray h [] (pureQ r h)) (E : Exa Z h a C) (hsz : Ls.size = c.maxLocals) (hlen : ∀ sig, parseMethodDescriptor y.desc = some sig → argsL.length = sig.parameters.length) {stk : List Value} (hstk : stk = argsL.reverse ++ .ref a :: st) (hd : decode c.code pc = .ok (.invokeinterface index count, 5))
    (hf : rm.frames + 1 ≤ R.frames) (hl : (st.map fun v => v.category).sum + (maxL + 11) + rm.locals ≤ R.locals) (hc : rm.cells = 0) (hs : rm.slots = 0) (hc' : cells ≤ R.cells) (hs' : slots ≤ R.slots) (hp : pc + 5 = pc')
    (k : ∀ T', Wk p l e R s m args below meth c Z EL own ws nw T' h cells slots → Gets p.tables e below P T' (mkF m pc' Ls (r.toList ++ st))) : Gets p.tables e below P T (mkF m pc Ls stk) :=
  w_iface W hx argsL w1 w2 w7 w3 w5 w8 w9 w10 w6 w4 hy H E all0 hsz hlen hstk hd hf hl (by rw [hc]; exact hc') (by rw [hs]; exact hs') hp fun v T' h' W' K q => by
    obtain ⟨e1, e2⟩ := q
    subst e1; rw [e2] at W'; rw [hc, hs] at W'; exact k T' W'
theorem g_name {tb : Tables} {v w : Value} (q : w = v) (k : Gets tb e below P T (mkF m pc Ls (w :: st))) : Gets tb e below P T (mkF m pc Ls (v :: st)) := q ▸ k
end OwnPure
theorem w_0 : tables_1[0]? = some (Jvm.Cond.methodLink "com/example/despatch/despatch/messaging/MailboxQueryOfPinLaw" (16 : Nat) ({ cls := "com/example/despatch/despatch/messaging/MailboxQueryOfPinLaw", name := "draw", desc := "(II)Ljava/lang/String;" } : Jvm.MethodName)) := rfl
theorem w_1 : tables_1[1]? = some (Jvm.Cond.static ({ cls := "com/example/despatch/despatch/messaging/MailboxQueryOfPinLaw", name := "draw", desc := "(II)Ljava/lang/String;" } : Jvm.MethodName)) := rfl
theorem w_2 : tables_1[2]? = some (Jvm.Cond.initialized "com/example/despatch/despatch/messaging/MailboxQueryOfPinLaw") := rfl
theorem w_3 : tables_1[3]? = some (Jvm.Cond.code ({ cls := "com/example/despatch/despatch/messaging/MailboxQueryOfPinLaw", name := "draw", desc := "(II)Ljava/lang/String;" } : Jvm.MethodName) method_2_code (6 : Nat) (Option.some (Jvm.ClassFile.FieldType.object "java/lang/String"))) := rfl
theorem w_4 : tables_1[4]? = some (Jvm.Cond.classLink "com/example/despatch/despatch/messaging/MailboxQueryOfPinLaw" (7 : Nat) "java/lang/String") := rfl
theorem w_5 : tables_1[5]? = some (Jvm.Cond.instantiable "java/lang/String" (4 : Nat)) := rfl
theorem w_6 : tables_1[6]? = some (Jvm.Cond.initialized "java/lang/String") := rfl
theorem w_7 : tables_1[7]? = some (Jvm.Cond.arrayClass Jvm.ClassFile.FieldType.char) := rfl
theorem w_8 : tables_1[8]? = some (Jvm.Cond.methodLink "com/example/despatch/despatch/messaging/MailboxQueryOfPinLaw" (9 : Nat) ({ cls := "java/lang/String", name := "<init>", desc := "([C)V" } : Jvm.MethodName)) := rfl
theorem w_9 : tables_1[9]? = some (Jvm.Cond.instanceMethod ({ cls := "java/lang/String", name := "<init>", desc := "([C)V" } : Jvm.MethodName)) := rfl
theorem w_10 : tables_1[10]? = some (Jvm.Cond.code ({ cls := "java/lang/String", name := "<init>", desc := "([C)V" } : Jvm.MethodName) jdk_42_method_3_code (2 : Nat) (Option.none : Option Jvm.ClassFile.FieldType)) := rfl
theorem w_11 : tables_1[11]? = some (Jvm.Cond.methodLink "java/lang/String" (27 : Nat) ({ cls := "java/lang/String", name := "<init>", desc := "([CIILjava/lang/Void;)V" } : Jvm.MethodName)) := rfl
theorem w_12 : tables_1[12]? = some (Jvm.Cond.instanceMethod ({ cls := "java/lang/String", name := "<init>", desc := "([CIILjava/lang/Void;)V" } : Jvm.MethodName)) := rfl
theorem w_14 : tables_1[14]? = some (Jvm.Cond.code ({ cls := "java/lang/String", name := "<init>", desc := "([CIILjava/lang/Void;)V" } : Jvm.MethodName) jdk_42_method_149_code (6 : Nat) (Option.none : Option Jvm.ClassFile.FieldType)) := rfl
theorem w_15 : tables_1[15]? = some (Jvm.Cond.methodLink "java/lang/String" (1 : Nat) ({ cls := "java/lang/Object", name := "<init>", desc := "()V" } : Jvm.MethodName)) := rfl
theorem w_16 : tables_1[16]? = some (Jvm.Cond.instanceMethod ({ cls := "java/lang/Object", name := "<init>", desc := "()V" } : Jvm.MethodName)) := rfl
theorem w_17 : tables_1[17]? = some (Jvm.Cond.code ({ cls := "java/lang/Object", name := "<init>", desc := "()V" } : Jvm.MethodName) object_method_1_code (1 : Nat) (Option.none : Option Jvm.ClassFile.FieldType)) := rfl
theorem w_18 : tables_1[18]? = some (Jvm.Cond.fieldLink "java/lang/String" (38 : Nat) "java/lang/String" "COMPACT_STRINGS" "Z") := rfl
theorem w_19 : tables_1[19]? = some (Jvm.Cond.methodLink "java/lang/String" (177 : Nat) ({ cls := "java/lang/StringUTF16", name := "compress", desc := "([CII)[B" } : Jvm.MethodName)) := rfl
theorem w_20 : tables_1[20]? = some (Jvm.Cond.static ({ cls := "java/lang/StringUTF16", name := "compress", desc := "([CII)[B" } : Jvm.MethodName)) := rfl
theorem w_21 : tables_1[21]? = some (Jvm.Cond.initialized "java/lang/StringUTF16") := rfl
theorem w_22 : tables_1[22]? = some (Jvm.Cond.code ({ cls := "java/lang/StringUTF16", name := "compress", desc := "([CII)[B" } : Jvm.MethodName) jdk_52_method_16_code (6 : Nat) (Option.some (Jvm.ClassFile.FieldType.array Jvm.ClassFile.FieldType.byte))) := rfl
theorem w_23 : tables_1[23]? = some (Jvm.Cond.arrayClass Jvm.ClassFile.FieldType.byte) := rfl
theorem w_24 : tables_1[24]? = some (Jvm.Cond.methodLink "java/lang/StringUTF16" (115 : Nat) ({ cls := "java/lang/StringUTF16", name := "compress", desc := "([CI[BII)I" } : Jvm.MethodName)) := rfl
theorem w_25 : tables_1[25]? = some (Jvm.Cond.static ({ cls := "java/lang/StringUTF16", name := "compress", desc := "([CI[BII)I" } : Jvm.MethodName)) := rfl
theorem w_26 : tables_1[26]? = some (Jvm.Cond.code ({ cls := "java/lang/StringUTF16", name := "compress", desc := "([CI[BII)I" } : Jvm.MethodName) jdk_52_method_21_code (7 : Nat) (Option.some Jvm.ClassFile.FieldType.int)) := rfl
theorem w_27 : tables_1[27]? = some (Jvm.Cond.methodLink "java/lang/String" (47 : Nat) ({ cls := "java/lang/StringUTF16", name := "coderFromArrayLen", desc := "([BI)B" } : Jvm.MethodName)) := rfl
theorem w_28 : tables_1[28]? = some (Jvm.Cond.static ({ cls := "java/lang/StringUTF16", name := "coderFromArrayLen", desc := "([BI)B" } : Jvm.MethodName)) := rfl
theorem w_29 : tables_1[29]? = some (Jvm.Cond.code ({ cls := "java/lang/StringUTF16", name := "coderFromArrayLen", desc := "([BI)B" } : Jvm.MethodName) jdk_52_method_15_code (2 : Nat) (Option.some Jvm.ClassFile.FieldType.byte)) := rfl
theorem w_30 : tables_1[30]? = some (Jvm.Cond.fieldLink "java/lang/String" (15 : Nat) "java/lang/String" "coder" "B") := rfl
theorem w_31 : tables_1[31]? = some (Jvm.Cond.laysFinal "java/lang/String" "java/lang/String" "coder" "B") := rfl
theorem w_32 : tables_1[32]? = some (Jvm.Cond.fieldLink "java/lang/String" (9 : Nat) "java/lang/String" "value" "[B") := rfl
theorem w_33 : tables_1[33]? = some (Jvm.Cond.laysFinal "java/lang/String" "java/lang/String" "value" "[B") := rfl
theorem w_34 : tables_1[34]? = some (Jvm.Cond.methodLink "com/example/despatch/despatch/messaging/MailboxQueryOfPinLaw" (22 : Nat) ({ cls := "com/example/despatch/despatch/messaging/MailboxQuery", name := "of", desc := "(Ljava/lang/String;)Lcom/example/despatch/despatch/messaging/MailboxQuery;" } : Jvm.MethodName)) := rfl
theorem w_35 : tables_1[35]? = some (Jvm.Cond.static ({ cls := "com/example/despatch/despatch/messaging/MailboxQuery", name := "of", desc := "(Ljava/lang/String;)Lcom/example/despatch/despatch/messaging/MailboxQuery;" } : Jvm.MethodName)) := rfl
theorem w_36 : tables_1[36]? = some (Jvm.Cond.initialized "com/example/despatch/despatch/messaging/MailboxQuery") := rfl
theorem w_37 : tables_1[37]? = some (Jvm.Cond.code ({ cls := "com/example/despatch/despatch/messaging/MailboxQuery", name := "of", desc := "(Ljava/lang/String;)Lcom/example/despatch/despatch/messaging/MailboxQuery;" } : Jvm.MethodName) prog_16_method_2_code (1 : Nat) (Option.some (Jvm.ClassFile.FieldType.object "com/example/despatch/despatch/messaging/MailboxQuery"))) := rfl
theorem w_38 : tables_1[38]? = some (Jvm.Cond.classLink "com/example/despatch/despatch/messaging/MailboxQuery" (24 : Nat) "com/example/despatch/despatch/messaging/MailboxQuery") := rfl
theorem w_39 : tables_1[39]? = some (Jvm.Cond.instantiable "com/example/despatch/despatch/messaging/MailboxQuery" (6 : Nat)) := rfl
theorem w_40 : tables_1[40]? = some (Jvm.Cond.fieldLink "com/example/despatch/despatch/messaging/MailboxQuery" (53 : Nat) "java/time/Instant" "MIN" "Ljava/time/Instant;") := rfl
theorem w_41 : tables_1[41]? = some (Jvm.Cond.initialized "java/time/Instant") := rfl
theorem w_42 : tables_1[42]? = some (Jvm.Cond.fieldLink "com/example/despatch/despatch/messaging/MailboxQuery" (58 : Nat) "java/time/Instant" "MAX" "Ljava/time/Instant;") := rfl
theorem w_43 : tables_1[43]? = some (Jvm.Cond.lambdaSite ({ cls := "com/example/despatch/despatch/messaging/MailboxQuery", name := "of", desc := "(Ljava/lang/String;)Lcom/example/despatch/despatch/messaging/MailboxQuery;" } : Jvm.MethodName) (11 : Nat) (61 : Nat) (Jvm.Lambda.Shape.mk "java/util/function/Predicate" "test" (Jvm.ClassFile.MethodDescriptor.mk ([(Jvm.ClassFile.FieldType.object "java/lang/Object")] : List Jvm.ClassFile.FieldType) (Option.some Jvm.ClassFile.FieldType.boolean)) ([] : List Jvm.ClassFile.FieldType) (6 : Nat) "com/example/despatch/despatch/messaging/MailboxQuery" "lambda$of$0" (Jvm.ClassFile.MethodDescriptor.mk ([(Jvm.ClassFile.FieldType.object "java/lang/String")] : List Jvm.ClassFile.FieldType) (Option.some Jvm.ClassFile.FieldType.boolean)) false (Jvm.ClassFile.MethodDescriptor.mk ([(Jvm.ClassFile.FieldType.object "java/lang/String")] : List Jvm.ClassFile.FieldType) (Option.some Jvm.ClassFile.FieldType.boolean)))) := rfl
theorem w_46 : tables_1[46]? = some (Jvm.Cond.methodLink "com/example/despatch/despatch/messaging/MailboxQuery" (65 : Nat) ({ cls := "com/example/despatch/despatch/messaging/MailboxQuery", name := "<init>", desc := "(Ljava/lang/String;Ljava/time/Instant;Ljava/time/Instant;Ljava/util/function/Predicate;II)V" } : Jvm.MethodName)) := rfl
theorem w_47 : tables_1[47]? = some (Jvm.Cond.instanceMethod ({ cls := "com/example/despatch/despatch/messaging/MailboxQuery", name := "<init>", desc := "(Ljava/lang/String;Ljava/time/Instant;Ljava/time/Instant;Ljava/util/function/Predicate;II)V" } : Jvm.MethodName)) := rfl
theorem w_48 : tables_1[48]? = some (Jvm.Cond.code ({ cls := "com/example/despatch/despatch/messaging/MailboxQuery", name := "<init>", desc := "(Ljava/lang/String;Ljava/time/Instant;Ljava/time/Instant;Ljava/util/function/Predicate;II)V" } : Jvm.MethodName) prog_16_method_1_code (7 : Nat) (Option.none : Option Jvm.ClassFile.FieldType)) := rfl
theorem w_49 : tables_1[49]? = some (Jvm.Cond.methodLink "com/example/despatch/despatch/messaging/MailboxQuery" (1 : Nat) ({ cls := "java/lang/Record", name := "<init>", desc := "()V" } : Jvm.MethodName)) := rfl
theorem w_50 : tables_1[50]? = some (Jvm.Cond.instanceMethod ({ cls := "java/lang/Record", name := "<init>", desc := "()V" } : Jvm.MethodName)) := rfl
theorem w_52 : tables_1[52]? = some (Jvm.Cond.initialized "java/lang/Record") := rfl
theorem w_53 : tables_1[53]? = some (Jvm.Cond.code ({ cls := "java/lang/Record", name := "<init>", desc := "()V" } : Jvm.MethodName) jdk_30_method_1_code (1 : Nat) (Option.none : Option Jvm.ClassFile.FieldType)) := rfl
theorem w_54 : tables_1[54]? = some (Jvm.Cond.methodLink "java/lang/Record" (1 : Nat) ({ cls := "java/lang/Object", name := "<init>", desc := "()V" } : Jvm.MethodName)) := rfl
theorem w_55 : tables_1[55]? = some (Jvm.Cond.stringLink "com/example/despatch/despatch/messaging/MailboxQuery" (7 : Nat) "destination") := rfl
theorem w_56 : tables_1[56]? = some (Jvm.Cond.soleField "java/lang/String" "value") := rfl
theorem w_57 : tables_1[57]? = some (Jvm.Cond.soleField "java/lang/String" "coder") := rfl
theorem w_58 : tables_1[58]? = some (Jvm.Cond.methodLink "com/example/despatch/despatch/messaging/MailboxQuery" (9 : Nat) ({ cls := "java/util/Objects", name := "requireNonNull", desc := "(Ljava/lang/Object;Ljava/lang/String;)Ljava/lang/Object;" } : Jvm.MethodName)) := rfl
theorem w_59 : tables_1[59]? = some (Jvm.Cond.static ({ cls := "java/util/Objects", name := "requireNonNull", desc := "(Ljava/lang/Object;Ljava/lang/String;)Ljava/lang/Object;" } : Jvm.MethodName)) := rfl
theorem w_60 : tables_1[60]? = some (Jvm.Cond.initialized "java/util/Objects") := rfl
theorem w_61 : tables_1[61]? = some (Jvm.Cond.code ({ cls := "java/util/Objects", name := "requireNonNull", desc := "(Ljava/lang/Object;Ljava/lang/String;)Ljava/lang/Object;" } : Jvm.MethodName) jdk_31_method_11_code (2 : Nat) (Option.some (Jvm.ClassFile.FieldType.object "java/lang/Object"))) := rfl
theorem w_62 : tables_1[62]? = some (Jvm.Cond.methodLink "com/example/despatch/despatch/messaging/MailboxQuery" (26 : Nat) ({ cls := "java/lang/Math", name := "min", desc := "(II)I" } : Jvm.MethodName)) := rfl
theorem w_63 : tables_1[63]? = some (Jvm.Cond.static ({ cls := "java/lang/Math", name := "min", desc := "(II)I" } : Jvm.MethodName)) := rfl
theorem w_64 : tables_1[64]? = some (Jvm.Cond.initialized "java/lang/Math") := rfl
theorem w_65 : tables_1[65]? = some (Jvm.Cond.code ({ cls := "java/lang/Math", name := "min", desc := "(II)I" } : Jvm.MethodName) jdk_29_method_69_code (2 : Nat) (Option.some Jvm.ClassFile.FieldType.int)) := rfl
theorem w_66 : tables_1[66]? = some (Jvm.Cond.fieldLink "com/example/despatch/despatch/messaging/MailboxQuery" (32 : Nat) "com/example/despatch/despatch/messaging/MailboxQuery" "destination" "Ljava/lang/String;") := rfl
theorem w_67 : tables_1[67]? = some (Jvm.Cond.laysFinal "com/example/despatch/despatch/messaging/MailboxQuery" "com/example/despatch/despatch/messaging/MailboxQuery" "destination" "Ljava/lang/String;") := rfl
theorem w_68 : tables_1[68]? = some (Jvm.Cond.fieldLink "com/example/despatch/despatch/messaging/MailboxQuery" (35 : Nat) "com/example/despatch/despatch/messaging/MailboxQuery" "from" "Ljava/time/Instant;") := rfl
theorem w_69 : tables_1[69]? = some (Jvm.Cond.laysFinal "com/example/despatch/despatch/messaging/MailboxQuery" "com/example/despatch/despatch/messaging/MailboxQuery" "from" "Ljava/time/Instant;") := rfl
theorem w_70 : tables_1[70]? = some (Jvm.Cond.fieldLink "com/example/despatch/despatch/messaging/MailboxQuery" (39 : Nat) "com/example/despatch/despatch/messaging/MailboxQuery" "before" "Ljava/time/Instant;") := rfl
theorem w_71 : tables_1[71]? = some (Jvm.Cond.laysFinal "com/example/despatch/despatch/messaging/MailboxQuery" "com/example/despatch/despatch/messaging/MailboxQuery" "before" "Ljava/time/Instant;") := rfl
theorem w_72 : tables_1[72]? = some (Jvm.Cond.fieldLink "com/example/despatch/despatch/messaging/MailboxQuery" (42 : Nat) "com/example/despatch/despatch/messaging/MailboxQuery" "responseTo" "Ljava/util/function/Predicate;") := rfl
theorem w_73 : tables_1[73]? = some (Jvm.Cond.laysFinal "com/example/despatch/despatch/messaging/MailboxQuery" "com/example/despatch/despatch/messaging/MailboxQuery" "responseTo" "Ljava/util/function/Predicate;") := rfl
theorem w_74 : tables_1[74]? = some (Jvm.Cond.fieldLink "com/example/despatch/despatch/messaging/MailboxQuery" (46 : Nat) "com/example/despatch/despatch/messaging/MailboxQuery" "offset" "I") := rfl
theorem w_75 : tables_1[75]? = some (Jvm.Cond.laysFinal "com/example/despatch/despatch/messaging/MailboxQuery" "com/example/despatch/despatch/messaging/MailboxQuery" "offset" "I") := rfl
theorem w_76 : tables_1[76]? = some (Jvm.Cond.fieldLink "com/example/despatch/despatch/messaging/MailboxQuery" (50 : Nat) "com/example/despatch/despatch/messaging/MailboxQuery" "count" "I") := rfl
theorem w_77 : tables_1[77]? = some (Jvm.Cond.laysFinal "com/example/despatch/despatch/messaging/MailboxQuery" "com/example/despatch/despatch/messaging/MailboxQuery" "count" "I") := rfl
theorem w_78 : tables_1[78]? = some (Jvm.Cond.methodLink "com/example/despatch/despatch/messaging/MailboxQueryOfPinLaw" (28 : Nat) ({ cls := "com/example/despatch/despatch/messaging/MailboxQuery", name := "destination", desc := "()Ljava/lang/String;" } : Jvm.MethodName)) := rfl
theorem w_79 : tables_1[79]? = some (Jvm.Cond.declares ({ cls := "com/example/despatch/despatch/messaging/MailboxQuery", name := "destination", desc := "()Ljava/lang/String;" } : Jvm.MethodName)) := rfl
theorem w_80 : tables_1[80]? = some (Jvm.Cond.instanceMethod ({ cls := "com/example/despatch/despatch/messaging/MailboxQuery", name := "destination", desc := "()Ljava/lang/String;" } : Jvm.MethodName)) := rfl
theorem w_81 : tables_1[81]? = some (Jvm.Cond.selects "com/example/despatch/despatch/messaging/MailboxQuery" ({ cls := "com/example/despatch/despatch/messaging/MailboxQuery", name := "destination", desc := "()Ljava/lang/String;" } : Jvm.MethodName) ({ cls := "com/example/despatch/despatch/messaging/MailboxQuery", name := "destination", desc := "()Ljava/lang/String;" } : Jvm.MethodName)) := rfl
theorem w_82 : tables_1[82]? = some (Jvm.Cond.code ({ cls := "com/example/despatch/despatch/messaging/MailboxQuery", name := "destination", desc := "()Ljava/lang/String;" } : Jvm.MethodName) prog_16_method_12_code (1 : Nat) (Option.some (Jvm.ClassFile.FieldType.object "java/lang/String"))) := rfl
theorem w_83 : tables_1[83]? = some (Jvm.Cond.methodLink "com/example/despatch/despatch/messaging/MailboxQueryOfPinLaw" (32 : Nat) ({ cls := "java/lang/String", name := "equals", desc := "(Ljava/lang/Object;)Z" } : Jvm.MethodName)) := rfl
theorem w_84 : tables_1[84]? = some (Jvm.Cond.declares ({ cls := "java/lang/String", name := "equals", desc := "(Ljava/lang/Object;)Z" } : Jvm.MethodName)) := rfl
theorem w_85 : tables_1[85]? = some (Jvm.Cond.instanceMethod ({ cls := "java/lang/String", name := "equals", desc := "(Ljava/lang/Object;)Z" } : Jvm.MethodName)) := rfl
theorem w_86 : tables_1[86]? = some (Jvm.Cond.selects "java/lang/String" ({ cls := "java/lang/String", name := "equals", desc := "(Ljava/lang/Object;)Z" } : Jvm.MethodName) ({ cls := "java/lang/String", name := "equals", desc := "(Ljava/lang/Object;)Z" } : Jvm.MethodName)) := rfl
theorem w_87 : tables_1[87]? = some (Jvm.Cond.code ({ cls := "java/lang/String", name := "equals", desc := "(Ljava/lang/Object;)Z" } : Jvm.MethodName) jdk_42_method_66_code (3 : Nat) (Option.some Jvm.ClassFile.FieldType.boolean)) := rfl
theorem w_88 : tables_1[88]? = some (Jvm.Cond.methodLink "com/example/despatch/despatch/messaging/MailboxQueryOfPinLaw" (36 : Nat) ({ cls := "com/example/despatch/despatch/messaging/MailboxQuery", name := "offset", desc := "()I" } : Jvm.MethodName)) := rfl
theorem w_89 : tables_1[89]? = some (Jvm.Cond.declares ({ cls := "com/example/despatch/despatch/messaging/MailboxQuery", name := "offset", desc := "()I" } : Jvm.MethodName)) := rfl
theorem w_90 : tables_1[90]? = some (Jvm.Cond.instanceMethod ({ cls := "com/example/despatch/despatch/messaging/MailboxQuery", name := "offset", desc := "()I" } : Jvm.MethodName)) := rfl
theorem w_91 : tables_1[91]? = some (Jvm.Cond.selects "com/example/despatch/despatch/messaging/MailboxQuery" ({ cls := "com/example/despatch/despatch/messaging/MailboxQuery", name := "offset", desc := "()I" } : Jvm.MethodName) ({ cls := "com/example/despatch/despatch/messaging/MailboxQuery", name := "offset", desc := "()I" } : Jvm.MethodName)) := rfl
theorem w_92 : tables_1[92]? = some (Jvm.Cond.code ({ cls := "com/example/despatch/despatch/messaging/MailboxQuery", name := "offset", desc := "()I" } : Jvm.MethodName) prog_16_method_16_code (1 : Nat) (Option.some Jvm.ClassFile.FieldType.int)) := rfl
theorem w_93 : tables_1[93]? = some (Jvm.Cond.methodLink "com/example/despatch/despatch/messaging/MailboxQueryOfPinLaw" (40 : Nat) ({ cls := "com/example/despatch/despatch/messaging/MailboxQuery", name := "count", desc := "()I" } : Jvm.MethodName)) := rfl
theorem w_94 : tables_1[94]? = some (Jvm.Cond.declares ({ cls := "com/example/despatch/despatch/messaging/MailboxQuery", name := "count", desc := "()I" } : Jvm.MethodName)) := rfl
theorem w_95 : tables_1[95]? = some (Jvm.Cond.instanceMethod ({ cls := "com/example/despatch/despatch/messaging/MailboxQuery", name := "count", desc := "()I" } : Jvm.MethodName)) := rfl
theorem w_96 : tables_1[96]? = some (Jvm.Cond.selects "com/example/despatch/despatch/messaging/MailboxQuery" ({ cls := "com/example/despatch/despatch/messaging/MailboxQuery", name := "count", desc := "()I" } : Jvm.MethodName) ({ cls := "com/example/despatch/despatch/messaging/MailboxQuery", name := "count", desc := "()I" } : Jvm.MethodName)) := rfl
theorem w_97 : tables_1[97]? = some (Jvm.Cond.code ({ cls := "com/example/despatch/despatch/messaging/MailboxQuery", name := "count", desc := "()I" } : Jvm.MethodName) prog_16_method_17_code (1 : Nat) (Option.some Jvm.ClassFile.FieldType.int)) := rfl
theorem w_98 : tables_1[98]? = some (Jvm.Cond.methodLink "com/example/despatch/despatch/messaging/MailboxQueryOfPinLaw" (43 : Nat) ({ cls := "com/example/despatch/despatch/messaging/MailboxQuery", name := "from", desc := "()Ljava/time/Instant;" } : Jvm.MethodName)) := rfl
theorem w_99 : tables_1[99]? = some (Jvm.Cond.declares ({ cls := "com/example/despatch/despatch/messaging/MailboxQuery", name := "from", desc := "()Ljava/time/Instant;" } : Jvm.MethodName)) := rfl
theorem w_100 : tables_1[100]? = some (Jvm.Cond.instanceMethod ({ cls := "com/example/despatch/despatch/messaging/MailboxQuery", name := "from", desc := "()Ljava/time/Instant;" } : Jvm.MethodName)) := rfl
theorem w_101 : tables_1[101]? = some (Jvm.Cond.selects "com/example/despatch/despatch/messaging/MailboxQuery" ({ cls := "com/example/despatch/despatch/messaging/MailboxQuery", name := "from", desc := "()Ljava/time/Instant;" } : Jvm.MethodName) ({ cls := "com/example/despatch/despatch/messaging/MailboxQuery", name := "from", desc := "()Ljava/time/Instant;" } : Jvm.MethodName)) := rfl
theorem w_102 : tables_1[102]? = some (Jvm.Cond.code ({ cls := "com/example/despatch/despatch/messaging/MailboxQuery", name := "from", desc := "()Ljava/time/Instant;" } : Jvm.MethodName) prog_16_method_13_code (1 : Nat) (Option.some (Jvm.ClassFile.FieldType.object "java/time/Instant"))) := rfl
theorem w_103 : tables_1[103]? = some (Jvm.Cond.methodLink "com/example/despatch/despatch/messaging/MailboxQueryOfPinLaw" (47 : Nat) ({ cls := "com/example/despatch/despatch/messaging/MailboxQuery", name := "before", desc := "()Ljava/time/Instant;" } : Jvm.MethodName)) := rfl
theorem w_104 : tables_1[104]? = some (Jvm.Cond.declares ({ cls := "com/example/despatch/despatch/messaging/MailboxQuery", name := "before", desc := "()Ljava/time/Instant;" } : Jvm.MethodName)) := rfl
theorem w_105 : tables_1[105]? = some (Jvm.Cond.instanceMethod ({ cls := "com/example/despatch/despatch/messaging/MailboxQuery", name := "before", desc := "()Ljava/time/Instant;" } : Jvm.MethodName)) := rfl
theorem w_106 : tables_1[106]? = some (Jvm.Cond.selects "com/example/despatch/despatch/messaging/MailboxQuery" ({ cls := "com/example/despatch/despatch/messaging/MailboxQuery", name := "before", desc := "()Ljava/time/Instant;" } : Jvm.MethodName) ({ cls := "com/example/despatch/despatch/messaging/MailboxQuery", name := "before", desc := "()Ljava/time/Instant;" } : Jvm.MethodName)) := rfl
theorem w_107 : tables_1[107]? = some (Jvm.Cond.code ({ cls := "com/example/despatch/despatch/messaging/MailboxQuery", name := "before", desc := "()Ljava/time/Instant;" } : Jvm.MethodName) prog_16_method_14_code (1 : Nat) (Option.some (Jvm.ClassFile.FieldType.object "java/time/Instant"))) := rfl
theorem w_108 : tables_1[108]? = some (Jvm.Cond.methodLink "com/example/despatch/despatch/messaging/MailboxQueryOfPinLaw" (50 : Nat) ({ cls := "com/example/despatch/despatch/messaging/MailboxQuery", name := "keptFrom", desc := "(Ljava/time/Instant;)Lcom/example/despatch/despatch/messaging/MailboxQuery;" } : Jvm.MethodName)) := rfl
theorem w_109 : tables_1[109]? = some (Jvm.Cond.declares ({ cls := "com/example/despatch/despatch/messaging/MailboxQuery", name := "keptFrom", desc := "(Ljava/time/Instant;)Lcom/example/despatch/despatch/messaging/MailboxQuery;" } : Jvm.MethodName)) := rfl
theorem w_110 : tables_1[110]? = some (Jvm.Cond.instanceMethod ({ cls := "com/example/despatch/despatch/messaging/MailboxQuery", name := "keptFrom", desc := "(Ljava/time/Instant;)Lcom/example/despatch/despatch/messaging/MailboxQuery;" } : Jvm.MethodName)) := rfl
theorem w_111 : tables_1[111]? = some (Jvm.Cond.selects "com/example/despatch/despatch/messaging/MailboxQuery" ({ cls := "com/example/despatch/despatch/messaging/MailboxQuery", name := "keptFrom", desc := "(Ljava/time/Instant;)Lcom/example/despatch/despatch/messaging/MailboxQuery;" } : Jvm.MethodName) ({ cls := "com/example/despatch/despatch/messaging/MailboxQuery", name := "keptFrom", desc := "(Ljava/time/Instant;)Lcom/example/despatch/despatch/messaging/MailboxQuery;" } : Jvm.MethodName)) := rfl
theorem w_112 : tables_1[112]? = some (Jvm.Cond.code ({ cls := "com/example/despatch/despatch/messaging/MailboxQuery", name := "keptFrom", desc := "(Ljava/time/Instant;)Lcom/example/despatch/despatch/messaging/MailboxQuery;" } : Jvm.MethodName) prog_16_method_3_code (3 : Nat) (Option.some (Jvm.ClassFile.FieldType.object "com/example/despatch/despatch/messaging/MailboxQuery"))) := rfl
theorem w_113 : tables_1[113]? = some (Jvm.Cond.methodLink "com/example/despatch/despatch/messaging/MailboxQuery" (68 : Nat) ({ cls := "java/time/Instant", name := "isAfter", desc := "(Ljava/time/Instant;)Z" } : Jvm.MethodName)) := rfl
theorem w_114 : tables_1[114]? = some (Jvm.Cond.declares ({ cls := "java/time/Instant", name := "isAfter", desc := "(Ljava/time/Instant;)Z" } : Jvm.MethodName)) := rfl
theorem w_115 : tables_1[115]? = some (Jvm.Cond.instanceMethod ({ cls := "java/time/Instant", name := "isAfter", desc := "(Ljava/time/Instant;)Z" } : Jvm.MethodName)) := rfl
theorem w_116 : tables_1[116]? = some (Jvm.Cond.selects "java/time/Instant" ({ cls := "java/time/Instant", name := "isAfter", desc := "(Ljava/time/Instant;)Z" } : Jvm.MethodName) ({ cls := "java/time/Instant", name := "isAfter", desc := "(Ljava/time/Instant;)Z" } : Jvm.MethodName)) := rfl
theorem w_117 : tables_1[117]? = some (Jvm.Cond.code ({ cls := "java/time/Instant", name := "isAfter", desc := "(Ljava/time/Instant;)Z" } : Jvm.MethodName) jdk_2320_method_42_code (2 : Nat) (Option.some Jvm.ClassFile.FieldType.boolean)) := rfl
theorem w_118 : tables_1[118]? = some (Jvm.Cond.methodLink "java/time/Instant" (371 : Nat) ({ cls := "java/time/Instant", name := "compareTo", desc := "(Ljava/time/Instant;)I" } : Jvm.MethodName)) := rfl
theorem w_119 : tables_1[119]? = some (Jvm.Cond.declares ({ cls := "java/time/Instant", name := "compareTo", desc := "(Ljava/time/Instant;)I" } : Jvm.MethodName)) := rfl
theorem w_120 : tables_1[120]? = some (Jvm.Cond.instanceMethod ({ cls := "java/time/Instant", name := "compareTo", desc := "(Ljava/time/Instant;)I" } : Jvm.MethodName)) := rfl
theorem w_121 : tables_1[121]? = some (Jvm.Cond.selects "java/time/Instant" ({ cls := "java/time/Instant", name := "compareTo", desc := "(Ljava/time/Instant;)I" } : Jvm.MethodName) ({ cls := "java/time/Instant", name := "compareTo", desc := "(Ljava/time/Instant;)I" } : Jvm.MethodName)) := rfl
theorem w_122 : tables_1[122]? = some (Jvm.Cond.code ({ cls := "java/time/Instant", name := "compareTo", desc := "(Ljava/time/Instant;)I" } : Jvm.MethodName) jdk_2320_method_41_code (3 : Nat) (Option.some Jvm.ClassFile.FieldType.int)) := rfl
theorem w_123 : tables_1[123]? = some (Jvm.Cond.fieldLink "java/time/Instant" (140 : Nat) "java/time/Instant" "seconds" "J") := rfl
theorem w_125 : tables_1[125]? = some (Jvm.Cond.methodLink "java/time/Instant" (367 : Nat) ({ cls := "java/lang/Long", name := "compare", desc := "(JJ)I" } : Jvm.MethodName)) := rfl
theorem w_126 : tables_1[126]? = some (Jvm.Cond.static ({ cls := "java/lang/Long", name := "compare", desc := "(JJ)I" } : Jvm.MethodName)) := rfl
theorem w_127 : tables_1[127]? = some (Jvm.Cond.initialized "java/lang/Long") := rfl
theorem w_128 : tables_1[128]? = some (Jvm.Cond.code ({ cls := "java/lang/Long", name := "compare", desc := "(JJ)I" } : Jvm.MethodName) jdk_35_method_42_code (4 : Nat) (Option.some Jvm.ClassFile.FieldType.int)) := rfl
theorem w_129 : tables_1[129]? = some (Jvm.Cond.methodLink "com/example/despatch/despatch/messaging/MailboxQueryOfPinLaw" (54 : Nat) ({ cls := "com/example/despatch/despatch/messaging/MailboxQuery", name := "keptBefore", desc := "(Ljava/time/Instant;)Lcom/example/despatch/despatch/messaging/MailboxQuery;" } : Jvm.MethodName)) := rfl
theorem w_130 : tables_1[130]? = some (Jvm.Cond.declares ({ cls := "com/example/despatch/despatch/messaging/MailboxQuery", name := "keptBefore", desc := "(Ljava/time/Instant;)Lcom/example/despatch/despatch/messaging/MailboxQuery;" } : Jvm.MethodName)) := rfl
theorem w_131 : tables_1[131]? = some (Jvm.Cond.instanceMethod ({ cls := "com/example/despatch/despatch/messaging/MailboxQuery", name := "keptBefore", desc := "(Ljava/time/Instant;)Lcom/example/despatch/despatch/messaging/MailboxQuery;" } : Jvm.MethodName)) := rfl
theorem w_132 : tables_1[132]? = some (Jvm.Cond.selects "com/example/despatch/despatch/messaging/MailboxQuery" ({ cls := "com/example/despatch/despatch/messaging/MailboxQuery", name := "keptBefore", desc := "(Ljava/time/Instant;)Lcom/example/despatch/despatch/messaging/MailboxQuery;" } : Jvm.MethodName) ({ cls := "com/example/despatch/despatch/messaging/MailboxQuery", name := "keptBefore", desc := "(Ljava/time/Instant;)Lcom/example/despatch/despatch/messaging/MailboxQuery;" } : Jvm.MethodName)) := rfl
theorem w_133 : tables_1[133]? = some (Jvm.Cond.code ({ cls := "com/example/despatch/despatch/messaging/MailboxQuery", name := "keptBefore", desc := "(Ljava/time/Instant;)Lcom/example/despatch/despatch/messaging/MailboxQuery;" } : Jvm.MethodName) prog_16_method_4_code (3 : Nat) (Option.some (Jvm.ClassFile.FieldType.object "com/example/despatch/despatch/messaging/MailboxQuery"))) := rfl
theorem w_134 : tables_1[134]? = some (Jvm.Cond.methodLink "com/example/despatch/despatch/messaging/MailboxQuery" (72 : Nat) ({ cls := "java/time/Instant", name := "isBefore", desc := "(Ljava/time/Instant;)Z" } : Jvm.MethodName)) := rfl
theorem w_135 : tables_1[135]? = some (Jvm.Cond.declares ({ cls := "java/time/Instant", name := "isBefore", desc := "(Ljava/time/Instant;)Z" } : Jvm.MethodName)) := rfl
theorem w_136 : tables_1[136]? = some (Jvm.Cond.instanceMethod ({ cls := "java/time/Instant", name := "isBefore", desc := "(Ljava/time/Instant;)Z" } : Jvm.MethodName)) := rfl
theorem w_137 : tables_1[137]? = some (Jvm.Cond.selects "java/time/Instant" ({ cls := "java/time/Instant", name := "isBefore", desc := "(Ljava/time/Instant;)Z" } : Jvm.MethodName) ({ cls := "java/time/Instant", name := "isBefore", desc := "(Ljava/time/Instant;)Z" } : Jvm.MethodName)) := rfl
theorem w_138 : tables_1[138]? = some (Jvm.Cond.code ({ cls := "java/time/Instant", name := "isBefore", desc := "(Ljava/time/Instant;)Z" } : Jvm.MethodName) jdk_2320_method_43_code (2 : Nat) (Option.some Jvm.ClassFile.FieldType.boolean)) := rfl
theorem w_139 : tables_1[139]? = some (Jvm.Cond.methodLink "com/example/despatch/despatch/messaging/MailboxQueryOfPinLaw" (12 : Nat) ({ cls := "java/lang/String", name := "valueOf", desc := "(C)Ljava/lang/String;" } : Jvm.MethodName)) := rfl
theorem w_140 : tables_1[140]? = some (Jvm.Cond.static ({ cls := "java/lang/String", name := "valueOf", desc := "(C)Ljava/lang/String;" } : Jvm.MethodName)) := rfl
theorem w_141 : tables_1[141]? = some (Jvm.Cond.code ({ cls := "java/lang/String", name := "valueOf", desc := "(C)Ljava/lang/String;" } : Jvm.MethodName) jdk_42_method_139_code (1 : Nat) (Option.some (Jvm.ClassFile.FieldType.object "java/lang/String"))) := rfl
theorem w_142 : tables_1[142]? = some (Jvm.Cond.methodLink "java/lang/String" (1015 : Nat) ({ cls := "java/lang/StringLatin1", name := "canEncode", desc := "(C)Z" } : Jvm.MethodName)) := rfl
theorem w_143 : tables_1[143]? = some (Jvm.Cond.static ({ cls := "java/lang/StringLatin1", name := "canEncode", desc := "(C)Z" } : Jvm.MethodName)) := rfl
theorem w_144 : tables_1[144]? = some (Jvm.Cond.initialized "java/lang/StringLatin1") := rfl
theorem w_145 : tables_1[145]? = some (Jvm.Cond.code ({ cls := "java/lang/StringLatin1", name := "canEncode", desc := "(C)Z" } : Jvm.MethodName) jdk_43_method_3_code (1 : Nat) (Option.some Jvm.ClassFile.FieldType.boolean)) := rfl
theorem w_146 : tables_1[146]? = some (Jvm.Cond.classLink "java/lang/String" (10 : Nat) "java/lang/String") := rfl
theorem w_147 : tables_1[147]? = some (Jvm.Cond.methodLink "java/lang/String" (1018 : Nat) ({ cls := "java/lang/StringLatin1", name := "toBytes", desc := "(C)[B" } : Jvm.MethodName)) := rfl
theorem w_148 : tables_1[148]? = some (Jvm.Cond.static ({ cls := "java/lang/StringLatin1", name := "toBytes", desc := "(C)[B" } : Jvm.MethodName)) := rfl
theorem w_149 : tables_1[149]? = some (Jvm.Cond.code ({ cls := "java/lang/StringLatin1", name := "toBytes", desc := "(C)[B" } : Jvm.MethodName) jdk_43_method_46_code (1 : Nat) (Option.some (Jvm.ClassFile.FieldType.array Jvm.ClassFile.FieldType.byte))) := rfl
theorem w_150 : tables_1[150]? = some (Jvm.Cond.methodLink "java/lang/String" (209 : Nat) ({ cls := "java/lang/String", name := "<init>", desc := "([BB)V" } : Jvm.MethodName)) := rfl
theorem w_151 : tables_1[151]? = some (Jvm.Cond.instanceMethod ({ cls := "java/lang/String", name := "<init>", desc := "([BB)V" } : Jvm.MethodName)) := rfl
theorem w_152 : tables_1[152]? = some (Jvm.Cond.code ({ cls := "java/lang/String", name := "<init>", desc := "([BB)V" } : Jvm.MethodName) jdk_42_method_151_code (3 : Nat) (Option.none : Option Jvm.ClassFile.FieldType)) := rfl
theorem w_153 : tables_1[153]? = some (Jvm.Cond.stringLink "java/lang/String" (7 : Nat) "") := rfl
theorem d_jdk_2320_41_0 : decode jdk_2320_method_41_code 0 = .ok (.aload_n 0, 1) := by decide +kernel
theorem d_jdk_2320_41_1 : decode jdk_2320_method_41_code 1 = .ok (.getfield 140, 3) := by decide +kernel
theorem d_jdk_2320_41_4 : decode jdk_2320_method_41_code 4 = .ok (.aload_n 1, 1) := by decide +kernel
theorem d_jdk_2320_41_5 : decode jdk_2320_method_41_code 5 = .ok (.getfield 140, 3) := by decide +kernel
theorem d_jdk_2320_41_8 : decode jdk_2320_method_41_code 8 = .ok (.invokestatic 367, 3) := by decide +kernel
theorem d_jdk_2320_41_11 : decode jdk_2320_method_41_code 11 = .ok (.istore_n 2, 1) := by decide +kernel
theorem d_jdk_2320_41_12 : decode jdk_2320_method_41_code 12 = .ok (.iload_n 2, 1) := by decide +kernel
theorem d_jdk_2320_41_13 : decode jdk_2320_method_41_code 13 = .ok (.ifCond .eq 5, 3) := by decide +kernel
theorem d_jdk_2320_41_16 : decode jdk_2320_method_41_code 16 = .ok (.iload_n 2, 1) := by decide +kernel
theorem d_jdk_2320_41_17 : decode jdk_2320_method_41_code 17 = .ok (.ireturn, 1) := by decide +kernel
theorem d_jdk_2320_42_0 : decode jdk_2320_method_42_code 0 = .ok (.aload_n 0, 1) := by decide +kernel
theorem d_jdk_2320_42_1 : decode jdk_2320_method_42_code 1 = .ok (.aload_n 1, 1) := by decide +kernel
theorem d_jdk_2320_42_2 : decode jdk_2320_method_42_code 2 = .ok (.invokevirtual 371, 3) := by decide +kernel
theorem d_jdk_2320_42_5 : decode jdk_2320_method_42_code 5 = .ok (.ifCond .le 7, 3) := by decide +kernel
theorem d_jdk_2320_42_12 : decode jdk_2320_method_42_code 12 = .ok (.iconst 0, 1) := by decide +kernel
theorem d_jdk_2320_42_13 : decode jdk_2320_method_42_code 13 = .ok (.ireturn, 1) := by decide +kernel
theorem d_jdk_2320_43_0 : decode jdk_2320_method_43_code 0 = .ok (.aload_n 0, 1) := by decide +kernel
theorem d_jdk_2320_43_1 : decode jdk_2320_method_43_code 1 = .ok (.aload_n 1, 1) := by decide +kernel
theorem d_jdk_2320_43_2 : decode jdk_2320_method_43_code 2 = .ok (.invokevirtual 371, 3) := by decide +kernel
theorem d_jdk_2320_43_5 : decode jdk_2320_method_43_code 5 = .ok (.ifCond .ge 7, 3) := by decide +kernel
theorem d_jdk_2320_43_12 : decode jdk_2320_method_43_code 12 = .ok (.iconst 0, 1) := by decide +kernel
theorem d_jdk_2320_43_13 : decode jdk_2320_method_43_code 13 = .ok (.ireturn, 1) := by decide +kernel
theorem d_jdk_29_69_0 : decode jdk_29_method_69_code 0 = .ok (.iload_n 0, 1) := by decide +kernel
theorem d_jdk_29_69_1 : decode jdk_29_method_69_code 1 = .ok (.iload_n 1, 1) := by decide +kernel
theorem d_jdk_29_69_2 : decode jdk_29_method_69_code 2 = .ok (.if_icmp .gt 7, 3) := by decide +kernel
theorem d_jdk_29_69_5 : decode jdk_29_method_69_code 5 = .ok (.iload_n 0, 1) := by decide +kernel
theorem d_jdk_29_69_6 : decode jdk_29_method_69_code 6 = .ok (.goto 4, 3) := by decide +kernel
theorem d_jdk_29_69_10 : decode jdk_29_method_69_code 10 = .ok (.ireturn, 1) := by decide +kernel
theorem d_jdk_30_1_0 : decode jdk_30_method_1_code 0 = .ok (.aload_n 0, 1) := by decide +kernel
theorem d_jdk_30_1_1 : decode jdk_30_method_1_code 1 = .ok (.invokespecial 1, 3) := by decide +kernel
theorem d_jdk_30_1_4 : decode jdk_30_method_1_code 4 = .ok (.return_, 1) := by decide +kernel
theorem d_jdk_31_11_0 : decode jdk_31_method_11_code 0 = .ok (.aload_n 0, 1) := by decide +kernel
theorem d_jdk_31_11_1 : decode jdk_31_method_11_code 1 = .ok (.ifnonnull 12, 3) := by decide +kernel
theorem d_jdk_31_11_13 : decode jdk_31_method_11_code 13 = .ok (.aload_n 0, 1) := by decide +kernel
theorem d_jdk_31_11_14 : decode jdk_31_method_11_code 14 = .ok (.areturn, 1) := by decide +kernel
theorem d_jdk_35_42_0 : decode jdk_35_method_42_code 0 = .ok (.lload_n 0, 1) := by decide +kernel
theorem d_jdk_35_42_1 : decode jdk_35_method_42_code 1 = .ok (.lload_n 2, 1) := by decide +kernel
theorem d_jdk_35_42_2 : decode jdk_35_method_42_code 2 = .ok (.lcmp, 1) := by decide +kernel
theorem d_jdk_35_42_3 : decode jdk_35_method_42_code 3 = .ok (.ifCond .ge 7, 3) := by decide +kernel
theorem d_jdk_35_42_6 : decode jdk_35_method_42_code 6 = .ok (.iconst (-1), 1) := by decide +kernel
theorem d_jdk_35_42_7 : decode jdk_35_method_42_code 7 = .ok (.goto 14, 3) := by decide +kernel
theorem d_jdk_35_42_10 : decode jdk_35_method_42_code 10 = .ok (.lload_n 0, 1) := by decide +kernel
theorem d_jdk_35_42_11 : decode jdk_35_method_42_code 11 = .ok (.lload_n 2, 1) := by decide +kernel
theorem d_jdk_35_42_12 : decode jdk_35_method_42_code 12 = .ok (.lcmp, 1) := by decide +kernel
theorem d_jdk_35_42_13 : decode jdk_35_method_42_code 13 = .ok (.ifCond .ne 7, 3) := by decide +kernel
theorem d_jdk_35_42_20 : decode jdk_35_method_42_code 20 = .ok (.iconst 1, 1) := by decide +kernel
theorem d_jdk_35_42_21 : decode jdk_35_method_42_code 21 = .ok (.ireturn, 1) := by decide +kernel
theorem d_jdk_42_139_0 : decode jdk_42_method_139_code 0 = .ok (.getstatic 38, 3) := by decide +kernel
theorem d_jdk_42_139_3 : decode jdk_42_method_139_code 3 = .ok (.ifCond .eq 23, 3) := by decide +kernel
theorem d_jdk_42_139_6 : decode jdk_42_method_139_code 6 = .ok (.iload_n 0, 1) := by decide +kernel
theorem d_jdk_42_139_7 : decode jdk_42_method_139_code 7 = .ok (.invokestatic 1015, 3) := by decide +kernel
theorem d_jdk_42_139_10 : decode jdk_42_method_139_code 10 = .ok (.ifCond .eq 16, 3) := by decide +kernel
theorem d_jdk_42_139_13 : decode jdk_42_method_139_code 13 = .ok (.new 10, 3) := by decide +kernel
theorem d_jdk_42_139_16 : decode jdk_42_method_139_code 16 = .ok (.dup, 1) := by decide +kernel
theorem d_jdk_42_139_17 : decode jdk_42_method_139_code 17 = .ok (.iload_n 0, 1) := by decide +kernel
theorem d_jdk_42_139_18 : decode jdk_42_method_139_code 18 = .ok (.invokestatic 1018, 3) := by decide +kernel
theorem d_jdk_42_139_21 : decode jdk_42_method_139_code 21 = .ok (.iconst 0, 1) := by decide +kernel
theorem d_jdk_42_139_22 : decode jdk_42_method_139_code 22 = .ok (.invokespecial 209, 3) := by decide +kernel
theorem d_jdk_42_139_25 : decode jdk_42_method_139_code 25 = .ok (.areturn, 1) := by decide +kernel
theorem d_jdk_42_149_0 : decode jdk_42_method_149_code 0 = .ok (.aload_n 0, 1) := by decide +kernel
theorem d_jdk_42_149_1 : decode jdk_42_method_149_code 1 = .ok (.invokespecial 1, 3) := by decide +kernel
theorem d_jdk_42_149_4 : decode jdk_42_method_149_code 4 = .ok (.iload_n 3, 1) := by decide +kernel
theorem d_jdk_42_149_5 : decode jdk_42_method_149_code 5 = .ok (.ifCond .ne 22, 3) := by decide +kernel
theorem d_jdk_42_149_8 : decode jdk_42_method_149_code 8 = .ok (.aload_n 0, 1) := by decide +kernel
theorem d_jdk_42_149_9 : decode jdk_42_method_149_code 9 = .ok (.ldc 7, 2) := by decide +kernel
theorem d_jdk_42_149_11 : decode jdk_42_method_149_code 11 = .ok (.getfield 9, 3) := by decide +kernel
theorem d_jdk_42_149_14 : decode jdk_42_method_149_code 14 = .ok (.putfield 9, 3) := by decide +kernel
theorem d_jdk_42_149_17 : decode jdk_42_method_149_code 17 = .ok (.aload_n 0, 1) := by decide +kernel
theorem d_jdk_42_149_18 : decode jdk_42_method_149_code 18 = .ok (.ldc 7, 2) := by decide +kernel
theorem d_jdk_42_149_20 : decode jdk_42_method_149_code 20 = .ok (.getfield 15, 3) := by decide +kernel
theorem d_jdk_42_149_23 : decode jdk_42_method_149_code 23 = .ok (.putfield 15, 3) := by decide +kernel
theorem d_jdk_42_149_26 : decode jdk_42_method_149_code 26 = .ok (.return_, 1) := by decide +kernel
theorem d_jdk_42_149_27 : decode jdk_42_method_149_code 27 = .ok (.getstatic 38, 3) := by decide +kernel
theorem d_jdk_42_149_30 : decode jdk_42_method_149_code 30 = .ok (.ifCond .eq 28, 3) := by decide +kernel
theorem d_jdk_42_149_33 : decode jdk_42_method_149_code 33 = .ok (.aload_n 1, 1) := by decide +kernel
theorem d_jdk_42_149_34 : decode jdk_42_method_149_code 34 = .ok (.iload_n 2, 1) := by decide +kernel
theorem d_jdk_42_149_35 : decode jdk_42_method_149_code 35 = .ok (.iload_n 3, 1) := by decide +kernel
theorem d_jdk_42_149_36 : decode jdk_42_method_149_code 36 = .ok (.invokestatic 177, 3) := by decide +kernel
theorem d_jdk_42_149_39 : decode jdk_42_method_149_code 39 = .ok (.astore 5, 2) := by decide +kernel
theorem d_jdk_42_149_41 : decode jdk_42_method_149_code 41 = .ok (.aload_n 0, 1) := by decide +kernel
theorem d_jdk_42_149_42 : decode jdk_42_method_149_code 42 = .ok (.aload 5, 2) := by decide +kernel
theorem d_jdk_42_149_44 : decode jdk_42_method_149_code 44 = .ok (.iload_n 3, 1) := by decide +kernel
theorem d_jdk_42_149_45 : decode jdk_42_method_149_code 45 = .ok (.invokestatic 47, 3) := by decide +kernel
theorem d_jdk_42_149_48 : decode jdk_42_method_149_code 48 = .ok (.putfield 15, 3) := by decide +kernel
theorem d_jdk_42_149_51 : decode jdk_42_method_149_code 51 = .ok (.aload_n 0, 1) := by decide +kernel
theorem d_jdk_42_149_52 : decode jdk_42_method_149_code 52 = .ok (.aload 5, 2) := by decide +kernel
theorem d_jdk_42_149_54 : decode jdk_42_method_149_code 54 = .ok (.putfield 9, 3) := by decide +kernel
theorem d_jdk_42_149_57 : decode jdk_42_method_149_code 57 = .ok (.return_, 1) := by decide +kernel
theorem d_jdk_42_151_0 : decode jdk_42_method_151_code 0 = .ok (.aload_n 0, 1) := by decide +kernel
theorem d_jdk_42_151_1 : decode jdk_42_method_151_code 1 = .ok (.invokespecial 1, 3) := by decide +kernel
theorem d_jdk_42_151_4 : decode jdk_42_method_151_code 4 = .ok (.aload_n 0, 1) := by decide +kernel
theorem d_jdk_42_151_5 : decode jdk_42_method_151_code 5 = .ok (.aload_n 1, 1) := by decide +kernel
theorem d_jdk_42_151_6 : decode jdk_42_method_151_code 6 = .ok (.putfield 9, 3) := by decide +kernel
theorem d_jdk_42_151_9 : decode jdk_42_method_151_code 9 = .ok (.aload_n 0, 1) := by decide +kernel
theorem d_jdk_42_151_10 : decode jdk_42_method_151_code 10 = .ok (.iload_n 2, 1) := by decide +kernel
theorem d_jdk_42_151_11 : decode jdk_42_method_151_code 11 = .ok (.putfield 15, 3) := by decide +kernel
theorem d_jdk_42_151_14 : decode jdk_42_method_151_code 14 = .ok (.return_, 1) := by decide +kernel
theorem d_jdk_42_3_0 : decode jdk_42_method_3_code 0 = .ok (.aload_n 0, 1) := by decide +kernel
theorem d_jdk_42_3_1 : decode jdk_42_method_3_code 1 = .ok (.aload_n 1, 1) := by decide +kernel
theorem d_jdk_42_3_2 : decode jdk_42_method_3_code 2 = .ok (.iconst 0, 1) := by decide +kernel
theorem d_jdk_42_3_3 : decode jdk_42_method_3_code 3 = .ok (.aload_n 1, 1) := by decide +kernel
theorem d_jdk_42_3_4 : decode jdk_42_method_3_code 4 = .ok (.arraylength, 1) := by decide +kernel
theorem d_jdk_42_3_5 : decode jdk_42_method_3_code 5 = .ok (.aconst_null, 1) := by decide +kernel
theorem d_jdk_42_3_6 : decode jdk_42_method_3_code 6 = .ok (.invokespecial 27, 3) := by decide +kernel
theorem d_jdk_42_3_9 : decode jdk_42_method_3_code 9 = .ok (.return_, 1) := by decide +kernel
theorem d_jdk_42_66_0 : decode jdk_42_method_66_code 0 = .ok (.aload_n 0, 1) := by decide +kernel
theorem d_jdk_42_66_1 : decode jdk_42_method_66_code 1 = .ok (.aload_n 1, 1) := by decide +kernel
theorem d_jdk_42_66_2 : decode jdk_42_method_66_code 2 = .ok (.if_acmp .ne 5, 3) := by decide +kernel
theorem d_jdk_42_66_5 : decode jdk_42_method_66_code 5 = .ok (.iconst 1, 1) := by decide +kernel
theorem d_jdk_42_66_6 : decode jdk_42_method_66_code 6 = .ok (.ireturn, 1) := by decide +kernel
theorem d_jdk_43_3_0 : decode jdk_43_method_3_code 0 = .ok (.iload_n 0, 1) := by decide +kernel
theorem d_jdk_43_3_1 : decode jdk_43_method_3_code 1 = .ok (.sipush 255, 3) := by decide +kernel
theorem d_jdk_43_3_4 : decode jdk_43_method_3_code 4 = .ok (.if_icmp .gt 7, 3) := by decide +kernel
theorem d_jdk_43_3_7 : decode jdk_43_method_3_code 7 = .ok (.iconst 1, 1) := by decide +kernel
theorem d_jdk_43_3_8 : decode jdk_43_method_3_code 8 = .ok (.goto 4, 3) := by decide +kernel
theorem d_jdk_43_3_12 : decode jdk_43_method_3_code 12 = .ok (.ireturn, 1) := by decide +kernel
theorem d_jdk_43_46_0 : decode jdk_43_method_46_code 0 = .ok (.iconst 1, 1) := by decide +kernel
theorem d_jdk_43_46_1 : decode jdk_43_method_46_code 1 = .ok (.newarray .byte, 2) := by decide +kernel
theorem d_jdk_43_46_3 : decode jdk_43_method_46_code 3 = .ok (.dup, 1) := by decide +kernel
theorem d_jdk_43_46_4 : decode jdk_43_method_46_code 4 = .ok (.iconst 0, 1) := by decide +kernel
theorem d_jdk_43_46_5 : decode jdk_43_method_46_code 5 = .ok (.iload_n 0, 1) := by decide +kernel
theorem d_jdk_43_46_6 : decode jdk_43_method_46_code 6 = .ok (.i2b, 1) := by decide +kernel
theorem d_jdk_43_46_7 : decode jdk_43_method_46_code 7 = .ok (.bastore, 1) := by decide +kernel
theorem d_jdk_43_46_8 : decode jdk_43_method_46_code 8 = .ok (.areturn, 1) := by decide +kernel
theorem d_jdk_52_15_0 : decode jdk_52_method_15_code 0 = .ok (.iload_n 1, 1) := by decide +kernel
theorem d_jdk_52_15_1 : decode jdk_52_method_15_code 1 = .ok (.aload_n 0, 1) := by decide +kernel
theorem d_jdk_52_15_2 : decode jdk_52_method_15_code 2 = .ok (.arraylength, 1) := by decide +kernel
theorem d_jdk_52_15_3 : decode jdk_52_method_15_code 3 = .ok (.isub, 1) := by decide +kernel
theorem d_jdk_52_15_4 : decode jdk_52_method_15_code 4 = .ok (.bipush 31, 2) := by decide +kernel
theorem d_jdk_52_15_6 : decode jdk_52_method_15_code 6 = .ok (.iushr, 1) := by decide +kernel
theorem d_jdk_52_15_7 : decode jdk_52_method_15_code 7 = .ok (.i2b, 1) := by decide +kernel
theorem d_jdk_52_15_8 : decode jdk_52_method_15_code 8 = .ok (.ireturn, 1) := by decide +kernel
theorem d_jdk_52_16_0 : decode jdk_52_method_16_code 0 = .ok (.iload_n 2, 1) := by decide +kernel
theorem d_jdk_52_16_1 : decode jdk_52_method_16_code 1 = .ok (.newarray .byte, 2) := by decide +kernel
theorem d_jdk_52_16_3 : decode jdk_52_method_16_code 3 = .ok (.astore_n 3, 1) := by decide +kernel
theorem d_jdk_52_16_4 : decode jdk_52_method_16_code 4 = .ok (.aload_n 0, 1) := by decide +kernel
theorem d_jdk_52_16_5 : decode jdk_52_method_16_code 5 = .ok (.iload_n 1, 1) := by decide +kernel
theorem d_jdk_52_16_6 : decode jdk_52_method_16_code 6 = .ok (.aload_n 3, 1) := by decide +kernel
theorem d_jdk_52_16_7 : decode jdk_52_method_16_code 7 = .ok (.iconst 0, 1) := by decide +kernel
theorem d_jdk_52_16_8 : decode jdk_52_method_16_code 8 = .ok (.iload_n 2, 1) := by decide +kernel
theorem d_jdk_52_16_9 : decode jdk_52_method_16_code 9 = .ok (.invokestatic 115, 3) := by decide +kernel
theorem d_jdk_52_16_12 : decode jdk_52_method_16_code 12 = .ok (.istore 4, 2) := by decide +kernel
theorem d_jdk_52_16_14 : decode jdk_52_method_16_code 14 = .ok (.iload 4, 2) := by decide +kernel
theorem d_jdk_52_16_16 : decode jdk_52_method_16_code 16 = .ok (.iload_n 2, 1) := by decide +kernel
theorem d_jdk_52_16_17 : decode jdk_52_method_16_code 17 = .ok (.if_icmp .eq 40, 3) := by decide +kernel
theorem d_jdk_52_16_57 : decode jdk_52_method_16_code 57 = .ok (.aload_n 3, 1) := by decide +kernel
theorem d_jdk_52_16_58 : decode jdk_52_method_16_code 58 = .ok (.areturn, 1) := by decide +kernel
theorem d_jdk_52_21_0 : decode jdk_52_method_21_code 0 = .ok (.iconst 0, 1) := by decide +kernel
theorem d_jdk_52_21_1 : decode jdk_52_method_21_code 1 = .ok (.istore 5, 2) := by decide +kernel
theorem d_jdk_52_21_3 : decode jdk_52_method_21_code 3 = .ok (.iload 5, 2) := by decide +kernel
theorem d_jdk_52_21_5 : decode jdk_52_method_21_code 5 = .ok (.iload 4, 2) := by decide +kernel
theorem d_jdk_52_21_7 : decode jdk_52_method_21_code 7 = .ok (.if_icmp .ge 37, 3) := by decide +kernel
theorem d_jdk_52_21_10 : decode jdk_52_method_21_code 10 = .ok (.aload_n 0, 1) := by decide +kernel
theorem d_jdk_52_21_11 : decode jdk_52_method_21_code 11 = .ok (.iload_n 1, 1) := by decide +kernel
theorem d_jdk_52_21_12 : decode jdk_52_method_21_code 12 = .ok (.caload, 1) := by decide +kernel
theorem d_jdk_52_21_13 : decode jdk_52_method_21_code 13 = .ok (.istore 6, 2) := by decide +kernel
theorem d_jdk_52_21_15 : decode jdk_52_method_21_code 15 = .ok (.iload 6, 2) := by decide +kernel
theorem d_jdk_52_21_17 : decode jdk_52_method_21_code 17 = .ok (.sipush 255, 3) := by decide +kernel
theorem d_jdk_52_21_20 : decode jdk_52_method_21_code 20 = .ok (.if_icmp .le 6, 3) := by decide +kernel
theorem d_jdk_52_21_26 : decode jdk_52_method_21_code 26 = .ok (.aload_n 2, 1) := by decide +kernel
theorem d_jdk_52_21_27 : decode jdk_52_method_21_code 27 = .ok (.iload_n 3, 1) := by decide +kernel
theorem d_jdk_52_21_28 : decode jdk_52_method_21_code 28 = .ok (.iload 6, 2) := by decide +kernel
theorem d_jdk_52_21_30 : decode jdk_52_method_21_code 30 = .ok (.i2b, 1) := by decide +kernel
theorem d_jdk_52_21_31 : decode jdk_52_method_21_code 31 = .ok (.bastore, 1) := by decide +kernel
theorem d_jdk_52_21_32 : decode jdk_52_method_21_code 32 = .ok (.iinc 1 1, 3) := by decide +kernel
theorem d_jdk_52_21_35 : decode jdk_52_method_21_code 35 = .ok (.iinc 3 1, 3) := by decide +kernel
theorem d_jdk_52_21_38 : decode jdk_52_method_21_code 38 = .ok (.iinc 5 1, 3) := by decide +kernel
theorem d_jdk_52_21_41 : decode jdk_52_method_21_code 41 = .ok (.goto (-38), 3) := by decide +kernel
theorem d_jdk_52_21_44 : decode jdk_52_method_21_code 44 = .ok (.iload 4, 2) := by decide +kernel
theorem d_jdk_52_21_46 : decode jdk_52_method_21_code 46 = .ok (.ireturn, 1) := by decide +kernel
theorem d_method_2_0 : decode method_2_code 0 = .ok (.iload_n 0, 1) := by decide +kernel
theorem d_method_2_1 : decode method_2_code 1 = .ok (.sipush 255, 3) := by decide +kernel
theorem d_method_2_4 : decode method_2_code 4 = .ok (.iand, 1) := by decide +kernel
theorem d_method_2_5 : decode method_2_code 5 = .ok (.i2c, 1) := by decide +kernel
theorem d_method_2_6 : decode method_2_code 6 = .ok (.istore_n 2, 1) := by decide +kernel
theorem d_method_2_7 : decode method_2_code 7 = .ok (.iload_n 0, 1) := by decide +kernel
theorem d_method_2_8 : decode method_2_code 8 = .ok (.bipush 8, 2) := by decide +kernel
theorem d_method_2_10 : decode method_2_code 10 = .ok (.iushr, 1) := by decide +kernel
theorem d_method_2_11 : decode method_2_code 11 = .ok (.sipush 255, 3) := by decide +kernel
theorem d_method_2_14 : decode method_2_code 14 = .ok (.iand, 1) := by decide +kernel
theorem d_method_2_15 : decode method_2_code 15 = .ok (.i2c, 1) := by decide +kernel
theorem d_method_2_16 : decode method_2_code 16 = .ok (.istore_n 3, 1) := by decide +kernel
theorem d_method_2_17 : decode method_2_code 17 = .ok (.iload_n 0, 1) := by decide +kernel
theorem d_method_2_18 : decode method_2_code 18 = .ok (.bipush 16, 2) := by decide +kernel
theorem d_method_2_20 : decode method_2_code 20 = .ok (.iushr, 1) := by decide +kernel
theorem d_method_2_21 : decode method_2_code 21 = .ok (.sipush 255, 3) := by decide +kernel
theorem d_method_2_24 : decode method_2_code 24 = .ok (.iand, 1) := by decide +kernel
theorem d_method_2_25 : decode method_2_code 25 = .ok (.i2c, 1) := by decide +kernel
theorem d_method_2_26 : decode method_2_code 26 = .ok (.istore 4, 2) := by decide +kernel
theorem d_method_2_28 : decode method_2_code 28 = .ok (.iload_n 1, 1) := by decide +kernel
theorem d_method_2_29 : decode method_2_code 29 = .ok (.iconst 3, 1) := by decide +kernel
theorem d_method_2_30 : decode method_2_code 30 = .ok (.iand, 1) := by decide +kernel
theorem d_method_2_31 : decode method_2_code 31 = .ok (.istore 5, 2) := by decide +kernel
theorem d_method_2_33 : decode method_2_code 33 = .ok (.iload 5, 2) := by decide +kernel
theorem d_method_2_35 : decode method_2_code 35 = .ok (.ifCond .ne 14, 3) := by decide +kernel
theorem d_method_2_38 : decode method_2_code 38 = .ok (.new 7, 3) := by decide +kernel
theorem d_method_2_41 : decode method_2_code 41 = .ok (.dup, 1) := by decide +kernel
theorem d_method_2_42 : decode method_2_code 42 = .ok (.iconst 0, 1) := by decide +kernel
theorem d_method_2_43 : decode method_2_code 43 = .ok (.newarray .char, 2) := by decide +kernel
theorem d_method_2_45 : decode method_2_code 45 = .ok (.invokespecial 9, 3) := by decide +kernel
theorem d_method_2_48 : decode method_2_code 48 = .ok (.areturn, 1) := by decide +kernel
theorem d_method_2_49 : decode method_2_code 49 = .ok (.iload 5, 2) := by decide +kernel
theorem d_method_2_51 : decode method_2_code 51 = .ok (.iconst 1, 1) := by decide +kernel
theorem d_method_2_52 : decode method_2_code 52 = .ok (.if_icmp .ne 8, 3) := by decide +kernel
theorem d_method_2_55 : decode method_2_code 55 = .ok (.iload_n 2, 1) := by decide +kernel
theorem d_method_2_56 : decode method_2_code 56 = .ok (.invokestatic 12, 3) := by decide +kernel
theorem d_method_2_59 : decode method_2_code 59 = .ok (.areturn, 1) := by decide +kernel
theorem d_method_2_60 : decode method_2_code 60 = .ok (.iload 5, 2) := by decide +kernel
theorem d_method_2_62 : decode method_2_code 62 = .ok (.iconst 2, 1) := by decide +kernel
theorem d_method_2_63 : decode method_2_code 63 = .ok (.if_icmp .ne 22, 3) := by decide +kernel
theorem d_method_2_66 : decode method_2_code 66 = .ok (.new 7, 3) := by decide +kernel
theorem d_method_2_69 : decode method_2_code 69 = .ok (.dup, 1) := by decide +kernel
theorem d_method_2_70 : decode method_2_code 70 = .ok (.iconst 2, 1) := by decide +kernel
theorem d_method_2_71 : decode method_2_code 71 = .ok (.newarray .char, 2) := by decide +kernel
theorem d_method_2_73 : decode method_2_code 73 = .ok (.dup, 1) := by decide +kernel
theorem d_method_2_74 : decode method_2_code 74 = .ok (.iconst 0, 1) := by decide +kernel
theorem d_method_2_75 : decode method_2_code 75 = .ok (.iload_n 2, 1) := by decide +kernel
theorem d_method_2_76 : decode method_2_code 76 = .ok (.castore, 1) := by decide +kernel
theorem d_method_2_77 : decode method_2_code 77 = .ok (.dup, 1) := by decide +kernel
theorem d_method_2_78 : decode method_2_code 78 = .ok (.iconst 1, 1) := by decide +kernel
theorem d_method_2_79 : decode method_2_code 79 = .ok (.iload_n 3, 1) := by decide +kernel
theorem d_method_2_80 : decode method_2_code 80 = .ok (.castore, 1) := by decide +kernel
theorem d_method_2_81 : decode method_2_code 81 = .ok (.invokespecial 9, 3) := by decide +kernel
theorem d_method_2_84 : decode method_2_code 84 = .ok (.areturn, 1) := by decide +kernel
theorem d_method_2_85 : decode method_2_code 85 = .ok (.new 7, 3) := by decide +kernel
theorem d_method_2_88 : decode method_2_code 88 = .ok (.dup, 1) := by decide +kernel
theorem d_method_2_89 : decode method_2_code 89 = .ok (.iconst 3, 1) := by decide +kernel
theorem d_method_2_90 : decode method_2_code 90 = .ok (.newarray .char, 2) := by decide +kernel
theorem d_method_2_92 : decode method_2_code 92 = .ok (.dup, 1) := by decide +kernel
theorem d_method_2_93 : decode method_2_code 93 = .ok (.iconst 0, 1) := by decide +kernel
theorem d_method_2_94 : decode method_2_code 94 = .ok (.iload_n 2, 1) := by decide +kernel
theorem d_method_2_95 : decode method_2_code 95 = .ok (.castore, 1) := by decide +kernel
theorem d_method_2_96 : decode method_2_code 96 = .ok (.dup, 1) := by decide +kernel
theorem d_method_2_97 : decode method_2_code 97 = .ok (.iconst 1, 1) := by decide +kernel
theorem d_method_2_98 : decode method_2_code 98 = .ok (.iload_n 3, 1) := by decide +kernel
theorem d_method_2_99 : decode method_2_code 99 = .ok (.castore, 1) := by decide +kernel
theorem d_method_2_100 : decode method_2_code 100 = .ok (.dup, 1) := by decide +kernel
theorem d_method_2_101 : decode method_2_code 101 = .ok (.iconst 2, 1) := by decide +kernel
theorem d_method_2_102 : decode method_2_code 102 = .ok (.iload 4, 2) := by decide +kernel
theorem d_method_2_104 : decode method_2_code 104 = .ok (.castore, 1) := by decide +kernel
theorem d_method_2_105 : decode method_2_code 105 = .ok (.invokespecial 9, 3) := by decide +kernel
theorem d_method_2_108 : decode method_2_code 108 = .ok (.areturn, 1) := by decide +kernel
theorem d_prog_16_12_0 : decode prog_16_method_12_code 0 = .ok (.aload_n 0, 1) := by decide +kernel
theorem d_prog_16_12_1 : decode prog_16_method_12_code 1 = .ok (.getfield 32, 3) := by decide +kernel
theorem d_prog_16_12_4 : decode prog_16_method_12_code 4 = .ok (.areturn, 1) := by decide +kernel
theorem d_prog_16_13_0 : decode prog_16_method_13_code 0 = .ok (.aload_n 0, 1) := by decide +kernel
theorem d_prog_16_13_1 : decode prog_16_method_13_code 1 = .ok (.getfield 35, 3) := by decide +kernel
theorem d_prog_16_13_4 : decode prog_16_method_13_code 4 = .ok (.areturn, 1) := by decide +kernel
theorem d_prog_16_14_0 : decode prog_16_method_14_code 0 = .ok (.aload_n 0, 1) := by decide +kernel
theorem d_prog_16_14_1 : decode prog_16_method_14_code 1 = .ok (.getfield 39, 3) := by decide +kernel
theorem d_prog_16_14_4 : decode prog_16_method_14_code 4 = .ok (.areturn, 1) := by decide +kernel
theorem d_prog_16_16_0 : decode prog_16_method_16_code 0 = .ok (.aload_n 0, 1) := by decide +kernel
theorem d_prog_16_16_1 : decode prog_16_method_16_code 1 = .ok (.getfield 46, 3) := by decide +kernel
theorem d_prog_16_16_4 : decode prog_16_method_16_code 4 = .ok (.ireturn, 1) := by decide +kernel
theorem d_prog_16_17_0 : decode prog_16_method_17_code 0 = .ok (.aload_n 0, 1) := by decide +kernel
theorem d_prog_16_17_1 : decode prog_16_method_17_code 1 = .ok (.getfield 50, 3) := by decide +kernel
theorem d_prog_16_17_4 : decode prog_16_method_17_code 4 = .ok (.ireturn, 1) := by decide +kernel
theorem d_prog_16_1_0 : decode prog_16_method_1_code 0 = .ok (.aload_n 0, 1) := by decide +kernel
theorem d_prog_16_1_1 : decode prog_16_method_1_code 1 = .ok (.invokespecial 1, 3) := by decide +kernel
theorem d_prog_16_1_4 : decode prog_16_method_1_code 4 = .ok (.aload_n 1, 1) := by decide +kernel
theorem d_prog_16_1_5 : decode prog_16_method_1_code 5 = .ok (.ldc 7, 2) := by decide +kernel
theorem d_prog_16_1_7 : decode prog_16_method_1_code 7 = .ok (.invokestatic 9, 3) := by decide +kernel
theorem d_prog_16_1_10 : decode prog_16_method_1_code 10 = .ok (.pop, 1) := by decide +kernel
theorem d_prog_16_1_11 : decode prog_16_method_1_code 11 = .ok (.iload 5, 2) := by decide +kernel
theorem d_prog_16_1_13 : decode prog_16_method_1_code 13 = .ok (.ifCond .lt 8, 3) := by decide +kernel
theorem d_prog_16_1_16 : decode prog_16_method_1_code 16 = .ok (.iload 6, 2) := by decide +kernel
theorem d_prog_16_1_18 : decode prog_16_method_1_code 18 = .ok (.ifCond .ge 20, 3) := by decide +kernel
theorem d_prog_16_1_38 : decode prog_16_method_1_code 38 = .ok (.iload 6, 2) := by decide +kernel
theorem d_prog_16_1_40 : decode prog_16_method_1_code 40 = .ok (.bipush 100, 2) := by decide +kernel
theorem d_prog_16_1_42 : decode prog_16_method_1_code 42 = .ok (.invokestatic 26, 3) := by decide +kernel
theorem d_prog_16_1_45 : decode prog_16_method_1_code 45 = .ok (.istore 6, 2) := by decide +kernel
theorem d_prog_16_1_47 : decode prog_16_method_1_code 47 = .ok (.aload_n 0, 1) := by decide +kernel
theorem d_prog_16_1_48 : decode prog_16_method_1_code 48 = .ok (.aload_n 1, 1) := by decide +kernel
theorem d_prog_16_1_49 : decode prog_16_method_1_code 49 = .ok (.putfield 32, 3) := by decide +kernel
theorem d_prog_16_1_52 : decode prog_16_method_1_code 52 = .ok (.aload_n 0, 1) := by decide +kernel
theorem d_prog_16_1_53 : decode prog_16_method_1_code 53 = .ok (.aload_n 2, 1) := by decide +kernel
theorem d_prog_16_1_54 : decode prog_16_method_1_code 54 = .ok (.putfield 35, 3) := by decide +kernel
theorem d_prog_16_1_57 : decode prog_16_method_1_code 57 = .ok (.aload_n 0, 1) := by decide +kernel
theorem d_prog_16_1_58 : decode prog_16_method_1_code 58 = .ok (.aload_n 3, 1) := by decide +kernel
theorem d_prog_16_1_59 : decode prog_16_method_1_code 59 = .ok (.putfield 39, 3) := by decide +kernel
theorem d_prog_16_1_62 : decode prog_16_method_1_code 62 = .ok (.aload_n 0, 1) := by decide +kernel
theorem d_prog_16_1_63 : decode prog_16_method_1_code 63 = .ok (.aload 4, 2) := by decide +kernel
theorem d_prog_16_1_65 : decode prog_16_method_1_code 65 = .ok (.putfield 42, 3) := by decide +kernel
theorem d_prog_16_1_68 : decode prog_16_method_1_code 68 = .ok (.aload_n 0, 1) := by decide +kernel
theorem d_prog_16_1_69 : decode prog_16_method_1_code 69 = .ok (.iload 5, 2) := by decide +kernel
theorem d_prog_16_1_71 : decode prog_16_method_1_code 71 = .ok (.putfield 46, 3) := by decide +kernel
theorem d_prog_16_1_74 : decode prog_16_method_1_code 74 = .ok (.aload_n 0, 1) := by decide +kernel
theorem d_prog_16_1_75 : decode prog_16_method_1_code 75 = .ok (.iload 6, 2) := by decide +kernel
theorem d_prog_16_1_77 : decode prog_16_method_1_code 77 = .ok (.putfield 50, 3) := by decide +kernel
theorem d_prog_16_1_80 : decode prog_16_method_1_code 80 = .ok (.return_, 1) := by decide +kernel
theorem d_prog_16_2_0 : decode prog_16_method_2_code 0 = .ok (.new 24, 3) := by decide +kernel
theorem d_prog_16_2_3 : decode prog_16_method_2_code 3 = .ok (.dup, 1) := by decide +kernel
theorem d_prog_16_2_4 : decode prog_16_method_2_code 4 = .ok (.aload_n 0, 1) := by decide +kernel
theorem d_prog_16_2_5 : decode prog_16_method_2_code 5 = .ok (.getstatic 53, 3) := by decide +kernel
theorem d_prog_16_2_8 : decode prog_16_method_2_code 8 = .ok (.getstatic 58, 3) := by decide +kernel
theorem d_prog_16_2_11 : decode prog_16_method_2_code 11 = .ok (.invokedynamic 61, 5) := by decide +kernel
theorem d_prog_16_2_16 : decode prog_16_method_2_code 16 = .ok (.iconst 0, 1) := by decide +kernel
theorem d_prog_16_2_17 : decode prog_16_method_2_code 17 = .ok (.bipush 20, 2) := by decide +kernel
theorem d_prog_16_2_19 : decode prog_16_method_2_code 19 = .ok (.invokespecial 65, 3) := by decide +kernel
theorem d_prog_16_2_22 : decode prog_16_method_2_code 22 = .ok (.areturn, 1) := by decide +kernel
theorem d_prog_16_3_0 : decode prog_16_method_3_code 0 = .ok (.aload_n 0, 1) := by decide +kernel
theorem d_prog_16_3_1 : decode prog_16_method_3_code 1 = .ok (.getfield 35, 3) := by decide +kernel
theorem d_prog_16_3_4 : decode prog_16_method_3_code 4 = .ok (.aload_n 1, 1) := by decide +kernel
theorem d_prog_16_3_5 : decode prog_16_method_3_code 5 = .ok (.invokevirtual 68, 3) := by decide +kernel
theorem d_prog_16_3_8 : decode prog_16_method_3_code 8 = .ok (.ifCond .eq 10, 3) := by decide +kernel
theorem d_prog_16_3_18 : decode prog_16_method_3_code 18 = .ok (.aload_n 1, 1) := by decide +kernel
theorem d_prog_16_3_19 : decode prog_16_method_3_code 19 = .ok (.astore_n 2, 1) := by decide +kernel
theorem d_prog_16_3_20 : decode prog_16_method_3_code 20 = .ok (.new 24, 3) := by decide +kernel
theorem d_prog_16_3_23 : decode prog_16_method_3_code 23 = .ok (.dup, 1) := by decide +kernel
theorem d_prog_16_3_24 : decode prog_16_method_3_code 24 = .ok (.aload_n 0, 1) := by decide +kernel
theorem d_prog_16_3_25 : decode prog_16_method_3_code 25 = .ok (.getfield 32, 3) := by decide +kernel
theorem d_prog_16_3_28 : decode prog_16_method_3_code 28 = .ok (.aload_n 2, 1) := by decide +kernel
theorem d_prog_16_3_29 : decode prog_16_method_3_code 29 = .ok (.aload_n 0, 1) := by decide +kernel
theorem d_prog_16_3_30 : decode prog_16_method_3_code 30 = .ok (.getfield 39, 3) := by decide +kernel
theorem d_prog_16_3_33 : decode prog_16_method_3_code 33 = .ok (.aload_n 0, 1) := by decide +kernel
theorem d_prog_16_3_34 : decode prog_16_method_3_code 34 = .ok (.getfield 42, 3) := by decide +kernel
theorem d_prog_16_3_37 : decode prog_16_method_3_code 37 = .ok (.aload_n 0, 1) := by decide +kernel
theorem d_prog_16_3_38 : decode prog_16_method_3_code 38 = .ok (.getfield 46, 3) := by decide +kernel
theorem d_prog_16_3_41 : decode prog_16_method_3_code 41 = .ok (.aload_n 0, 1) := by decide +kernel
theorem d_prog_16_3_42 : decode prog_16_method_3_code 42 = .ok (.getfield 50, 3) := by decide +kernel
theorem d_prog_16_3_45 : decode prog_16_method_3_code 45 = .ok (.invokespecial 65, 3) := by decide +kernel
theorem d_prog_16_3_48 : decode prog_16_method_3_code 48 = .ok (.areturn, 1) := by decide +kernel
theorem d_prog_16_4_0 : decode prog_16_method_4_code 0 = .ok (.aload_n 0, 1) := by decide +kernel
theorem d_prog_16_4_1 : decode prog_16_method_4_code 1 = .ok (.getfield 39, 3) := by decide +kernel
theorem d_prog_16_4_4 : decode prog_16_method_4_code 4 = .ok (.aload_n 1, 1) := by decide +kernel
theorem d_prog_16_4_5 : decode prog_16_method_4_code 5 = .ok (.invokevirtual 72, 3) := by decide +kernel
theorem d_prog_16_4_8 : decode prog_16_method_4_code 8 = .ok (.ifCond .eq 10, 3) := by decide +kernel
theorem d_prog_16_4_18 : decode prog_16_method_4_code 18 = .ok (.aload_n 1, 1) := by decide +kernel
theorem d_prog_16_4_19 : decode prog_16_method_4_code 19 = .ok (.astore_n 2, 1) := by decide +kernel
theorem d_prog_16_4_20 : decode prog_16_method_4_code 20 = .ok (.new 24, 3) := by decide +kernel
theorem d_prog_16_4_23 : decode prog_16_method_4_code 23 = .ok (.dup, 1) := by decide +kernel
theorem d_prog_16_4_24 : decode prog_16_method_4_code 24 = .ok (.aload_n 0, 1) := by decide +kernel
theorem d_prog_16_4_25 : decode prog_16_method_4_code 25 = .ok (.getfield 32, 3) := by decide +kernel
theorem d_prog_16_4_28 : decode prog_16_method_4_code 28 = .ok (.aload_n 0, 1) := by decide +kernel
theorem d_prog_16_4_29 : decode prog_16_method_4_code 29 = .ok (.getfield 35, 3) := by decide +kernel
theorem d_prog_16_4_32 : decode prog_16_method_4_code 32 = .ok (.aload_n 2, 1) := by decide +kernel
theorem d_prog_16_4_33 : decode prog_16_method_4_code 33 = .ok (.aload_n 0, 1) := by decide +kernel
theorem d_prog_16_4_34 : decode prog_16_method_4_code 34 = .ok (.getfield 42, 3) := by decide +kernel
theorem d_prog_16_4_37 : decode prog_16_method_4_code 37 = .ok (.aload_n 0, 1) := by decide +kernel
theorem d_prog_16_4_38 : decode prog_16_method_4_code 38 = .ok (.getfield 46, 3) := by decide +kernel
theorem d_prog_16_4_41 : decode prog_16_method_4_code 41 = .ok (.aload_n 0, 1) := by decide +kernel
theorem d_prog_16_4_42 : decode prog_16_method_4_code 42 = .ok (.getfield 50, 3) := by decide +kernel
theorem d_prog_16_4_45 : decode prog_16_method_4_code 45 = .ok (.invokespecial 65, 3) := by decide +kernel
theorem d_prog_16_4_48 : decode prog_16_method_4_code 48 = .ok (.areturn, 1) := by decide +kernel
theorem pd_0 : parseMethodDescriptor "([CI[BII)I" = some ⟨[(.array .char), .int, (.array .byte), .int, .int], some .int⟩ := by decide +kernel
theorem pd_1 : parseMethodDescriptor "([CII)[B" = some ⟨[(.array .char), .int, .int], some (.array .byte)⟩ := by decide +kernel
theorem pd_2 : parseMethodDescriptor "([BI)B" = some ⟨[(.array .byte), .int], some .byte⟩ := by decide +kernel
theorem pd_3 : parseMethodDescriptor "([CIILjava/lang/Void;)V" = some ⟨[(.array .char), .int, .int, (.object "java/lang/Void")], none⟩ := by decide +kernel
theorem pd_4 : parseMethodDescriptor "(C)Z" = some ⟨[.char], some .boolean⟩ := by decide +kernel
theorem pd_5 : parseMethodDescriptor "(C)[B" = some ⟨[.char], some (.array .byte)⟩ := by decide +kernel
theorem pd_6 : parseMethodDescriptor "([BB)V" = some ⟨[(.array .byte), .byte], none⟩ := by decide +kernel
theorem pd_7 : parseMethodDescriptor "([C)V" = some ⟨[(.array .char)], none⟩ := by decide +kernel
theorem pd_8 : parseMethodDescriptor "(C)Ljava/lang/String;" = some ⟨[.char], some (.object "java/lang/String")⟩ := by decide +kernel
theorem pd_9 : parseMethodDescriptor "()V" = some ⟨[], none⟩ := by decide +kernel
theorem pd_10 : parseMethodDescriptor "(Ljava/lang/Object;Ljava/lang/String;)Ljava/lang/Object;" = some ⟨[(.object "java/lang/Object"), (.object "java/lang/String")], some (.object "java/lang/Object")⟩ := by decide +kernel
theorem pd_11 : parseMethodDescriptor "(II)I" = some ⟨[.int, .int], some .int⟩ := by decide +kernel
theorem pd_12 : parseMethodDescriptor "(JJ)I" = some ⟨[.long, .long], some .int⟩ := by decide +kernel
theorem pd_13 : parseMethodDescriptor "(Ljava/time/Instant;)I" = some ⟨[(.object "java/time/Instant")], some .int⟩ := by decide +kernel
theorem pd_14 : parseMethodDescriptor "(Ljava/lang/String;Ljava/time/Instant;Ljava/time/Instant;Ljava/util/function/Predicate;II)V" = some ⟨[(.object "java/lang/String"), (.object "java/time/Instant"), (.object "java/time/Instant"), (.object "java/util/function/Predicate"), .int, .int], none⟩ := by decide +kernel
theorem pd_15 : parseMethodDescriptor "(Ljava/time/Instant;)Z" = some ⟨[(.object "java/time/Instant")], some .boolean⟩ := by decide +kernel
theorem pd_16 : parseMethodDescriptor "(II)Ljava/lang/String;" = some ⟨[.int, .int], some (.object "java/lang/String")⟩ := by decide +kernel
theorem pd_17 : parseMethodDescriptor "(Ljava/lang/String;)Lcom/example/despatch/despatch/messaging/MailboxQuery;" = some ⟨[(.object "java/lang/String")], some (.object "com/example/despatch/despatch/messaging/MailboxQuery")⟩ := by decide +kernel
theorem pd_18 : parseMethodDescriptor "()Ljava/lang/String;" = some ⟨[], some (.object "java/lang/String")⟩ := by decide +kernel
theorem pd_19 : parseMethodDescriptor "(Ljava/lang/Object;)Z" = some ⟨[(.object "java/lang/Object")], some .boolean⟩ := by decide +kernel
theorem pd_20 : parseMethodDescriptor "()I" = some ⟨[], some .int⟩ := by decide +kernel
theorem pd_21 : parseMethodDescriptor "()Ljava/time/Instant;" = some ⟨[], some (.object "java/time/Instant")⟩ := by decide +kernel
theorem pd_22 : parseMethodDescriptor "(Ljava/time/Instant;)Lcom/example/despatch/despatch/messaging/MailboxQuery;" = some ⟨[(.object "java/time/Instant")], some (.object "com/example/despatch/despatch/messaging/MailboxQuery")⟩ := by decide +kernel
theorem pn_0 : plainName "java/lang/StringUTF16" = true := by first | (simp [plainName, overriddenIn]; done) | decide +kernel
theorem pn_1 : plainName "java/lang/String" = true := by first | (simp [plainName, overriddenIn]; done) | decide +kernel
theorem pn_2 : plainName "java/lang/StringLatin1" = true := by first | (simp [plainName, overriddenIn]; done) | decide +kernel
theorem pn_3 : plainName "com/example/despatch/despatch/messaging/MailboxQueryOfPinLaw" = true := by first | (simp [plainName, overriddenIn]; done) | decide +kernel
theorem pn_4 : plainName "java/lang/Record" = true := by first | (simp [plainName, overriddenIn]; done) | decide +kernel
theorem pn_5 : plainName "java/util/Objects" = true := by first | (simp [plainName, overriddenIn]; done) | decide +kernel
theorem pn_6 : plainName "com/example/despatch/despatch/messaging/MailboxQuery" = true := by first | (simp [plainName, overriddenIn]; done) | decide +kernel
theorem pn_7 : plainName "java/lang/Long" = true := by first | (simp [plainName, overriddenIn]; done) | decide +kernel
theorem pn_8 : plainName "java/time/Instant" = true := by first | (simp [plainName, overriddenIn]; done) | decide +kernel
theorem own_all0 {P : Int32 → Prop} : ∀ c ∈ ([] : List Int32), P c := fun _ q => nomatch q
theorem own_allS {P : Int32 → Prop} {a : Int32} {L : List Int32} (q : P a) (r : ∀ c ∈ L, P c) : ∀ c ∈ a :: L, P c := fun x z => (List.mem_cons.mp z).elim (fun u => u ▸ q) (r x)
def latB (c : Int32) : Value := .int c.toInt8.toInt32
/-- the object at a is a Latin-1 String of the chars cs; its bytes lie at b -/
def SL (Z : State) (h : Heap) (a b : Nat) (cs : List Int32) : Prop := Exa Z h a "java/lang/String" ∧ Fld Z h a "java/lang/String" "coder" "B" (.int 0) ∧ Fld Z h a "java/lang/String" "value" "[B" (.ref b) ∧ Ary Z h b .byte (cs.map latB) ∧ ∀ c ∈ cs, 0 ≤ c.toInt ∧ c.toInt ≤ 255
theorem SL.keep {Z : State} {h h' : Heap} {a b : Addr} {cs : List Int32} {ws : List Addr} (S : SL Z h a b cs) (K : Keep h h' ws) (qa : a ∉ ws) (qb : b ∉ ws) : SL Z h' a b cs := by
  obtain ⟨E, F1, F2, V, q⟩ := S
  exact ⟨E.keep K, F1.keep K qa, F2.keep K qa, V.keep K qb, q⟩
theorem SL.lt {Z : State} {h : Heap} {a b : Addr} {cs : List Int32} (S : SL Z h a b cs) : a < h.size := S.1.lt
theorem SL.ltb {Z : State} {h : Heap} {a b : Addr} {cs : List Int32} (S : SL Z h a b cs) : b < h.size := S.2.2.2.1.lt
theorem own_b8 (c : Int32) : c.toInt8.toInt32.toInt8.toInt32 = c.toInt8.toInt32 := by simp
theorem own_toInt {n : Nat} (h : n < 2 ^ 31) : n.toInt32.toInt = n := len_toInt h
theorem own_ltn {i n : Nat} (h : i < n) (hn : n < 2 ^ 31) : i.toInt32 < n.toInt32 := by
  rw [Int32.lt_iff_toInt_lt, own_toInt (by omega), own_toInt hn]; omega
theorem own_nltn {i n : Nat} (h : n ≤ i) (hn : i < 2 ^ 31) : ¬ i.toInt32 < n.toInt32 := by
  rw [Int32.lt_iff_toInt_lt, own_toInt hn, own_toInt (by omega)]; omega
theorem own_nneg {n : Nat} (hn : n < 2 ^ 31) : ¬ n.toInt32 < 0 := by
  rw [Int32.lt_iff_toInt_lt, own_toInt hn]; simp
theorem own_succ (i : Nat) : i.toInt32 + Int32.ofInt 1 = (i + 1).toInt32 := by
  show Int32.ofNat i + Int32.ofInt 1 = Int32.ofNat (i + 1)
  rw [Int32.ofNat_add]; rfl
theorem own_fill {cs : List Int32} {bs : List Value} {i : Nat} {c : Int32} (hl : bs.length = cs.length) (hc : cs[i]? = some c) : ((cs.take i).map latB ++ bs.drop i).set i (latB c) = (cs.take (i + 1)).map latB ++ bs.drop (i + 1) := by
  have hi : i < cs.length := (List.getElem?_eq_some_iff.mp hc).1
  have e1 : ((cs.take i).map latB).length = i := by simp; omega
  have e2 : bs.drop i = bs[i] :: bs.drop (i + 1) := List.drop_eq_getElem_cons (by omega)
  have e3 : cs.take (i + 1) = cs.take i ++ [c] := by rw [List.take_add_one, hc]; rfl
  rw [List.set_append_right _ _ (by omega), e1, e2, e3, Nat.sub_self, List.set_cons_zero, List.map_append, List.append_assoc]
  rfl
theorem own_back (c : Int32) (h : 0 ≤ c.toInt ∧ c.toInt ≤ 255) : nar .char (c.toInt8.toInt32 &&& 255).toUInt32.toUInt16.toUInt32.toInt32 = c := by
  have e : ∀ n : Fin 256, nar .char ((Int32.ofNat n.1).toInt8.toInt32 &&& 255).toUInt32.toUInt16.toUInt32.toInt32 = Int32.ofNat n.1 := by decide +kernel
  have q : c = Int32.ofNat c.toInt.toNat := by
    apply Int32.toInt_inj.mp
    rw [show Int32.ofNat c.toInt.toNat = c.toInt.toNat.toInt32 from rfl, own_toInt (by omega)]; omega
  rw [q]
  exact e ⟨c.toInt.toNat, by omega⟩
theorem own_csub (n : Int32) : (((n - n).toUInt32 >>> ((31 : Int32) &&& 31).toUInt32).toInt32).toInt8.toInt32 = 0 := by
  rw [Int32.sub_self]; decide
theorem own_nchar {c : Int32} (h : 0 ≤ c.toInt ∧ c.toInt < 65536) : nar .char c = c := by
  have q := c_i2c c
  apply Int32.toInt_inj.mp
  show c.toUInt32.toUInt16.toUInt32.toInt32.toInt = c.toInt
  omega
/-- the JDK's statics that String's methods read -/
def SEnv (Z : State) (cc : Int32) (fm : Value) : Prop := Sta Z Z.heap "java/lang/String" "COMPACT_STRINGS" "Z" (.int cc) ∧ ¬ cc = 0 ∧ Sta Z Z.heap "jdk/internal/util/Preconditions" "SIOOBE_FORMATTER" "Ljava/util/function/BiFunction;" fm ∧ fm.isRef = true
set_option maxRecDepth 65536 in
set_option maxHeartbeats 40000000 in
theorem c_compr (l : Launch) (Z : State) (a0 : Array Value) (hw : ∀ d ∈ tables_1, d.before a0 Z = true) (hE : EW Z a0 consts_1) (ca ba : Nat) (cs : List Int32) (bs : List Value) (h0 : Heap) (O : Ext Z.heap h0) (hn : cs.length ≤ 3) (hch : ∀ c ∈ cs, 0 ≤ c.toInt ∧ c.toInt ≤ 255) (VA : Ary Z h0 ca .char (cs.map Value.int)) (VB : Ary Z h0 ba .byte bs) (hbl : bs.length = cs.length) (hne : ca ≠ ba) (hz : Z.heap.size ≤ ba) :
    Con l Z consts_1 (⟨"java/lang/StringUTF16", "compress", "([CI[BII)I"⟩ : MethodName) jdk_52_method_21_code 7 (Option.some Jvm.ClassFile.FieldType.int) ({ frames := 0, cells := 0, slots := 0, locals := 0 } : Room) #[(.ref ca), (.int (0 : Int32)), (.ref ba), (.int (0 : Int32)), (.int cs.length.toInt32)] h0 [ba] (fun v h => v = some (.int cs.length.toInt32) ∧ Ary Z h ba .byte (cs.map latB)) := by
  refine Con.of (a0 := a0) #[.val (.ref ca), .val (.int (0 : Int32)), .val (.ref ba), .val (.int (0 : Int32)), .val (.int cs.length.toInt32), .unset, .unset] (plainFor_of_name pn_0) hE O (allS ⟨hz, VB.lt⟩ all0) (fun m => by first | (simp [entryFrame, mkF, argsToLocals, Value.category]; done) | rfl) ?_
  intro p e s m below meth c T0 hx hby hml hnm hret hlk hh W0
  have hn31 : cs.length < 2 ^ 31 := by omega
  refine g_iconst (0 : Int32) (pc' := 1) W0.here hx (hb hby d_jdk_52_21_0) rfl rfl ?_
  refine g_istore (pc' := 3) (Ls' := #[.val (.ref ca), .val (.int (0 : Int32)), .val (.ref ba), .val (.int (0 : Int32)), .val (.int cs.length.toInt32), .val (.int (0 : Int32)), .unset]) W0.here hx (hb hby d_jdk_52_21_1) rfl rfl ?_
  have LOOP : ∀ (k i : Nat), i + k = cs.length → ∀ (TL : State) (hL : Heap) (o6 : Slot), One o6 → Wk p l e ({ frames := 0, cells := 0, slots := 0, locals := 0 } : Room) s m #[(.ref ca), (.int (0 : Int32)), (.ref ba), (.int (0 : Int32)), (.int cs.length.toInt32)] below meth c Z consts_1 "java/lang/StringUTF16" [ba] [] TL hL 0 0 → Keep h0 hL [ba] → Ary Z hL ba .byte ((cs.take i).map latB ++ bs.drop i) → Gets p.tables e below (Post s Z consts_1 ({ frames := 0, cells := 0, slots := 0, locals := 0 } : Room) h0 [ba] (fun v h => v = some (.int cs.length.toInt32) ∧ Ary Z h ba .byte (cs.map latB))) TL (mkF m 3 #[.val (.ref ca), .val (.int i.toInt32), .val (.ref ba), .val (.int i.toInt32), .val (.int cs.length.toInt32), .val (.int i.toInt32), o6] []) := by
    intro k
    induction k with
    | zero =>
      intro i hi TL hL o6 ho6 WL KL VBL
      have VAL := VA.keep KL (ninS hne nin0)
      refine g_iload (pc' := 5) WL.here hx (hb hby d_jdk_52_21_3) rfl rfl ?_
      refine g_iload (pc' := 7) WL.here hx (hb hby d_jdk_52_21_5) rfl rfl ?_
      refine g_icmpY (pc' := 44) WL.here hx (hb hby d_jdk_52_21_7) rfl (flt (show ¬ (i.toInt32 < cs.length.toInt32) from (own_nltn (by omega) (by omega)))).2.1 ?_
      refine g_iload (pc' := 46) WL.here hx (hb hby d_jdk_52_21_44) rfl rfl ?_
      refine w_retI WL hx hh hlk hret (hb hby d_jdk_52_21_46) (Nat.le_of_ble_eq_true rfl) (Nat.le_of_ble_eq_true rfl) ?_
      have e1 : i = cs.length := by omega
      subst e1
      rw [List.take_length, List.drop_eq_nil_of_le (by omega), List.append_nil] at VBL
      exact ⟨rfl, VBL⟩
    | succ k ih =>
      intro i hi TL hL o6 ho6 WL KL VBL
      have VAL := VA.keep KL (ninS hne nin0)
      have hi2 : i < cs.length := by omega
      obtain ⟨ci, hci⟩ : ∃ ci, cs[i]? = some ci := ⟨_, List.getElem?_eq_getElem hi2⟩
      have hcm : ci ∈ cs := List.mem_of_getElem? hci
      have hcr := hch ci hcm
      refine g_iload (pc' := 5) WL.here hx (hb hby d_jdk_52_21_3) rfl rfl ?_
      refine g_iload (pc' := 7) WL.here hx (hb hby d_jdk_52_21_5) rfl rfl ?_
      refine g_icmpN (pc' := 10) WL.here hx (hb hby d_jdk_52_21_7) rfl (tlt (show i.toInt32 < cs.length.toInt32 from (own_ltn hi2 hn31))).2.1 ?_
      refine g_aloadN (pc' := 11) WL.here hx (hb hby d_jdk_52_21_10) rfl rfl rfl ?_
      refine g_iloadN (pc' := 12) WL.here hx (hb hby d_jdk_52_21_11) rfl rfl ?_
      refine w_caload (pc' := 13) (v := (.int ci)) WL hx VAL (own_nneg (by omega)) (by rw [i32_nat (by omega), List.getElem?_map, hci]; rfl) (hb hby d_jdk_52_21_12) rfl ?_
      refine g_istore (pc' := 15) (Ls' := #[.val (.ref ca), .val (.int i.toInt32), .val (.ref ba), .val (.int i.toInt32), .val (.int cs.length.toInt32), .val (.int i.toInt32), .val (.int ci)]) WL.here hx (hb hby d_jdk_52_21_13) (XS.store1 (o := o6) rfl ho6 rfl) rfl ?_
      refine g_iload (pc' := 17) WL.here hx (hb hby d_jdk_52_21_15) rfl rfl ?_
      refine g_sipush (255 : Int32) (pc' := 20) WL.here hx (hb hby d_jdk_52_21_17) rfl rfl ?_
      refine g_icmpY (pc' := 26) WL.here hx (hb hby d_jdk_52_21_20) rfl (flt (show ¬ ((255 : Int32) < ci) from (by rw [Int32.lt_iff_toInt_lt]; have : (255 : Int32).toInt = 255 := rfl; omega))).2.2.2 ?_
      refine g_aloadN (pc' := 27) WL.here hx (hb hby d_jdk_52_21_26) rfl rfl rfl ?_
      refine g_iloadN (pc' := 28) WL.here hx (hb hby d_jdk_52_21_27) rfl rfl ?_
      refine g_iload (pc' := 30) WL.here hx (hb hby d_jdk_52_21_28) rfl rfl ?_
      refine g_i2b (pc' := 31) WL.here hx (hb hby d_jdk_52_21_30) rfl ?_
      refine w_bastore (pc' := 32) (x' := ci.toInt8.toInt32) WL hx VBL (own_nneg (by omega)) (by rw [i32_nat (by omega)]; simp; omega) (List.mem_of_getElem? (i := 0) rfl) (own_b8 ci) (hb hby d_jdk_52_21_31) rfl fun T1 h1 W1 K1 V1 => ?_
      have z_K1 : hL.size ≤ h1.size := K1.1
      have V1 : Ary Z h1 ba .byte ((cs.take (i + 1)).map latB ++ bs.drop (i + 1)) := by rw [i32_nat (by omega)] at V1; rw [← own_fill hbl hci]; exact V1
      refine g_iincV (i + 1).toInt32 (pc' := 35) (Ls' := #[.val (.ref ca), .val (.int (i + 1).toInt32), .val (.ref ba), .val (.int i.toInt32), .val (.int cs.length.toInt32), .val (.int i.toInt32), .val (.int ci)]) W1.here hx (hb hby d_jdk_52_21_32) (own_succ i) rfl rfl rfl ?_
      refine g_iincV (i + 1).toInt32 (pc' := 38) (Ls' := #[.val (.ref ca), .val (.int (i + 1).toInt32), .val (.ref ba), .val (.int (i + 1).toInt32), .val (.int cs.length.toInt32), .val (.int i.toInt32), .val (.int ci)]) W1.here hx (hb hby d_jdk_52_21_35) (own_succ i) rfl rfl rfl ?_
      refine g_iincV (i + 1).toInt32 (pc' := 41) (Ls' := #[.val (.ref ca), .val (.int (i + 1).toInt32), .val (.ref ba), .val (.int (i + 1).toInt32), .val (.int cs.length.toInt32), .val (.int (i + 1).toInt32), .val (.int ci)]) W1.here hx (hb hby d_jdk_52_21_38) (own_succ i) rfl rfl rfl ?_
      refine g_goto (pc' := 3) W1.here hx (hb hby d_jdk_52_21_41) rfl ?_
      exact ih (i + 1) (by omega) _ _ _ (One.val rfl) W1 (KL.trans K1 (fun x q => Or.inl q)) V1
  exact LOOP cs.length 0 (by omega) _ _ _ One.u W0 (Keep.refl _ _) (by simpa using VB)
set_option maxRecDepth 65536 in
set_option maxHeartbeats 40000000 in
theorem c_compress (l : Launch) (Z : State) (a0 : Array Value) (hw : ∀ d ∈ tables_1, d.before a0 Z = true) (hE : EW Z a0 consts_1) (ca : Nat) (cs : List Int32) (h0 : Heap) (O : Ext Z.heap h0) (hn : cs.length ≤ 3) (hch : ∀ c ∈ cs, 0 ≤ c.toInt ∧ c.toInt ≤ 255) (VA : Ary Z h0 ca .char (cs.map Value.int))  :
    Con l Z consts_1 (⟨"java/lang/StringUTF16", "compress", "([CII)[B"⟩ : MethodName) jdk_52_method_16_code 6 (Option.some (Jvm.ClassFile.FieldType.array Jvm.ClassFile.FieldType.byte)) ({ frames := 1, cells := 1, slots := 3, locals := 18 } : Room) #[(.ref ca), (.int (0 : Int32)), (.int cs.length.toInt32)] h0 [] (fun v h => ∃ ba : Nat, v = some (.ref ba) ∧ h0.size ≤ ba ∧ Ary Z h ba .byte (cs.map latB)) := by
  refine Con.of (a0 := a0) #[.val (.ref ca), .val (.int (0 : Int32)), .val (.int cs.length.toInt32), .unset, .unset, .unset] (plainFor_of_name pn_0) hE O all0 (fun m => by first | (simp [entryFrame, mkF, argsToLocals, Value.category]; done) | rfl) ?_
  intro p e s m below meth c T0 hx hby hml hnm hret hlk hh W0
  have hn31 : cs.length < 2 ^ 31 := by omega
  have lt_ca : ca < h0.size := VA.lt
  refine g_iloadN (pc' := 1) W0.here hx (hb hby d_jdk_52_16_0) rfl rfl ?_
  refine w_newarr (pc' := 3) (cap := 3) W0 hx (hw _ (List.mem_of_getElem? w_23)) (hb hby d_jdk_52_16_1) (own_nneg hn31) (by rw [i32_nat hn31]; exact hn) (Nat.le_of_ble_eq_true rfl) (Nat.le_of_ble_eq_true rfl) (Nat.le_of_ble_eq_true rfl) rfl rfl fun T2 h2 b2 g2 W2 K2 V2 => ?_
  have z_K2 : h0.size ≤ h2.size := K2.1
  have ne_ca_b2 : ca ≠ b2 := by omega
  have lt_b2 : b2 < h2.size := W2.lt (List.mem_cons_self ..)
  have V3 : Ary Z h2 b2 .byte (List.replicate cs.length (.int 0)) := by rw [i32_nat hn31] at V2; exact V2
  refine g_astoreN (pc' := 4) (Ls' := #[.val (.ref ca), .val (.int (0 : Int32)), .val (.int cs.length.toInt32), .val (.ref b2), .unset, .unset]) W2.here hx (hb hby d_jdk_52_16_3) rfl rfl rfl ?_
  refine g_aloadN (pc' := 5) W2.here hx (hb hby d_jdk_52_16_4) rfl rfl rfl ?_
  refine g_iloadN (pc' := 6) W2.here hx (hb hby d_jdk_52_16_5) rfl rfl ?_
  refine g_aloadN (pc' := 7) W2.here hx (hb hby d_jdk_52_16_6) rfl rfl rfl ?_
  refine g_iconst (0 : Int32) (pc' := 8) W2.here hx (hb hby d_jdk_52_16_7) rfl rfl ?_
  refine g_iloadN (pc' := 9) W2.here hx (hb hby d_jdk_52_16_8) rfl rfl ?_
  have c4 := (VA.keep K2 nin0)
  refine w_callS (pc' := 12) (st := []) (y := (⟨"java/lang/StringUTF16", "compress", "([CI[BII)I"⟩ : MethodName)) W2 hx [(.ref ca), (.int (0 : Int32)), (.ref b2), (.int (0 : Int32)), (.int cs.length.toInt32)] (hw _ (List.mem_of_getElem? w_24)) (hw _ (List.mem_of_getElem? w_25)) (hw _ (List.mem_of_getElem? w_21)) (hw _ (List.mem_of_getElem? w_26)) (by decide) (c_compr l Z a0 hw hE ca b2 cs _ h2 W2.old hn hch c4 V3 (by simp) ne_ca_b2 (by have := O.1; omega)) (allS (List.mem_of_getElem? (i := 0) rfl) all0) (by rw [hml]; rfl) (lenOf pd_0 rfl) rfl (hb hby d_jdk_52_16_9) (Nat.le_of_ble_eq_true rfl) (Nat.le_of_ble_eq_true rfl) (Nat.le_of_ble_eq_true rfl) (Nat.le_of_ble_eq_true rfl) rfl fun v5 T5 h5 W5 K5 Q5 => ?_
  have z_K5 : h2.size ≤ h5.size := K5.1
  obtain ⟨rfl, V6⟩ := Q5
  refine g_istore (pc' := 14) (Ls' := #[.val (.ref ca), .val (.int (0 : Int32)), .val (.int cs.length.toInt32), .val (.ref b2), .val (.int cs.length.toInt32), .unset]) W5.here hx (hb hby d_jdk_52_16_12) rfl rfl ?_
  refine g_iload (pc' := 16) W5.here hx (hb hby d_jdk_52_16_14) rfl rfl ?_
  refine g_iloadN (pc' := 17) W5.here hx (hb hby d_jdk_52_16_16) rfl rfl ?_
  refine g_icmpY (pc' := 57) W5.here hx (hb hby d_jdk_52_16_17) rfl (teq (show cs.length.toInt32 = cs.length.toInt32 from rfl)).1 ?_
  refine g_aloadN (pc' := 58) W5.here hx (hb hby d_jdk_52_16_57) rfl rfl rfl ?_
  refine w_retA W5 hx hh hlk hret rfl rfl (hb hby d_jdk_52_16_58) (Nat.le_of_ble_eq_true rfl) (Nat.le_of_ble_eq_true rfl) ?_
  exact ⟨_, rfl, by omega, V6⟩
set_option maxRecDepth 65536 in
set_option maxHeartbeats 40000000 in
theorem c_coderFrom (l : Launch) (Z : State) (a0 : Array Value) (hw : ∀ d ∈ tables_1, d.before a0 Z = true) (hE : EW Z a0 consts_1) (ba : Nat) (cs : List Int32) (bs : List Value) (h0 : Heap) (O : Ext Z.heap h0) (VB : Ary Z h0 ba .byte bs) (hbl : bs.length = cs.length) :
    Con l Z consts_1 (⟨"java/lang/StringUTF16", "coderFromArrayLen", "([BI)B"⟩ : MethodName) jdk_52_method_15_code 2 (Option.some Jvm.ClassFile.FieldType.byte) ({ frames := 0, cells := 0, slots := 0, locals := 0 } : Room) #[(.ref ba), (.int cs.length.toInt32)] h0 [] (pureQ (some (.int 0)) h0) := by
  refine Con.of (a0 := a0) #[.val (.ref ba), .val (.int cs.length.toInt32)] (plainFor_of_name pn_0) hE O all0 (fun m => by first | (simp [entryFrame, mkF, argsToLocals, Value.category]; done) | rfl) ?_
  intro p e s m below meth c T0 hx hby hml hnm hret hlk hh W0
  refine g_iloadN (pc' := 1) W0.here hx (hb hby d_jdk_52_15_0) rfl rfl ?_
  refine g_aloadN (pc' := 2) W0.here hx (hb hby d_jdk_52_15_1) rfl rfl rfl ?_
  refine w_len (pc' := 3) W0 hx VB (hb hby d_jdk_52_15_2) rfl ?_
  refine g_name (w := .int cs.length.toInt32) (congrArg Value.int (by rw [hbl])) ?_
  refine g_isub (pc' := 4) W0.here hx (hb hby d_jdk_52_15_3) rfl ?_
  refine g_bipush (31 : Int32) (pc' := 6) W0.here hx (hb hby d_jdk_52_15_4) rfl rfl ?_
  refine g_iushr (pc' := 7) W0.here hx (hb hby d_jdk_52_15_6) rfl ?_
  refine g_i2b (pc' := 8) W0.here hx (hb hby d_jdk_52_15_7) rfl ?_
  refine w_retN (t := .byte) W0 hx hh hlk hret (by simp) (hb hby d_jdk_52_15_8) (Nat.le_of_ble_eq_true rfl) (Nat.le_of_ble_eq_true rfl) ?_
  exact ⟨congrArg (fun z => some (Value.int z)) (by rw [own_csub]; rfl), rfl⟩
theorem own_pos0 {n : Nat} (h : 0 < n) (hn : n < 2 ^ 31) : ¬ n.toInt32 = 0 := fun q => by
  have := congrArg Int32.toInt q
  rw [own_toInt hn] at this
  simp at this; omega
theorem own_nil {cs : List Int32} (hn : cs.length < 2 ^ 31) (q : cs.length.toInt32 = (0 : Int32)) : cs = [] := by
  cases cs with
  | nil => rfl
  | cons a t => exact absurd q (own_pos0 (by simp) hn)
theorem own_atoms {Z : State} {a0 : Array Value} (hw : ∀ d ∈ tables_1, d.before a0 Z = true) : ∀ a ∈ Bundle.stringAtoms, a.before a0 Z = true := fun d hd => by
  simp only [Bundle.stringAtoms, Bundle.sN, List.mem_cons, List.not_mem_nil, or_false] at hd
  rcases hd with rfl | rfl | rfl | rfl | rfl | rfl | rfl
  · exact (hw _ (List.mem_of_getElem? w_6))
  · exact (hw _ (List.mem_of_getElem? w_5))
  · exact (hw _ (List.mem_of_getElem? w_23))
  · exact (hw _ (List.mem_of_getElem? w_33))
  · exact (hw _ (List.mem_of_getElem? w_31))
  · exact (hw _ (List.mem_of_getElem? w_56))
  · exact (hw _ (List.mem_of_getElem? w_57))
set_option maxRecDepth 65536 in
set_option maxHeartbeats 40000000 in
theorem c_str4 (l : Launch) (Z : State) (a0 : Array Value) (hw : ∀ d ∈ tables_1, d.before a0 Z = true) (hE : EW Z a0 consts_1) (cc : Int32) (fm : Value) (o ca : Nat) (cs : List Int32) (h0 : Heap) (O : Ext Z.heap h0) (G : SEnv Z cc fm) (hn : cs.length ≤ 3) (hch : ∀ c ∈ cs, 0 ≤ c.toInt ∧ c.toInt ≤ 255) (VA : Ary Z h0 ca .char (cs.map Value.int)) (hz : Z.heap.size ≤ o) (E0 : Exa Z h0 o "java/lang/String") (u1 u2 : Value) (F1 : Fld Z h0 o "java/lang/String" "coder" "B" u1) (F2 : Fld Z h0 o "java/lang/String" "value" "[B" u2) (hoc : o ≠ ca)  :
    Con l Z consts_1 (⟨"java/lang/String", "<init>", "([CIILjava/lang/Void;)V"⟩ : MethodName) jdk_42_method_149_code 6 (Option.none : Option Jvm.ClassFile.FieldType) ({ frames := 2, cells := 4, slots := 8, locals := 35 } : Room) #[(.ref o), (.ref ca), (.int (0 : Int32)), (.int cs.length.toInt32), .null] h0 [o] (fun v h => v = none ∧ ∃ b : Nat, SL Z h o b cs) := by
  refine Con.of (a0 := a0) #[.val (.ref o), .val (.ref ca), .val (.int (0 : Int32)), .val (.int cs.length.toInt32), .val .null, .unset] (plainFor_of_name pn_1) hE O (allS ⟨hz, E0.lt⟩ all0) (fun m => by first | (simp [entryFrame, mkF, argsToLocals, Value.category]; done) | rfl) ?_
  intro p e s m below meth c T0 hx hby hml hnm hret hlk hh W0
  have hn31 : cs.length < 2 ^ 31 := by omega
  have lt_ca : ca < h0.size := VA.lt
  have lt_o : o < h0.size := E0.lt
  refine g_aloadN (pc' := 1) W0.here hx (hb hby d_jdk_42_149_0) rfl rfl rfl ?_
  refine w_initO (pc' := 4) W0 hx (hw _ (List.mem_of_getElem? w_15)) (hw _ (List.mem_of_getElem? w_16)) (hw _ (List.mem_of_getElem? w_17)) (by rw [hml]; rfl) (hb hby d_jdk_42_149_1) (Nat.le_of_ble_eq_true rfl) (Nat.le_of_ble_eq_true rfl) rfl fun T7 W7 => ?_
  refine g_iloadN (pc' := 5) W7.here hx (hb hby d_jdk_42_149_4) rfl rfl ?_
  by_cases hc5_8 : cs.length.toInt32 = (0 : Int32)
  · refine g_ifN (pc' := 8) W7.here hx (hb hby d_jdk_42_149_5) rfl (teq hc5_8).2 ?_
    have e0 : cs = [] := own_nil hn31 hc5_8
    refine g_aloadN (pc' := 9) W7.here hx (hb hby d_jdk_42_149_8) rfl rfl rfl ?_
    refine w_ldcS (pc' := 11) (vs := []) (z := 0) W7 hx (hw _ (List.mem_of_getElem? w_153)) (own_atoms hw) (List.mem_of_getElem? (i := 1) rfl) ⟨fun _ q => (nomatch q), rfl⟩ (by decide) rfl (hb hby d_jdk_42_149_9) 0 (Nat.le_of_ble_eq_true rfl) (Nat.le_of_ble_eq_true rfl) (Nat.le_of_ble_eq_true rfl) (Nat.le_of_ble_eq_true rfl) rfl fun T9 h9 sa9 sb9 W9 K9 A9 C9 F9 V9 N9 => ?_
    have z_K9 : h0.size ≤ h9.size := K9.1
    obtain ⟨ne_o_sa9, ne_o_sb9⟩ := N9 o (List.mem_of_getElem? (i := 0) rfl)
    refine w_get (pc' := 14) W9 hx (hw _ (List.mem_of_getElem? w_32)) Via.refl F9 (hb hby d_jdk_42_149_11) rfl fun T10 W10 => ?_
    have c11 := (F2.keep K9 nin0)
    have c12 := (E0.keep K9)
    refine w_put (pc' := 17) W10 hx (hw _ (List.mem_of_getElem? w_32)) Via.refl c11 c12 (Or.inr ⟨(hw _ (List.mem_of_getElem? w_33)), rfl, hnm⟩) (hw _ (List.mem_of_getElem? w_5)) (ty := (.array .byte)) (by decide) rfl rfl (List.mem_of_getElem? (i := 0) rfl) (hb hby d_jdk_42_149_14) rfl fun T13 h13 W13 K13 R13 F13 A13 => ?_
    have c14 := (F1.keep K9 nin0)
    have z_K13 : h9.size ≤ h13.size := K13.1
    have c15 := (c14.other R13 (Or.inr (slot_ne (Or.inr (hw _ (List.mem_of_getElem? w_31))) (Or.inr (hw _ (List.mem_of_getElem? w_33))) (by decide) (t := .byte) (t' := (.array .byte)) (by decide) (by decide))))
    refine g_aloadN (pc' := 18) W13.here hx (hb hby d_jdk_42_149_17) rfl rfl rfl ?_
    refine w_ldcS (pc' := 20) (vs := []) (z := 0) W13 hx (hw _ (List.mem_of_getElem? w_153)) (own_atoms hw) (List.mem_of_getElem? (i := 1) rfl) ⟨fun _ q => (nomatch q), rfl⟩ (by decide) rfl (hb hby d_jdk_42_149_18) 0 (Nat.le_of_ble_eq_true rfl) (Nat.le_of_ble_eq_true rfl) (Nat.le_of_ble_eq_true rfl) (Nat.le_of_ble_eq_true rfl) rfl fun T16 h16 sa16 sb16 W16 K16 A16 C16 F16 V16 N16 => ?_
    have z_K16 : h13.size ≤ h16.size := K16.1
    obtain ⟨ne_o_sa16, ne_o_sb16⟩ := N16 o (List.mem_of_getElem? (i := 0) rfl)
    refine w_get (pc' := 23) W16 hx (hw _ (List.mem_of_getElem? w_30)) Via.refl C16 (hb hby d_jdk_42_149_20) rfl fun T17 W17 => ?_
    have c18 := (c15.keep K16 nin0)
    have c19 := (A13.keep K16)
    refine w_putN (pc' := 26) (v' := (.int (0 : Int32))) W17 hx (hw _ (List.mem_of_getElem? w_30)) Via.refl c18 c19 (Or.inr ⟨(hw _ (List.mem_of_getElem? w_31)), rfl, hnm⟩) (hw _ (List.mem_of_getElem? w_5)) (ty := .byte) (by decide) rfl rfl (List.mem_of_getElem? (i := 0) rfl) (hb hby d_jdk_42_149_23) rfl fun T20 h20 W20 K20 R20 F20 A20 => ?_
    have c21 := (F13.keep K16 nin0)
    have z_K20 : h16.size ≤ h20.size := K20.1
    have c22 := (c21.other R20 (Or.inr (slot_ne (Or.inr (hw _ (List.mem_of_getElem? w_33))) (Or.inr (hw _ (List.mem_of_getElem? w_31))) (by decide) (t := (.array .byte)) (t' := .byte) (by decide) (by decide))))
    have c23 := (((V9.keep K13 (ninS (Ne.symm ne_o_sb9) nin0)).keep K16 nin0).keep K20 (ninS (Ne.symm ne_o_sb9) nin0))
    refine w_retV W20 hx hh hlk hret (hb hby d_jdk_42_149_26) (Nat.le_of_ble_eq_true rfl) (Nat.le_of_ble_eq_true rfl) ?_
    refine ⟨rfl, sb9, A20, F20, c22, ?_, hch⟩
    rw [e0]; exact c23
  · refine g_ifY (pc' := 27) W7.here hx (hb hby d_jdk_42_149_5) rfl (feq hc5_8).2 ?_
    refine w_getS (pc' := 30) W7 hx (hw _ (List.mem_of_getElem? w_18)) Via.refl G.1 (hb hby d_jdk_42_149_27) rfl fun T24 W24 => ?_
    refine g_ifN (pc' := 33) W24.here hx (hb hby d_jdk_42_149_30) rfl (feq (show ¬ (cc = (0 : Int32)) from G.2.1)).1 ?_
    refine g_aloadN (pc' := 34) W24.here hx (hb hby d_jdk_42_149_33) rfl rfl rfl ?_
    refine g_iloadN (pc' := 35) W24.here hx (hb hby d_jdk_42_149_34) rfl rfl ?_
    refine g_iloadN (pc' := 36) W24.here hx (hb hby d_jdk_42_149_35) rfl rfl ?_
    refine w_callS (pc' := 39) (st := []) (y := (⟨"java/lang/StringUTF16", "compress", "([CII)[B"⟩ : MethodName)) W24 hx [(.ref ca), (.int (0 : Int32)), (.int cs.length.toInt32)] (hw _ (List.mem_of_getElem? w_19)) (hw _ (List.mem_of_getElem? w_20)) (hw _ (List.mem_of_getElem? w_21)) (hw _ (List.mem_of_getElem? w_22)) (by decide) (c_compress l Z a0 hw hE ca cs h0 W24.old hn hch VA) all0 (by rw [hml]; rfl) (lenOf pd_1 rfl) rfl (hb hby d_jdk_42_149_36) (Nat.le_of_ble_eq_true rfl) (Nat.le_of_ble_eq_true rfl) (Nat.le_of_ble_eq_true rfl) (Nat.le_of_ble_eq_true rfl) rfl fun v25 T25 h25 W25 K25 Q25 => ?_
    have z_K25 : h0.size ≤ h25.size := K25.1
    obtain ⟨ba26, rfl, gz26, V26⟩ := Q25
    have ne_ca_ba26 : ca ≠ ba26 := by omega
    have ne_o_ba26 : o ≠ ba26 := by omega
    have lt_ba26 : ba26 < h25.size := V26.lt
    refine g_astore (pc' := 41) (Ls' := #[.val (.ref o), .val (.ref ca), .val (.int (0 : Int32)), .val (.int cs.length.toInt32), .val .null, .val (.ref ba26)]) W25.here hx (hb hby d_jdk_42_149_39) rfl rfl rfl ?_
    refine g_aloadN (pc' := 42) W25.here hx (hb hby d_jdk_42_149_41) rfl rfl rfl ?_
    refine g_aload (pc' := 44) W25.here hx (hb hby d_jdk_42_149_42) rfl rfl rfl ?_
    refine g_iloadN (pc' := 45) W25.here hx (hb hby d_jdk_42_149_44) rfl rfl ?_
    refine w_callSp (pc' := 48) (st := [(.ref o)]) (y := (⟨"java/lang/StringUTF16", "coderFromArrayLen", "([BI)B"⟩ : MethodName)) W25 hx [(.ref ba26), (.int cs.length.toInt32)] (hw _ (List.mem_of_getElem? w_27)) (hw _ (List.mem_of_getElem? w_28)) (hw _ (List.mem_of_getElem? w_21)) (hw _ (List.mem_of_getElem? w_29)) (by decide) (c_coderFrom l Z a0 hw hE ba26 cs _ h25 W25.old V26 (by simp)) (by rw [hml]; rfl) (lenOf pd_2 rfl) rfl (hb hby d_jdk_42_149_45) (Nat.le_of_ble_eq_true rfl) (Nat.le_of_ble_eq_true rfl) rfl rfl (Nat.le_of_ble_eq_true rfl) (Nat.le_of_ble_eq_true rfl) rfl fun T27 W27 => ?_
    have c28 := (F1.keep K25 nin0)
    have c29 := (E0.keep K25)
    refine w_putN (pc' := 51) (v' := (.int (0 : Int32))) W27 hx (hw _ (List.mem_of_getElem? w_30)) Via.refl c28 c29 (Or.inr ⟨(hw _ (List.mem_of_getElem? w_31)), rfl, hnm⟩) (hw _ (List.mem_of_getElem? w_5)) (ty := .byte) (by decide) rfl rfl (List.mem_of_getElem? (i := 0) rfl) (hb hby d_jdk_42_149_48) rfl fun T30 h30 W30 K30 R30 F30 A30 => ?_
    have c31 := (F2.keep K25 nin0)
    have z_K30 : h25.size ≤ h30.size := K30.1
    have c32 := (c31.other R30 (Or.inr (slot_ne (Or.inr (hw _ (List.mem_of_getElem? w_33))) (Or.inr (hw _ (List.mem_of_getElem? w_31))) (by decide) (t := (.array .byte)) (t' := .byte) (by decide) (by decide))))
    refine g_aloadN (pc' := 52) W30.here hx (hb hby d_jdk_42_149_51) rfl rfl rfl ?_
    refine g_aload (pc' := 54) W30.here hx (hb hby d_jdk_42_149_52) rfl rfl rfl ?_
    refine w_put (pc' := 57) W30 hx (hw _ (List.mem_of_getElem? w_32)) Via.refl c32 A30 (Or.inr ⟨(hw _ (List.mem_of_getElem? w_33)), rfl, hnm⟩) (hw _ (List.mem_of_getElem? w_5)) (ty := (.array .byte)) (by decide) rfl rfl (List.mem_of_getElem? (i := 0) rfl) (hb hby d_jdk_42_149_54) rfl fun T33 h33 W33 K33 R33 F33 A33 => ?_
    have z_K33 : h30.size ≤ h33.size := K33.1
    have c34 := (F30.other R33 (Or.inr (slot_ne (Or.inr (hw _ (List.mem_of_getElem? w_31))) (Or.inr (hw _ (List.mem_of_getElem? w_33))) (by decide) (t := .byte) (t' := (.array .byte)) (by decide) (by decide))))
    have c35 := ((V26.keep K30 (ninS (Ne.symm ne_o_ba26) nin0)).keep K33 (ninS (Ne.symm ne_o_ba26) nin0))
    refine w_retV W33 hx hh hlk hret (hb hby d_jdk_42_149_57) (Nat.le_of_ble_eq_true rfl) (Nat.le_of_ble_eq_true rfl) ?_
    exact ⟨rfl, ba26, A33, c34, F33, c35, hch⟩
set_option maxRecDepth 65536 in
set_option maxHeartbeats 40000000 in
theorem c_strC (l : Launch) (Z : State) (a0 : Array Value) (hw : ∀ d ∈ tables_1, d.before a0 Z = true) (hE : EW Z a0 consts_1) (cc : Int32) (fm : Value) (o ca : Nat) (cs : List Int32) (h0 : Heap) (O : Ext Z.heap h0) (G : SEnv Z cc fm) (hn : cs.length ≤ 3) (hch : ∀ c ∈ cs, 0 ≤ c.toInt ∧ c.toInt ≤ 255) (VA : Ary Z h0 ca .char (cs.map Value.int)) (hz : Z.heap.size ≤ o) (E0 : Exa Z h0 o "java/lang/String") (u1 u2 : Value) (F1 : Fld Z h0 o "java/lang/String" "coder" "B" u1) (F2 : Fld Z h0 o "java/lang/String" "value" "[B" u2) (hoc : o ≠ ca)  :
    Con l Z consts_1 (⟨"java/lang/String", "<init>", "([C)V"⟩ : MethodName) jdk_42_method_3_code 2 (Option.none : Option Jvm.ClassFile.FieldType) ({ frames := 3, cells := 4, slots := 8, locals := 52 } : Room) #[(.ref o), (.ref ca)] h0 [o] (fun v h => v = none ∧ ∃ b : Nat, SL Z h o b cs) := by
  refine Con.of (a0 := a0) #[.val (.ref o), .val (.ref ca)] (plainFor_of_name pn_1) hE O (allS ⟨hz, E0.lt⟩ all0) (fun m => by first | (simp [entryFrame, mkF, argsToLocals, Value.category]; done) | rfl) ?_
  intro p e s m below meth c T0 hx hby hml hnm hret hlk hh W0
  have hn31 : cs.length < 2 ^ 31 := by omega
  have lt_ca : ca < h0.size := VA.lt
  have lt_o : o < h0.size := E0.lt
  refine g_aloadN (pc' := 1) W0.here hx (hb hby d_jdk_42_3_0) rfl rfl rfl ?_
  refine g_aloadN (pc' := 2) W0.here hx (hb hby d_jdk_42_3_1) rfl rfl rfl ?_
  refine g_iconst (0 : Int32) (pc' := 3) W0.here hx (hb hby d_jdk_42_3_2) rfl rfl ?_
  refine g_aloadN (pc' := 4) W0.here hx (hb hby d_jdk_42_3_3) rfl rfl rfl ?_
  refine w_len (pc' := 5) W0 hx VA (hb hby d_jdk_42_3_4) rfl ?_
  refine g_name (w := .int cs.length.toInt32) (congrArg Value.int (by rw [List.length_map])) ?_
  refine g_aconstNull (pc' := 6) W0.here hx (hb hby d_jdk_42_3_5) rfl ?_
  refine w_special (pc' := 9) (st := []) (y := (⟨"java/lang/String", "<init>", "([CIILjava/lang/Void;)V"⟩ : MethodName)) (a := o) W0 hx [(.ref ca), (.int (0 : Int32)), (.int cs.length.toInt32), .null] rfl (hw _ (List.mem_of_getElem? w_11)) (hw _ (List.mem_of_getElem? w_12)) (hw _ (List.mem_of_getElem? w_6)) (hw _ (List.mem_of_getElem? w_14)) (by decide) (c_str4 l Z a0 hw hE cc fm o ca cs h0 W0.old G hn hch VA (by have := O.1; omega) E0 _ _ F1 F2 hoc) (allS (List.mem_of_getElem? (i := 0) rfl) all0) (by rw [hml]; rfl) (lenOf pd_3 rfl) rfl (hb hby d_jdk_42_3_6) (Nat.le_of_ble_eq_true rfl) (Nat.le_of_ble_eq_true rfl) (Nat.le_of_ble_eq_true rfl) (Nat.le_of_ble_eq_true rfl) rfl fun v36 T36 h36 W36 K36 Q36 => ?_
  have z_K36 : h0.size ≤ h36.size := K36.1
  obtain ⟨rfl, sb37, S37⟩ := Q36
  have ES37 := S37.1
  have lt_sb37 : sb37 < h36.size := S37.ltb
  refine w_retV W36 hx hh hlk hret (hb hby d_jdk_42_3_9) (Nat.le_of_ble_eq_true rfl) (Nat.le_of_ble_eq_true rfl) ?_
  exact ⟨rfl, _, S37⟩
theorem own_n255 {c : Int32} (h : 0 ≤ c.toInt ∧ c.toInt ≤ 255) : ¬ (255 : Int32) < c := by
  rw [Int32.lt_iff_toInt_lt]; have : (255 : Int32).toInt = 255 := rfl; omega
set_option maxRecDepth 65536 in
set_option maxHeartbeats 40000000 in
theorem c_canEnc (l : Launch) (Z : State) (a0 : Array Value) (hw : ∀ d ∈ tables_1, d.before a0 Z = true) (hE : EW Z a0 consts_1) (cv : Int32) (h0 : Heap) (O : Ext Z.heap h0) (hc0 : 0 ≤ cv.toInt ∧ cv.toInt ≤ 255) :
    Con l Z consts_1 (⟨"java/lang/StringLatin1", "canEncode", "(C)Z"⟩ : MethodName) jdk_43_method_3_code 1 (Option.some Jvm.ClassFile.FieldType.boolean) ({ frames := 0, cells := 0, slots := 0, locals := 0 } : Room) #[(.int cv)] h0 [] (pureQ (some (.int 1)) h0) := by
  refine Con.of (a0 := a0) #[.val (.int cv)] (plainFor_of_name pn_2) hE O all0 (fun m => by first | (simp [entryFrame, mkF, argsToLocals, Value.category]; done) | rfl) ?_
  intro p e s m below meth c T0 hx hby hml hnm hret hlk hh W0
  refine g_iloadN (pc' := 1) W0.here hx (hb hby d_jdk_43_3_0) rfl rfl ?_
  refine g_sipush (255 : Int32) (pc' := 4) W0.here hx (hb hby d_jdk_43_3_1) rfl rfl ?_
  refine g_icmpN (pc' := 7) W0.here hx (hb hby d_jdk_43_3_4) rfl (flt (show ¬ ((255 : Int32) < cv) from (own_n255 hc0))).2.2.1 ?_
  refine g_iconst (1 : Int32) (pc' := 8) W0.here hx (hb hby d_jdk_43_3_7) rfl rfl ?_
  refine g_goto (pc' := 12) W0.here hx (hb hby d_jdk_43_3_8) rfl ?_
  refine w_retN (t := .boolean) W0 hx hh hlk hret (by simp) (hb hby d_jdk_43_3_12) (Nat.le_of_ble_eq_true rfl) (Nat.le_of_ble_eq_true rfl) ?_
  exact ⟨rfl, rfl⟩
set_option maxRecDepth 65536 in
set_option maxHeartbeats 40000000 in
theorem c_toBytesC (l : Launch) (Z : State) (a0 : Array Value) (hw : ∀ d ∈ tables_1, d.before a0 Z = true) (hE : EW Z a0 consts_1) (cv : Int32) (h0 : Heap) (O : Ext Z.heap h0)  :
    Con l Z consts_1 (⟨"java/lang/StringLatin1", "toBytes", "(C)[B"⟩ : MethodName) jdk_43_method_46_code 1 (Option.some (Jvm.ClassFile.FieldType.array Jvm.ClassFile.FieldType.byte)) ({ frames := 0, cells := 1, slots := 1, locals := 0 } : Room) #[(.int cv)] h0 [] (fun v h => ∃ ba : Nat, v = some (.ref ba) ∧ h0.size ≤ ba ∧ Ary Z h ba .byte ([cv].map latB)) := by
  refine Con.of (a0 := a0) #[.val (.int cv)] (plainFor_of_name pn_2) hE O all0 (fun m => by first | (simp [entryFrame, mkF, argsToLocals, Value.category]; done) | rfl) ?_
  intro p e s m below meth c T0 hx hby hml hnm hret hlk hh W0
  refine g_iconst (1 : Int32) (pc' := 1) W0.here hx (hb hby d_jdk_43_46_0) rfl rfl ?_
  refine w_newarr (pc' := 3) (cap := 1) W0 hx (hw _ (List.mem_of_getElem? w_23)) (hb hby d_jdk_43_46_1) (by decide) (Nat.le_refl _) (Nat.le_of_ble_eq_true rfl) (Nat.le_of_ble_eq_true rfl) (Nat.le_of_ble_eq_true rfl) rfl rfl fun T38 h38 b38 g38 W38 K38 V38 => ?_
  have z_K38 : h0.size ≤ h38.size := K38.1
  have lt_b38 : b38 < h38.size := W38.lt (List.mem_cons_self ..)
  have V38 : Ary Z h38 b38 .byte [(.int (0 : Int32))] := V38
  refine g_dup (pc' := 4) W38.here hx (hb hby d_jdk_43_46_3) rfl rfl ?_
  refine g_iconst (0 : Int32) (pc' := 5) W38.here hx (hb hby d_jdk_43_46_4) rfl rfl ?_
  refine g_iloadN (pc' := 6) W38.here hx (hb hby d_jdk_43_46_5) rfl rfl ?_
  refine g_i2b (pc' := 7) W38.here hx (hb hby d_jdk_43_46_6) rfl ?_
  refine w_bastore (pc' := 8) (x' := cv.toInt8.toInt32) W38 hx V38 (by decide) (Nat.lt_of_lt_of_le (Nat.lt_succ_self _) (Nat.le_of_ble_eq_true rfl)) (List.mem_of_getElem? (i := 0) rfl) (own_b8 cv) (hb hby d_jdk_43_46_7) rfl fun T39 h39 W39 K39 V39 => ?_
  have z_K39 : h38.size ≤ h39.size := K39.1
  have V39 : Ary Z h39 b38 .byte [(.int cv.toInt8.toInt32)] := V39
  refine w_retA W39 hx hh hlk hret rfl rfl (hb hby d_jdk_43_46_8) (Nat.le_of_ble_eq_true rfl) (Nat.le_of_ble_eq_true rfl) ?_
  exact ⟨_, rfl, by omega, V39⟩
set_option maxRecDepth 65536 in
set_option maxHeartbeats 40000000 in
theorem c_sinitBB (l : Launch) (Z : State) (a0 : Array Value) (hw : ∀ d ∈ tables_1, d.before a0 Z = true) (hE : EW Z a0 consts_1) (o bb : Nat) (cs : List Int32) (h0 : Heap) (O : Ext Z.heap h0) (hz : Z.heap.size ≤ o) (E0 : Exa Z h0 o "java/lang/String") (u1 u2 : Value) (F1 : Fld Z h0 o "java/lang/String" "coder" "B" u1) (F2 : Fld Z h0 o "java/lang/String" "value" "[B" u2) (VB : Ary Z h0 bb .byte (cs.map latB)) (hch : ∀ c ∈ cs, 0 ≤ c.toInt ∧ c.toInt ≤ 255) (hob : o ≠ bb) :
    Con l Z consts_1 (⟨"java/lang/String", "<init>", "([BB)V"⟩ : MethodName) jdk_42_method_151_code 3 (Option.none : Option Jvm.ClassFile.FieldType) ({ frames := 1, cells := 0, slots := 0, locals := 12 } : Room) #[(.ref o), (.ref bb), (.int (0 : Int32))] h0 [o] (fun v h => v = none ∧ SL Z h o bb cs) := by
  refine Con.of (a0 := a0) #[.val (.ref o), .val (.ref bb), .val (.int (0 : Int32))] (plainFor_of_name pn_1) hE O (allS ⟨hz, E0.lt⟩ all0) (fun m => by first | (simp [entryFrame, mkF, argsToLocals, Value.category]; done) | rfl) ?_
  intro p e s m below meth c T0 hx hby hml hnm hret hlk hh W0
  refine g_aloadN (pc' := 1) W0.here hx (hb hby d_jdk_42_151_0) rfl rfl rfl ?_
  refine w_initO (pc' := 4) W0 hx (hw _ (List.mem_of_getElem? w_15)) (hw _ (List.mem_of_getElem? w_16)) (hw _ (List.mem_of_getElem? w_17)) (by rw [hml]; rfl) (hb hby d_jdk_42_151_1) (Nat.le_of_ble_eq_true rfl) (Nat.le_of_ble_eq_true rfl) rfl fun T40 W40 => ?_
  refine g_aloadN (pc' := 5) W40.here hx (hb hby d_jdk_42_151_4) rfl rfl rfl ?_
  refine g_aloadN (pc' := 6) W40.here hx (hb hby d_jdk_42_151_5) rfl rfl rfl ?_
  refine w_put (pc' := 9) W40 hx (hw _ (List.mem_of_getElem? w_32)) Via.refl F2 E0 (Or.inr ⟨(hw _ (List.mem_of_getElem? w_33)), rfl, hnm⟩) (hw _ (List.mem_of_getElem? w_5)) (ty := (.array .byte)) (by decide) rfl rfl (List.mem_of_getElem? (i := 0) rfl) (hb hby d_jdk_42_151_6) rfl fun T41 h41 W41 K41 R41 F41 A41 => ?_
  have z_K41 : h0.size ≤ h41.size := K41.1
  have c42 := (F1.other R41 (Or.inr (slot_ne (Or.inr (hw _ (List.mem_of_getElem? w_31))) (Or.inr (hw _ (List.mem_of_getElem? w_33))) (by decide) (t := .byte) (t' := (.array .byte)) (by decide) (by decide))))
  refine g_aloadN (pc' := 10) W41.here hx (hb hby d_jdk_42_151_9) rfl rfl rfl ?_
  refine g_iloadN (pc' := 11) W41.here hx (hb hby d_jdk_42_151_10) rfl rfl ?_
  refine w_putN (pc' := 14) (v' := (.int (0 : Int32))) W41 hx (hw _ (List.mem_of_getElem? w_30)) Via.refl c42 A41 (Or.inr ⟨(hw _ (List.mem_of_getElem? w_31)), rfl, hnm⟩) (hw _ (List.mem_of_getElem? w_5)) (ty := .byte) (by decide) rfl rfl (List.mem_of_getElem? (i := 0) rfl) (hb hby d_jdk_42_151_11) rfl fun T43 h43 W43 K43 R43 F43 A43 => ?_
  have z_K43 : h41.size ≤ h43.size := K43.1
  have c44 := (F41.other R43 (Or.inr (slot_ne (Or.inr (hw _ (List.mem_of_getElem? w_33))) (Or.inr (hw _ (List.mem_of_getElem? w_31))) (by decide) (t := (.array .byte)) (t' := .byte) (by decide) (by decide))))
  have c45 := ((VB.keep K41 (ninS (Ne.symm hob) nin0)).keep K43 (ninS (Ne.symm hob) nin0))
  refine w_retV W43 hx hh hlk hret (hb hby d_jdk_42_151_14) (Nat.le_of_ble_eq_true rfl) (Nat.le_of_ble_eq_true rfl) ?_
  exact ⟨rfl, A43, F43, c44, c45, hch⟩
set_option maxRecDepth 65536 in
set_option maxHeartbeats 40000000 in
theorem c_valueOfC (l : Launch) (Z : State) (a0 : Array Value) (hw : ∀ d ∈ tables_1, d.before a0 Z = true) (hE : EW Z a0 consts_1) (cc : Int32) (fm : Value) (cv : Int32) (h0 : Heap) (O : Ext Z.heap h0) (G : SEnv Z cc fm) (hc0 : 0 ≤ cv.toInt ∧ cv.toInt ≤ 255) :
    Con l Z consts_1 (⟨"java/lang/String", "valueOf", "(C)Ljava/lang/String;"⟩ : MethodName) jdk_42_method_139_code 1 (Option.some (Jvm.ClassFile.FieldType.object "java/lang/String")) ({ frames := 2, cells := 2, slots := 5, locals := 27 } : Room) #[(.int cv)] h0 [] (fun v h => ∃ (a b : Nat), v = some (.ref a) ∧ h0.size ≤ a ∧ SL Z h a b [cv]) := by
  refine Con.of (a0 := a0) #[.val (.int cv)] (plainFor_of_name pn_1) hE O all0 (fun m => by first | (simp [entryFrame, mkF, argsToLocals, Value.category]; done) | rfl) ?_
  intro p e s m below meth c T0 hx hby hml hnm hret hlk hh W0
  refine w_getS (pc' := 3) W0 hx (hw _ (List.mem_of_getElem? w_18)) Via.refl G.1 (hb hby d_jdk_42_139_0) rfl fun T46 W46 => ?_
  refine g_ifN (pc' := 6) W46.here hx (hb hby d_jdk_42_139_3) rfl (feq (show ¬ (cc = (0 : Int32)) from G.2.1)).1 ?_
  refine g_iloadN (pc' := 7) W46.here hx (hb hby d_jdk_42_139_6) rfl rfl ?_
  refine w_callSp (pc' := 10) (st := []) (y := (⟨"java/lang/StringLatin1", "canEncode", "(C)Z"⟩ : MethodName)) W46 hx [(.int cv)] (hw _ (List.mem_of_getElem? w_142)) (hw _ (List.mem_of_getElem? w_143)) (hw _ (List.mem_of_getElem? w_144)) (hw _ (List.mem_of_getElem? w_145)) (by decide) (c_canEnc l Z a0 hw hE cv h0 W46.old hc0) (by rw [hml]; rfl) (lenOf pd_4 rfl) rfl (hb hby d_jdk_42_139_7) (Nat.le_of_ble_eq_true rfl) (Nat.le_of_ble_eq_true rfl) rfl rfl (Nat.le_of_ble_eq_true rfl) (Nat.le_of_ble_eq_true rfl) rfl fun T47 W47 => ?_
  refine g_ifN (pc' := 13) W47.here hx (hb hby d_jdk_42_139_10) rfl (feq (show ¬ ((1 : Int32) = (0 : Int32)) from (by decide))).1 ?_
  refine w_new (pc' := 16) W47 hx (hw _ (List.mem_of_getElem? w_146)) (hw _ (List.mem_of_getElem? w_5)) (hw _ (List.mem_of_getElem? w_6)) (hb hby d_jdk_42_139_13) (Nat.le_of_ble_eq_true rfl) (Nat.le_of_ble_eq_true rfl) rfl fun T48 h48 b48 g48 W48 K48 A48 D48 => ?_
  have z_K48 : h0.size ≤ h48.size := K48.1
  have lt_b48 : b48 < h48.size := W48.lt (List.mem_cons_self ..)
  have F48_coder : Fld Z h48 b48 "java/lang/String" "coder" "B" (.int (0 : Int32)) := D48 (Or.inr (hw _ (List.mem_of_getElem? w_31))) (ty := .byte) (by decide)
  have F48_value : Fld Z h48 b48 "java/lang/String" "value" "[B" .null := D48 (Or.inr (hw _ (List.mem_of_getElem? w_33))) (ty := (.array .byte)) (by decide)
  refine g_dup (pc' := 17) W48.here hx (hb hby d_jdk_42_139_16) rfl rfl ?_
  refine g_iloadN (pc' := 18) W48.here hx (hb hby d_jdk_42_139_17) rfl rfl ?_
  refine w_callS (pc' := 21) (st := [(.ref b48), (.ref b48)]) (y := (⟨"java/lang/StringLatin1", "toBytes", "(C)[B"⟩ : MethodName)) W48 hx [(.int cv)] (hw _ (List.mem_of_getElem? w_147)) (hw _ (List.mem_of_getElem? w_148)) (hw _ (List.mem_of_getElem? w_144)) (hw _ (List.mem_of_getElem? w_149)) (by decide) (c_toBytesC l Z a0 hw hE cv h48 W48.old) all0 (by rw [hml]; rfl) (lenOf pd_5 rfl) rfl (hb hby d_jdk_42_139_18) (Nat.le_of_ble_eq_true rfl) (Nat.le_of_ble_eq_true rfl) (Nat.le_of_ble_eq_true rfl) (Nat.le_of_ble_eq_true rfl) rfl fun v49 T49 h49 W49 K49 Q49 => ?_
  have z_K49 : h48.size ≤ h49.size := K49.1
  obtain ⟨ba50, rfl, gz50, V50⟩ := Q49
  have ne_b48_ba50 : b48 ≠ ba50 := by omega
  have lt_ba50 : ba50 < h49.size := V50.lt
  refine g_iconst (0 : Int32) (pc' := 22) W49.here hx (hb hby d_jdk_42_139_21) rfl rfl ?_
  have c51 := (A48.keep K49)
  have c52 := (F48_coder.keep K49 nin0)
  have c53 := (F48_value.keep K49 nin0)
  refine w_special (pc' := 25) (st := [(.ref b48)]) (y := (⟨"java/lang/String", "<init>", "([BB)V"⟩ : MethodName)) (a := b48) W49 hx [(.ref ba50), (.int (0 : Int32))] rfl (hw _ (List.mem_of_getElem? w_150)) (hw _ (List.mem_of_getElem? w_151)) (hw _ (List.mem_of_getElem? w_6)) (hw _ (List.mem_of_getElem? w_152)) (by decide) (c_sinitBB l Z a0 hw hE b48 ba50 [cv] h49 W49.old (by have := O.1; omega) c51 _ _ c52 c53 V50 (own_allS hc0 own_all0) ne_b48_ba50) (allS (List.mem_of_getElem? (i := 0) rfl) all0) (by rw [hml]; rfl) (lenOf pd_6 rfl) rfl (hb hby d_jdk_42_139_22) (Nat.le_of_ble_eq_true rfl) (Nat.le_of_ble_eq_true rfl) (Nat.le_of_ble_eq_true rfl) (Nat.le_of_ble_eq_true rfl) rfl fun v54 T54 h54 W54 K54 Q54 => ?_
  have z_K54 : h49.size ≤ h54.size := K54.1
  obtain ⟨rfl, S55⟩ := Q54
  have ES55 := S55.1
  refine w_retA W54 hx hh hlk hret rfl rfl (hb hby d_jdk_42_139_25) (Nat.le_of_ble_eq_true rfl) (Nat.le_of_ble_eq_true rfl) ?_
  exact ⟨_, _, rfl, by omega, S55⟩
theorem own_byte (x : Int32) : 0 ≤ ((x &&& (255 : Int32)).toUInt32.toUInt16.toUInt32.toInt32).toInt ∧ ((x &&& (255 : Int32)).toUInt32.toUInt16.toUInt32.toInt32).toInt ≤ 255 := by
  rw [i2c_mask, c_mask x 255 8 (by decide) (by decide)]
  omega
theorem own_c16 {c : Int32} (h : 0 ≤ c.toInt ∧ c.toInt ≤ 255) : 0 ≤ c.toInt ∧ c.toInt < 65536 := by omega
theorem own_fitsO {C : String} {v : Value} (h : v.isRef = true) : fits (.object C) v = true := by cases v <;> simp [Value.isRef, fits] at h ⊢
theorem own_narO {C : String} {v : Value} (h : v.isRef = true) : narrow (.object C) v = v := by cases v <;> first | rfl | simp [Value.isRef] at h
section OwnSite
variable {p : Program} {l : Launch} {e : Env} {R : Room} {s : State} {m : MethodId} {args : Array Value} {below : List Frame} {meth : Method} {c : Code} {T : State} {Z : State} {a0 : Array Value} {h : Heap} {EL : List (String × Nat)} {own : String} {cells slots : Nat} {ws nw : List Addr} {P : Outcome → State → Prop} {pc pc' : Nat} {Ls : Array Slot} {st : List Value}
theorem Con.ofN {wl : List Cond} {y : MethodName} {bytes : ByteArray} {maxL : Nat} {ret : Option FieldType} {rm : Room} {as' : Array Value} {h0 : Heap} {Q : Option Value → Heap → Prop} (Ls : Array Slot)
    (hy : plainFor y = true) (hE : EW Z a0 EL) (O : Ext Z.heap h0) (hws : ∀ x : Nat, x ∈ ws → Z.heap.size ≤ x ∧ x < h0.size) (hent : ∀ m, entryFrame m as' maxL = mkF m 0 Ls [])
    (body : ∀ (p : Program) (e : Env) (s : State) (m : MethodId) (below : List Frame) (meth : Method) (c : Code) (T : State), p.tables.exec = Jvm.exec → c.code = bytes → c.maxLocals = maxL → meth.name = y.name → meth.sig.returnType = ret → meth.locks = false → s.heap = h0 → Z.methodNamed? y = some m →
      Wk p l e rm s m as' below meth c Z EL y.cls ws [] T h0 0 0 → Gets p.tables e below (Post s Z EL rm h0 ws Q) T (mkF m 0 Ls [])) :
    ConL wl l Z EL y bytes maxL ret rm as' h0 ws Q := by
  refine MetFree.of_bodySF hy hisR ?_
  intro p e s m args below meth c s₁ Bd hml0 hP hK
  obtain ⟨rfl, hZ, hh, hC, hS⟩ := hP
  have hh' : s.heap = h0 := hh
  have hl : meth.locks = false := Bd.notSynchronized
  have e0 : s₁.heap = h0 := by rw [← hh, Bd.state]; rfl
  have X0 : Stand p l e rm s m args below meth c s₁ [] 0 0 := Stand.of_body Bd
  have W : Wk p l e rm s m args below meth c Z EL y.cls ws [] s₁ h0 0 0 :=
    ⟨s.vm, h0.size, [], a0, X0, e0, (State.WarmedH.refl s).since _, Nat.le_refl _, hZ, findClass_of_methodNamed Bd.named, hE, by rw [hh']; exact CHr.refl hC, Fr.nil _, O, by rw [hh']; exact Keep.refl _ _, fun x hx => ⟨(hws x hx).1, (hws x hx).2, hS x hx⟩, fun x hx => (nomatch hx)⟩
  obtain ⟨t, o, h1, h2, h3, h4⟩ := body p e s m below meth c s₁ Bd.exec Bd.bytes hml0 (name_of_methodNamed Bd.named Bd.method).1 Bd.returns hl hh' ((State.methodNamed?_setVm (s := Z) (vm' := s.vm) hZ.alike y).symm.trans Bd.named) W
  exact ⟨t, o, by rw [hent m]; exact h1, h2, h3, h4⟩
theorem w_site (W : Wk p l e R s m args below meth c Z EL own ws nw T h cells slots) (hx : p.tables.exec = Jvm.exec) {y : MethodName} {index : Nat} {sh : Lambda.Shape} (w : (Cond.lambdaSite y pc index sh).before a0 Z = true) (hM : Z.methodNamed? y = some m) (hcap : sh.captured = []) (hsz : Ls.size = c.maxLocals)
    (hd : decode c.code pc = .ok (.invokedynamic index, 5)) (hlo : (st.map fun v => v.category).sum + 3072 ≤ R.locals) (hp : pc + 5 = pc') (k : ∀ a : Nat, Gets p.tables e below P T (mkF m pc' Ls (.ref a :: st))) : Gets p.tables e below P T (mkF m pc Ls st) := by
  subst hp
  obtain ⟨vm0, k0, locs, b0, X, eT, hS, hk, hZ, -⟩ := W
  obtain ⟨cK, one, hat⟩ := Cond.lambdaSite_spec w
  obtain ⟨mD, kD, cfD, i0, p0, lk, hmD, hkD, -, -, -, hfind, -, -, hl⟩ := State.lambdaAt?_spec hat
  cases hM.symm.trans hmD
  rcases hl with ⟨a, cell, rfl, -⟩ | ⟨-, -, hne⟩
  · obtain ⟨k', hk', he'⟩ := hZ.alike.2.2 _ _ hkD
    have hw : e.platform.lambdaLinkWords = 3072 := by rw [X.admits.platform]
    refine (k a).by fun t q => ?_
    exact X.lambdaConstant hx (g := mkF m pc Ls st) rfl hsz hd hk' (by rw [he']; exact hfind) (by rw [hw]; show 2 * 0 + (st.map fun v => v.category).sum + 3072 ≤ R.locals; omega) q
  · exact absurd hcap hne
end OwnSite

set_option maxRecDepth 65536 in
set_option maxHeartbeats 40000000 in
theorem c_draw (l : Launch) (Z : State) (a0 : Array Value) (hw : ∀ d ∈ tables_1, d.before a0 Z = true) (hE : EW Z a0 consts_1) (cc : Int32) (fm : Value) (xc xl : Int32) (h0 : Heap) (O : Ext Z.heap h0) (G : SEnv Z cc fm)  :
    Con l Z consts_1 (⟨"com/example/despatch/despatch/messaging/MailboxQueryOfPinLaw", "draw", "(II)Ljava/lang/String;"⟩ : MethodName) method_2_code 6 (Option.some (Jvm.ClassFile.FieldType.object "java/lang/String")) ({ frames := 4, cells := 6, slots := 15, locals := 66 } : Room) #[(.int xc), (.int xl)] h0 [] (fun v h => ∃ a : Nat, v = some (.ref a) ∧ Exa Z h a "java/lang/String") := by
  refine Con.of (a0 := a0) #[.val (.int xc), .val (.int xl), .unset, .unset, .unset, .unset] (plainFor_of_name pn_3) hE O all0 (fun m => by first | (simp [entryFrame, mkF, argsToLocals, Value.category]; done) | rfl) ?_
  intro p e s m below meth c T0 hx hby hml hnm hret hlk hh W0
  refine g_iloadN (pc' := 1) W0.here hx (hb hby d_method_2_0) rfl rfl ?_
  refine g_sipush (255 : Int32) (pc' := 4) W0.here hx (hb hby d_method_2_1) rfl rfl ?_
  refine g_iand (pc' := 5) W0.here hx (hb hby d_method_2_4) rfl ?_
  refine g_i2c (pc' := 6) W0.here hx (hb hby d_method_2_5) rfl ?_
  obtain ⟨ca0, hca0⟩ : ∃ zz_ : Int32, zz_ = ((xc &&& (255 : Int32)).toUInt32.toUInt16.toUInt32.toInt32) := ⟨_, rfl⟩
  refine g_name (congrArg Value.int hca0) ?_
  have l_ca0 : 0 ≤ ca0.toInt ∧ ca0.toInt ≤ 255 := by rw [hca0]; exact own_byte _
  refine g_istoreN (pc' := 7) (Ls' := #[.val (.int xc), .val (.int xl), .val (.int ca0), .unset, .unset, .unset]) W0.here hx (hb hby d_method_2_6) rfl rfl ?_
  refine g_iloadN (pc' := 8) W0.here hx (hb hby d_method_2_7) rfl rfl ?_
  refine g_bipush (8 : Int32) (pc' := 10) W0.here hx (hb hby d_method_2_8) rfl rfl ?_
  refine g_iushr (pc' := 11) W0.here hx (hb hby d_method_2_10) rfl ?_
  refine g_sipush (255 : Int32) (pc' := 14) W0.here hx (hb hby d_method_2_11) rfl rfl ?_
  refine g_iand (pc' := 15) W0.here hx (hb hby d_method_2_14) rfl ?_
  refine g_i2c (pc' := 16) W0.here hx (hb hby d_method_2_15) rfl ?_
  obtain ⟨ca1, hca1⟩ : ∃ zz_ : Int32, zz_ = ((((xc.toUInt32 >>> ((8 : Int32) &&& 31).toUInt32).toInt32) &&& (255 : Int32)).toUInt32.toUInt16.toUInt32.toInt32) := ⟨_, rfl⟩
  refine g_name (congrArg Value.int hca1) ?_
  have l_ca1 : 0 ≤ ca1.toInt ∧ ca1.toInt ≤ 255 := by rw [hca1]; exact own_byte _
  refine g_istoreN (pc' := 17) (Ls' := #[.val (.int xc), .val (.int xl), .val (.int ca0), .val (.int ca1), .unset, .unset]) W0.here hx (hb hby d_method_2_16) rfl rfl ?_
  refine g_iloadN (pc' := 18) W0.here hx (hb hby d_method_2_17) rfl rfl ?_
  refine g_bipush (16 : Int32) (pc' := 20) W0.here hx (hb hby d_method_2_18) rfl rfl ?_
  refine g_iushr (pc' := 21) W0.here hx (hb hby d_method_2_20) rfl ?_
  refine g_sipush (255 : Int32) (pc' := 24) W0.here hx (hb hby d_method_2_21) rfl rfl ?_
  refine g_iand (pc' := 25) W0.here hx (hb hby d_method_2_24) rfl ?_
  refine g_i2c (pc' := 26) W0.here hx (hb hby d_method_2_25) rfl ?_
  obtain ⟨ca2, hca2⟩ : ∃ zz_ : Int32, zz_ = ((((xc.toUInt32 >>> ((16 : Int32) &&& 31).toUInt32).toInt32) &&& (255 : Int32)).toUInt32.toUInt16.toUInt32.toInt32) := ⟨_, rfl⟩
  refine g_name (congrArg Value.int hca2) ?_
  have l_ca2 : 0 ≤ ca2.toInt ∧ ca2.toInt ≤ 255 := by rw [hca2]; exact own_byte _
  refine g_istore (pc' := 28) (Ls' := #[.val (.int xc), .val (.int xl), .val (.int ca0), .val (.int ca1), .val (.int ca2), .unset]) W0.here hx (hb hby d_method_2_26) rfl rfl ?_
  refine g_iloadN (pc' := 29) W0.here hx (hb hby d_method_2_28) rfl rfl ?_
  refine g_iconst (3 : Int32) (pc' := 30) W0.here hx (hb hby d_method_2_29) rfl rfl ?_
  refine g_iand (pc' := 31) W0.here hx (hb hby d_method_2_30) rfl ?_
  refine g_istore (pc' := 33) (Ls' := #[.val (.int xc), .val (.int xl), .val (.int ca0), .val (.int ca1), .val (.int ca2), .val (.int (xl &&& (3 : Int32)))]) W0.here hx (hb hby d_method_2_31) rfl rfl ?_
  refine g_iload (pc' := 35) W0.here hx (hb hby d_method_2_33) rfl rfl ?_
  by_cases hc35_56 : (xl &&& (3 : Int32)) = (0 : Int32)
  · refine g_ifN (pc' := 38) W0.here hx (hb hby d_method_2_35) rfl (teq hc35_56).2 ?_
    refine w_new (pc' := 41) W0 hx (hw _ (List.mem_of_getElem? w_4)) (hw _ (List.mem_of_getElem? w_5)) (hw _ (List.mem_of_getElem? w_6)) (hb hby d_method_2_38) (Nat.le_of_ble_eq_true rfl) (Nat.le_of_ble_eq_true rfl) rfl fun T57 h57 b57 g57 W57 K57 A57 D57 => ?_
    have z_K57 : h0.size ≤ h57.size := K57.1
    have lt_b57 : b57 < h57.size := W57.lt (List.mem_cons_self ..)
    have F57_coder : Fld Z h57 b57 "java/lang/String" "coder" "B" (.int (0 : Int32)) := D57 (Or.inr (hw _ (List.mem_of_getElem? w_31))) (ty := .byte) (by decide)
    have F57_value : Fld Z h57 b57 "java/lang/String" "value" "[B" .null := D57 (Or.inr (hw _ (List.mem_of_getElem? w_33))) (ty := (.array .byte)) (by decide)
    refine g_dup (pc' := 42) W57.here hx (hb hby d_method_2_41) rfl rfl ?_
    refine g_iconst (0 : Int32) (pc' := 43) W57.here hx (hb hby d_method_2_42) rfl rfl ?_
    refine w_newarr (pc' := 45) (cap := 0) W57 hx (hw _ (List.mem_of_getElem? w_7)) (hb hby d_method_2_43) (by decide) (Nat.le_refl _) (Nat.le_of_ble_eq_true rfl) (Nat.le_of_ble_eq_true rfl) (Nat.le_of_ble_eq_true rfl) rfl rfl fun T58 h58 b58 g58 W58 K58 V58 => ?_
    have z_K58 : h57.size ≤ h58.size := K58.1
    have ne_b57_b58 : b57 ≠ b58 := by omega
    have lt_b58 : b58 < h58.size := W58.lt (List.mem_cons_self ..)
    have V58 : Ary Z h58 b58 .char [] := V58
    have c59 := (A57.keep K58)
    have c60 := (F57_coder.keep K58 nin0)
    have c61 := (F57_value.keep K58 nin0)
    refine w_special (pc' := 48) (st := [(.ref b57)]) (y := (⟨"java/lang/String", "<init>", "([C)V"⟩ : MethodName)) (a := b57) W58 hx [(.ref b58)] rfl (hw _ (List.mem_of_getElem? w_8)) (hw _ (List.mem_of_getElem? w_9)) (hw _ (List.mem_of_getElem? w_6)) (hw _ (List.mem_of_getElem? w_10)) (by decide) (c_strC l Z a0 hw hE cc fm b57 b58 [] h58 W58.old G (Nat.le_of_ble_eq_true rfl) own_all0 V58 (by have := O.1; omega) c59 _ _ c60 c61 ne_b57_b58) (allS (List.mem_of_getElem? (i := 1) rfl) all0) (by rw [hml]; rfl) (lenOf pd_7 rfl) rfl (hb hby d_method_2_45) (Nat.le_of_ble_eq_true rfl) (Nat.le_of_ble_eq_true rfl) (Nat.le_of_ble_eq_true rfl) (Nat.le_of_ble_eq_true rfl) rfl fun v62 T62 h62 W62 K62 Q62 => ?_
    have z_K62 : h58.size ≤ h62.size := K62.1
    obtain ⟨rfl, sb63, S63⟩ := Q62
    have ES63 := S63.1
    have lt_sb63 : sb63 < h62.size := S63.ltb
    refine w_retA W62 hx hh hlk hret rfl rfl (hb hby d_method_2_48) (Nat.le_of_ble_eq_true rfl) (Nat.le_of_ble_eq_true rfl) ?_
    exact ⟨_, rfl, ES63⟩
  · refine g_ifY (pc' := 49) W0.here hx (hb hby d_method_2_35) rfl (feq hc35_56).2 ?_
    refine g_iload (pc' := 51) W0.here hx (hb hby d_method_2_49) rfl rfl ?_
    refine g_iconst (1 : Int32) (pc' := 52) W0.here hx (hb hby d_method_2_51) rfl rfl ?_
    by_cases hc52_64 : (xl &&& (3 : Int32)) = (1 : Int32)
    · refine g_icmpN (pc' := 55) W0.here hx (hb hby d_method_2_52) rfl (teq hc52_64).2 ?_
      refine g_iloadN (pc' := 56) W0.here hx (hb hby d_method_2_55) rfl rfl ?_
      refine w_callS (pc' := 59) (st := []) (y := (⟨"java/lang/String", "valueOf", "(C)Ljava/lang/String;"⟩ : MethodName)) W0 hx [(.int ca0)] (hw _ (List.mem_of_getElem? w_139)) (hw _ (List.mem_of_getElem? w_140)) (hw _ (List.mem_of_getElem? w_6)) (hw _ (List.mem_of_getElem? w_141)) (by decide) (c_valueOfC l Z a0 hw hE cc fm ca0 h0 W0.old G l_ca0) all0 (by rw [hml]; rfl) (lenOf pd_8 rfl) rfl (hb hby d_method_2_56) (Nat.le_of_ble_eq_true rfl) (Nat.le_of_ble_eq_true rfl) (Nat.le_of_ble_eq_true rfl) (Nat.le_of_ble_eq_true rfl) rfl fun v65 T65 h65 W65 K65 Q65 => ?_
      have z_K65 : h0.size ≤ h65.size := K65.1
      obtain ⟨va66, vb66, rfl, gz66, S66⟩ := Q65
      have ES66 := S66.1
      have lt_va66 : va66 < h65.size := S66.lt
      have lt_vb66 : vb66 < h65.size := S66.ltb
      refine w_retA W65 hx hh hlk hret rfl rfl (hb hby d_method_2_59) (Nat.le_of_ble_eq_true rfl) (Nat.le_of_ble_eq_true rfl) ?_
      exact ⟨_, rfl, ES66⟩
    · refine g_icmpY (pc' := 60) W0.here hx (hb hby d_method_2_52) rfl (feq hc52_64).2 ?_
      refine g_iload (pc' := 62) W0.here hx (hb hby d_method_2_60) rfl rfl ?_
      refine g_iconst (2 : Int32) (pc' := 63) W0.here hx (hb hby d_method_2_62) rfl rfl ?_
      by_cases hc63_67 : (xl &&& (3 : Int32)) = (2 : Int32)
      · refine g_icmpN (pc' := 66) W0.here hx (hb hby d_method_2_63) rfl (teq hc63_67).2 ?_
        refine w_new (pc' := 69) W0 hx (hw _ (List.mem_of_getElem? w_4)) (hw _ (List.mem_of_getElem? w_5)) (hw _ (List.mem_of_getElem? w_6)) (hb hby d_method_2_66) (Nat.le_of_ble_eq_true rfl) (Nat.le_of_ble_eq_true rfl) rfl fun T68 h68 b68 g68 W68 K68 A68 D68 => ?_
        have z_K68 : h0.size ≤ h68.size := K68.1
        have lt_b68 : b68 < h68.size := W68.lt (List.mem_cons_self ..)
        have F68_coder : Fld Z h68 b68 "java/lang/String" "coder" "B" (.int (0 : Int32)) := D68 (Or.inr (hw _ (List.mem_of_getElem? w_31))) (ty := .byte) (by decide)
        have F68_value : Fld Z h68 b68 "java/lang/String" "value" "[B" .null := D68 (Or.inr (hw _ (List.mem_of_getElem? w_33))) (ty := (.array .byte)) (by decide)
        refine g_dup (pc' := 70) W68.here hx (hb hby d_method_2_69) rfl rfl ?_
        refine g_iconst (2 : Int32) (pc' := 71) W68.here hx (hb hby d_method_2_70) rfl rfl ?_
        refine w_newarr (pc' := 73) (cap := 2) W68 hx (hw _ (List.mem_of_getElem? w_7)) (hb hby d_method_2_71) (by decide) (Nat.le_refl _) (Nat.le_of_ble_eq_true rfl) (Nat.le_of_ble_eq_true rfl) (Nat.le_of_ble_eq_true rfl) rfl rfl fun T69 h69 b69 g69 W69 K69 V69 => ?_
        have z_K69 : h68.size ≤ h69.size := K69.1
        have ne_b68_b69 : b68 ≠ b69 := by omega
        have lt_b69 : b69 < h69.size := W69.lt (List.mem_cons_self ..)
        have V69 : Ary Z h69 b69 .char [(.int (0 : Int32)), (.int (0 : Int32))] := V69
        refine g_dup (pc' := 74) W69.here hx (hb hby d_method_2_73) rfl rfl ?_
        refine g_iconst (0 : Int32) (pc' := 75) W69.here hx (hb hby d_method_2_74) rfl rfl ?_
        refine g_iloadN (pc' := 76) W69.here hx (hb hby d_method_2_75) rfl rfl ?_
        refine w_castore (pc' := 77) (x' := ca0) W69 hx V69 (by decide) (Nat.lt_of_lt_of_le (Nat.lt_succ_self _) (Nat.le_of_ble_eq_true rfl)) (List.mem_of_getElem? (i := 0) rfl) (own_nchar (own_c16 l_ca0)) (hb hby d_method_2_76) rfl fun T70 h70 W70 K70 V70 => ?_
        have z_K70 : h69.size ≤ h70.size := K70.1
        have V70 : Ary Z h70 b69 .char [(.int ca0), (.int (0 : Int32))] := V70
        refine g_dup (pc' := 78) W70.here hx (hb hby d_method_2_77) rfl rfl ?_
        refine g_iconst (1 : Int32) (pc' := 79) W70.here hx (hb hby d_method_2_78) rfl rfl ?_
        refine g_iloadN (pc' := 80) W70.here hx (hb hby d_method_2_79) rfl rfl ?_
        refine w_castore (pc' := 81) (x' := ca1) W70 hx V70 (by decide) (Nat.lt_of_lt_of_le (Nat.lt_succ_self _) (Nat.le_of_ble_eq_true rfl)) (List.mem_of_getElem? (i := 0) rfl) (own_nchar (own_c16 l_ca1)) (hb hby d_method_2_80) rfl fun T71 h71 W71 K71 V71 => ?_
        have z_K71 : h70.size ≤ h71.size := K71.1
        have V71 : Ary Z h71 b69 .char [(.int ca0), (.int ca1)] := V71
        have c72 := (((A68.keep K69).keep K70).keep K71)
        have c73 := (((F68_coder.keep K69 nin0).keep K70 (ninS ne_b68_b69 nin0)).keep K71 (ninS ne_b68_b69 nin0))
        have c74 := (((F68_value.keep K69 nin0).keep K70 (ninS ne_b68_b69 nin0)).keep K71 (ninS ne_b68_b69 nin0))
        refine w_special (pc' := 84) (st := [(.ref b68)]) (y := (⟨"java/lang/String", "<init>", "([C)V"⟩ : MethodName)) (a := b68) W71 hx [(.ref b69)] rfl (hw _ (List.mem_of_getElem? w_8)) (hw _ (List.mem_of_getElem? w_9)) (hw _ (List.mem_of_getElem? w_6)) (hw _ (List.mem_of_getElem? w_10)) (by decide) (c_strC l Z a0 hw hE cc fm b68 b69 [ca0, ca1] h71 W71.old G (Nat.le_of_ble_eq_true rfl) (own_allS l_ca0 (own_allS l_ca1 own_all0)) V71 (by have := O.1; omega) c72 _ _ c73 c74 ne_b68_b69) (allS (List.mem_of_getElem? (i := 1) rfl) all0) (by rw [hml]; rfl) (lenOf pd_7 rfl) rfl (hb hby d_method_2_81) (Nat.le_of_ble_eq_true rfl) (Nat.le_of_ble_eq_true rfl) (Nat.le_of_ble_eq_true rfl) (Nat.le_of_ble_eq_true rfl) rfl fun v75 T75 h75 W75 K75 Q75 => ?_
        have z_K75 : h71.size ≤ h75.size := K75.1
        obtain ⟨rfl, sb76, S76⟩ := Q75
        have ES76 := S76.1
        have lt_sb76 : sb76 < h75.size := S76.ltb
        refine w_retA W75 hx hh hlk hret rfl rfl (hb hby d_method_2_84) (Nat.le_of_ble_eq_true rfl) (Nat.le_of_ble_eq_true rfl) ?_
        exact ⟨_, rfl, ES76⟩
      · refine g_icmpY (pc' := 85) W0.here hx (hb hby d_method_2_63) rfl (feq hc63_67).2 ?_
        refine w_new (pc' := 88) W0 hx (hw _ (List.mem_of_getElem? w_4)) (hw _ (List.mem_of_getElem? w_5)) (hw _ (List.mem_of_getElem? w_6)) (hb hby d_method_2_85) (Nat.le_of_ble_eq_true rfl) (Nat.le_of_ble_eq_true rfl) rfl fun T77 h77 b77 g77 W77 K77 A77 D77 => ?_
        have z_K77 : h0.size ≤ h77.size := K77.1
        have lt_b77 : b77 < h77.size := W77.lt (List.mem_cons_self ..)
        have F77_coder : Fld Z h77 b77 "java/lang/String" "coder" "B" (.int (0 : Int32)) := D77 (Or.inr (hw _ (List.mem_of_getElem? w_31))) (ty := .byte) (by decide)
        have F77_value : Fld Z h77 b77 "java/lang/String" "value" "[B" .null := D77 (Or.inr (hw _ (List.mem_of_getElem? w_33))) (ty := (.array .byte)) (by decide)
        refine g_dup (pc' := 89) W77.here hx (hb hby d_method_2_88) rfl rfl ?_
        refine g_iconst (3 : Int32) (pc' := 90) W77.here hx (hb hby d_method_2_89) rfl rfl ?_
        refine w_newarr (pc' := 92) (cap := 3) W77 hx (hw _ (List.mem_of_getElem? w_7)) (hb hby d_method_2_90) (by decide) (Nat.le_refl _) (Nat.le_of_ble_eq_true rfl) (Nat.le_of_ble_eq_true rfl) (Nat.le_of_ble_eq_true rfl) rfl rfl fun T78 h78 b78 g78 W78 K78 V78 => ?_
        have z_K78 : h77.size ≤ h78.size := K78.1
        have ne_b77_b78 : b77 ≠ b78 := by omega
        have lt_b78 : b78 < h78.size := W78.lt (List.mem_cons_self ..)
        have V78 : Ary Z h78 b78 .char [(.int (0 : Int32)), (.int (0 : Int32)), (.int (0 : Int32))] := V78
        refine g_dup (pc' := 93) W78.here hx (hb hby d_method_2_92) rfl rfl ?_
        refine g_iconst (0 : Int32) (pc' := 94) W78.here hx (hb hby d_method_2_93) rfl rfl ?_
        refine g_iloadN (pc' := 95) W78.here hx (hb hby d_method_2_94) rfl rfl ?_
        refine w_castore (pc' := 96) (x' := ca0) W78 hx V78 (by decide) (Nat.lt_of_lt_of_le (Nat.lt_succ_self _) (Nat.le_of_ble_eq_true rfl)) (List.mem_of_getElem? (i := 0) rfl) (own_nchar (own_c16 l_ca0)) (hb hby d_method_2_95) rfl fun T79 h79 W79 K79 V79 => ?_
        have z_K79 : h78.size ≤ h79.size := K79.1
        have V79 : Ary Z h79 b78 .char [(.int ca0), (.int (0 : Int32)), (.int (0 : Int32))] := V79
        refine g_dup (pc' := 97) W79.here hx (hb hby d_method_2_96) rfl rfl ?_
        refine g_iconst (1 : Int32) (pc' := 98) W79.here hx (hb hby d_method_2_97) rfl rfl ?_
        refine g_iloadN (pc' := 99) W79.here hx (hb hby d_method_2_98) rfl rfl ?_
        refine w_castore (pc' := 100) (x' := ca1) W79 hx V79 (by decide) (Nat.lt_of_lt_of_le (Nat.lt_succ_self _) (Nat.le_of_ble_eq_true rfl)) (List.mem_of_getElem? (i := 0) rfl) (own_nchar (own_c16 l_ca1)) (hb hby d_method_2_99) rfl fun T80 h80 W80 K80 V80 => ?_
        have z_K80 : h79.size ≤ h80.size := K80.1
        have V80 : Ary Z h80 b78 .char [(.int ca0), (.int ca1), (.int (0 : Int32))] := V80
        refine g_dup (pc' := 101) W80.here hx (hb hby d_method_2_100) rfl rfl ?_
        refine g_iconst (2 : Int32) (pc' := 102) W80.here hx (hb hby d_method_2_101) rfl rfl ?_
        refine g_iload (pc' := 104) W80.here hx (hb hby d_method_2_102) rfl rfl ?_
        refine w_castore (pc' := 105) (x' := ca2) W80 hx V80 (by decide) (Nat.lt_of_lt_of_le (Nat.lt_succ_self _) (Nat.le_of_ble_eq_true rfl)) (List.mem_of_getElem? (i := 0) rfl) (own_nchar (own_c16 l_ca2)) (hb hby d_method_2_104) rfl fun T81 h81 W81 K81 V81 => ?_
        have z_K81 : h80.size ≤ h81.size := K81.1
        have V81 : Ary Z h81 b78 .char [(.int ca0), (.int ca1), (.int ca2)] := V81
        have c82 := ((((A77.keep K78).keep K79).keep K80).keep K81)
        have c83 := ((((F77_coder.keep K78 nin0).keep K79 (ninS ne_b77_b78 nin0)).keep K80 (ninS ne_b77_b78 nin0)).keep K81 (ninS ne_b77_b78 nin0))
        have c84 := ((((F77_value.keep K78 nin0).keep K79 (ninS ne_b77_b78 nin0)).keep K80 (ninS ne_b77_b78 nin0)).keep K81 (ninS ne_b77_b78 nin0))
        refine w_special (pc' := 108) (st := [(.ref b77)]) (y := (⟨"java/lang/String", "<init>", "([C)V"⟩ : MethodName)) (a := b77) W81 hx [(.ref b78)] rfl (hw _ (List.mem_of_getElem? w_8)) (hw _ (List.mem_of_getElem? w_9)) (hw _ (List.mem_of_getElem? w_6)) (hw _ (List.mem_of_getElem? w_10)) (by decide) (c_strC l Z a0 hw hE cc fm b77 b78 [ca0, ca1, ca2] h81 W81.old G (Nat.le_of_ble_eq_true rfl) (own_allS l_ca0 (own_allS l_ca1 (own_allS l_ca2 own_all0))) V81 (by have := O.1; omega) c82 _ _ c83 c84 ne_b77_b78) (allS (List.mem_of_getElem? (i := 1) rfl) all0) (by rw [hml]; rfl) (lenOf pd_7 rfl) rfl (hb hby d_method_2_105) (Nat.le_of_ble_eq_true rfl) (Nat.le_of_ble_eq_true rfl) (Nat.le_of_ble_eq_true rfl) (Nat.le_of_ble_eq_true rfl) rfl fun v85 T85 h85 W85 K85 Q85 => ?_
        have z_K85 : h81.size ≤ h85.size := K85.1
        obtain ⟨rfl, sb86, S86⟩ := Q85
        have ES86 := S86.1
        have lt_sb86 : sb86 < h85.size := S86.ltb
        refine w_retA W85 hx hh hlk hret rfl rfl (hb hby d_method_2_108) (Nat.le_of_ble_eq_true rfl) (Nat.le_of_ble_eq_true rfl) ?_
        exact ⟨_, rfl, ES86⟩
set_option maxRecDepth 65536 in
set_option maxHeartbeats 40000000 in
theorem c_eqself (l : Launch) (Z : State) (a0 : Array Value) (hw : ∀ d ∈ tables_1, d.before a0 Z = true) (hE : EW Z a0 consts_1) (a : Nat) (h0 : Heap) (O : Ext Z.heap h0)  :
    Con l Z consts_1 (⟨"java/lang/String", "equals", "(Ljava/lang/Object;)Z"⟩ : MethodName) jdk_42_method_66_code 3 (Option.some Jvm.ClassFile.FieldType.boolean) ({ frames := 0, cells := 0, slots := 0, locals := 0 } : Room) #[(.ref a), (.ref a)] h0 [] (pureQ (some (.int 1)) h0) := by
  refine Con.of (a0 := a0) #[.val (.ref a), .val (.ref a), .unset] (plainFor_of_name pn_1) hE O all0 (fun m => by first | (simp [entryFrame, mkF, argsToLocals, Value.category]; done) | rfl) ?_
  intro p e s m below meth c T0 hx hby hml hnm hret hlk hh W0
  refine g_aloadN (pc' := 1) W0.here hx (hb hby d_jdk_42_66_0) rfl rfl rfl ?_
  refine g_aloadN (pc' := 2) W0.here hx (hb hby d_jdk_42_66_1) rfl rfl rfl ?_
  refine w_acmp (pc' := 5) W0 hx rfl rfl true (hb hby d_jdk_42_66_2) (decide_eq_true rfl) (by decide) (by decide) ?_
  refine g_iconst (1 : Int32) (pc' := 6) W0.here hx (hb hby d_jdk_42_66_5) rfl rfl ?_
  refine w_retN (t := .boolean) W0 hx hh hlk hret (by simp) (hb hby d_jdk_42_66_6) (Nat.le_of_ble_eq_true rfl) (Nat.le_of_ble_eq_true rfl) ?_
  exact ⟨rfl, rfl⟩
set_option maxRecDepth 65536 in
set_option maxHeartbeats 40000000 in
theorem c_recinit (l : Launch) (Z : State) (a0 : Array Value) (hw : ∀ d ∈ tables_1, d.before a0 Z = true) (hE : EW Z a0 consts_1) (o : Nat) (h0 : Heap) (O : Ext Z.heap h0)  :
    Con l Z consts_1 (⟨"java/lang/Record", "<init>", "()V"⟩ : MethodName) jdk_30_method_1_code 1 (Option.none : Option Jvm.ClassFile.FieldType) ({ frames := 1, cells := 0, slots := 0, locals := 12 } : Room) #[(.ref o)] h0 [] (fun v _ => v = none) := by
  refine Con.of (a0 := a0) #[.val (.ref o)] (plainFor_of_name pn_4) hE O all0 (fun m => by first | (simp [entryFrame, mkF, argsToLocals, Value.category]; done) | rfl) ?_
  intro p e s m below meth c T0 hx hby hml hnm hret hlk hh W0
  refine g_aloadN (pc' := 1) W0.here hx (hb hby d_jdk_30_1_0) rfl rfl rfl ?_
  refine w_initO (pc' := 4) W0 hx (hw _ (List.mem_of_getElem? w_54)) (hw _ (List.mem_of_getElem? w_16)) (hw _ (List.mem_of_getElem? w_17)) (by rw [hml]; rfl) (hb hby d_jdk_30_1_1) (Nat.le_of_ble_eq_true rfl) (Nat.le_of_ble_eq_true rfl) rfl fun T87 W87 => ?_
  refine w_retV W87 hx hh hlk hret (hb hby d_jdk_30_1_4) (Nat.le_of_ble_eq_true rfl) (Nat.le_of_ble_eq_true rfl) ?_
  exact rfl
set_option maxRecDepth 65536 in
set_option maxHeartbeats 40000000 in
theorem c_req (l : Launch) (Z : State) (a0 : Array Value) (hw : ∀ d ∈ tables_1, d.before a0 Z = true) (hE : EW Z a0 consts_1) (xa xm : Nat) (h0 : Heap) (O : Ext Z.heap h0)  :
    Con l Z consts_1 (⟨"java/util/Objects", "requireNonNull", "(Ljava/lang/Object;Ljava/lang/String;)Ljava/lang/Object;"⟩ : MethodName) jdk_31_method_11_code 2 (Option.some (Jvm.ClassFile.FieldType.object "java/lang/Object")) ({ frames := 0, cells := 0, slots := 0, locals := 0 } : Room) #[(.ref xa), (.ref xm)] h0 [] (pureQ (some (.ref xa)) h0) := by
  refine Con.of (a0 := a0) #[.val (.ref xa), .val (.ref xm)] (plainFor_of_name pn_5) hE O all0 (fun m => by first | (simp [entryFrame, mkF, argsToLocals, Value.category]; done) | rfl) ?_
  intro p e s m below meth c T0 hx hby hml hnm hret hlk hh W0
  refine g_aloadN (pc' := 1) W0.here hx (hb hby d_jdk_31_11_0) rfl rfl rfl ?_
  refine g_nonnullY (pc' := 13) W0.here hx (hb hby d_jdk_31_11_1) rfl ?_
  refine g_aloadN (pc' := 14) W0.here hx (hb hby d_jdk_31_11_13) rfl rfl rfl ?_
  refine w_retA W0 hx hh hlk hret rfl rfl (hb hby d_jdk_31_11_14) (Nat.le_of_ble_eq_true rfl) (Nat.le_of_ble_eq_true rfl) ?_
  exact ⟨rfl, rfl⟩
set_option maxRecDepth 65536 in
set_option maxHeartbeats 40000000 in
theorem c_min (l : Launch) (Z : State) (a0 : Array Value) (hw : ∀ d ∈ tables_1, d.before a0 Z = true) (hE : EW Z a0 consts_1)  (h0 : Heap) (O : Ext Z.heap h0)  :
    Con l Z consts_1 (⟨"java/lang/Math", "min", "(II)I"⟩ : MethodName) jdk_29_method_69_code 2 (Option.some Jvm.ClassFile.FieldType.int) ({ frames := 0, cells := 0, slots := 0, locals := 0 } : Room) #[(.int (20 : Int32)), (.int (100 : Int32))] h0 [] (pureQ (some (.int 20)) h0) := by
  refine Con.of (a0 := a0) #[.val (.int (20 : Int32)), .val (.int (100 : Int32))] (Jvm.Free.JP.mathPlain rfl (by decide +kernel)) hE O all0 (fun m => by first | (simp [entryFrame, mkF, argsToLocals, Value.category]; done) | rfl) ?_
  intro p e s m below meth c T0 hx hby hml hnm hret hlk hh W0
  refine g_iloadN (pc' := 1) W0.here hx (hb hby d_jdk_29_69_0) rfl rfl ?_
  refine g_iloadN (pc' := 2) W0.here hx (hb hby d_jdk_29_69_1) rfl rfl ?_
  refine g_icmpN (pc' := 5) W0.here hx (hb hby d_jdk_29_69_2) rfl (flt (show ¬ ((100 : Int32) < (20 : Int32)) from (by decide))).2.2.1 ?_
  refine g_iloadN (pc' := 6) W0.here hx (hb hby d_jdk_29_69_5) rfl rfl ?_
  refine g_goto (pc' := 10) W0.here hx (hb hby d_jdk_29_69_6) rfl ?_
  refine w_retI W0 hx hh hlk hret (hb hby d_jdk_29_69_10) (Nat.le_of_ble_eq_true rfl) (Nat.le_of_ble_eq_true rfl) ?_
  exact ⟨rfl, rfl⟩
set_option maxRecDepth 65536 in
set_option maxHeartbeats 40000000 in
theorem c_mqinit (l : Launch) (Z : State) (a0 : Array Value) (hw : ∀ d ∈ tables_1, d.before a0 Z = true) (hE : EW Z a0 consts_1) (o sa fr be pr : Nat) (h0 : Heap) (O : Ext Z.heap h0) (hz : Z.heap.size ≤ o) (x0 x1 x2 x3 x4 x5 : Value) (E0 : Exa Z h0 o "com/example/despatch/despatch/messaging/MailboxQuery") (F0 : Fld Z h0 o "com/example/despatch/despatch/messaging/MailboxQuery" "destination" "Ljava/lang/String;" x0) (F1 : Fld Z h0 o "com/example/despatch/despatch/messaging/MailboxQuery" "from" "Ljava/time/Instant;" x1) (F2 : Fld Z h0 o "com/example/despatch/despatch/messaging/MailboxQuery" "before" "Ljava/time/Instant;" x2) (F3 : Fld Z h0 o "com/example/despatch/despatch/messaging/MailboxQuery" "responseTo" "Ljava/util/function/Predicate;" x3) (F4 : Fld Z h0 o "com/example/despatch/despatch/messaging/MailboxQuery" "offset" "I" x4) (F5 : Fld Z h0 o "com/example/despatch/despatch/messaging/MailboxQuery" "count" "I" x5) :
    Con l Z consts_1 (⟨"com/example/despatch/despatch/messaging/MailboxQuery", "<init>", "(Ljava/lang/String;Ljava/time/Instant;Ljava/time/Instant;Ljava/util/function/Predicate;II)V"⟩ : MethodName) prog_16_method_1_code 7 (Option.none : Option Jvm.ClassFile.FieldType) ({ frames := 2, cells := 2, slots := 48, locals := 24 } : Room) #[(.ref o), (.ref sa), (.ref fr), (.ref be), (.ref pr), (.int (0 : Int32)), (.int (20 : Int32))] h0 [o] (fun v h => v = none ∧ Exa Z h o "com/example/despatch/despatch/messaging/MailboxQuery" ∧ Fld Z h o "com/example/despatch/despatch/messaging/MailboxQuery" "destination" "Ljava/lang/String;" (.ref sa) ∧ Fld Z h o "com/example/despatch/despatch/messaging/MailboxQuery" "from" "Ljava/time/Instant;" (.ref fr) ∧ Fld Z h o "com/example/despatch/despatch/messaging/MailboxQuery" "before" "Ljava/time/Instant;" (.ref be) ∧ Fld Z h o "com/example/despatch/despatch/messaging/MailboxQuery" "responseTo" "Ljava/util/function/Predicate;" (.ref pr) ∧ Fld Z h o "com/example/despatch/despatch/messaging/MailboxQuery" "offset" "I" (.int (0 : Int32)) ∧ Fld Z h o "com/example/despatch/despatch/messaging/MailboxQuery" "count" "I" (.int (20 : Int32))) := by
  refine Con.of (a0 := a0) #[.val (.ref o), .val (.ref sa), .val (.ref fr), .val (.ref be), .val (.ref pr), .val (.int (0 : Int32)), .val (.int (20 : Int32))] (plainFor_of_name pn_6) hE O (allS ⟨hz, E0.lt⟩ all0) (fun m => by first | (simp [entryFrame, mkF, argsToLocals, Value.category]; done) | rfl) ?_
  intro p e s m below meth c T0 hx hby hml hnm hret hlk hh W0
  refine g_aloadN (pc' := 1) W0.here hx (hb hby d_prog_16_1_0) rfl rfl rfl ?_
  refine w_special (pc' := 4) (st := []) (y := (⟨"java/lang/Record", "<init>", "()V"⟩ : MethodName)) (a := o) W0 hx [] rfl (hw _ (List.mem_of_getElem? w_49)) (hw _ (List.mem_of_getElem? w_50)) (hw _ (List.mem_of_getElem? w_52)) (hw _ (List.mem_of_getElem? w_53)) (by decide) (c_recinit l Z a0 hw hE o h0 W0.old) all0 (by rw [hml]; rfl) (lenOf pd_9 rfl) rfl (hb hby d_prog_16_1_1) (Nat.le_of_ble_eq_true rfl) (Nat.le_of_ble_eq_true rfl) (Nat.le_of_ble_eq_true rfl) (Nat.le_of_ble_eq_true rfl) rfl fun v88 T88 h88 W88 K88 Q88 => ?_
  have z_K88 : h0.size ≤ h88.size := K88.1
  obtain rfl := Q88
  refine g_aloadN (pc' := 5) W88.here hx (hb hby d_prog_16_1_4) rfl rfl rfl ?_
  refine w_ldcO (pc' := 7) W88 hx (hw _ (List.mem_of_getElem? w_55)) (own_atoms hw) (hb hby d_prog_16_1_5) 44 (Nat.le_of_ble_eq_true rfl) (Nat.le_of_ble_eq_true rfl) (Nat.le_of_ble_eq_true rfl) (Nat.le_of_ble_eq_true rfl) rfl fun T89 h89 sa89 W89 K89 => ?_
  have z_K89 : h88.size ≤ h89.size := K89.1
  refine w_callSp (pc' := 10) (st := []) (y := (⟨"java/util/Objects", "requireNonNull", "(Ljava/lang/Object;Ljava/lang/String;)Ljava/lang/Object;"⟩ : MethodName)) W89 hx [(.ref sa), (.ref sa89)] (hw _ (List.mem_of_getElem? w_58)) (hw _ (List.mem_of_getElem? w_59)) (hw _ (List.mem_of_getElem? w_60)) (hw _ (List.mem_of_getElem? w_61)) (by decide) (c_req l Z a0 hw hE sa sa89 h89 W89.old) (by rw [hml]; rfl) (lenOf pd_10 rfl) rfl (hb hby d_prog_16_1_7) (Nat.le_of_ble_eq_true rfl) (Nat.le_of_ble_eq_true rfl) rfl rfl (Nat.le_of_ble_eq_true rfl) (Nat.le_of_ble_eq_true rfl) rfl fun T90 W90 => ?_
  refine g_pop (pc' := 11) W90.here hx (hb hby d_prog_16_1_10) rfl rfl ?_
  refine g_iload (pc' := 13) W90.here hx (hb hby d_prog_16_1_11) rfl rfl ?_
  refine g_ifN (pc' := 16) W90.here hx (hb hby d_prog_16_1_13) rfl (flt (show ¬ ((0 : Int32) < (0 : Int32)) from (by decide))).1 ?_
  refine g_iload (pc' := 18) W90.here hx (hb hby d_prog_16_1_16) rfl rfl ?_
  refine g_ifY (pc' := 38) W90.here hx (hb hby d_prog_16_1_18) rfl (flt (show ¬ ((20 : Int32) < (0 : Int32)) from (by decide))).2.1 ?_
  refine g_iload (pc' := 40) W90.here hx (hb hby d_prog_16_1_38) rfl rfl ?_
  refine g_bipush (100 : Int32) (pc' := 42) W90.here hx (hb hby d_prog_16_1_40) rfl rfl ?_
  refine w_callSp (pc' := 45) (st := []) (y := (⟨"java/lang/Math", "min", "(II)I"⟩ : MethodName)) W90 hx [(.int (20 : Int32)), (.int (100 : Int32))] (hw _ (List.mem_of_getElem? w_62)) (hw _ (List.mem_of_getElem? w_63)) (hw _ (List.mem_of_getElem? w_64)) (hw _ (List.mem_of_getElem? w_65)) (by decide) (c_min l Z a0 hw hE h89 W90.old) (by rw [hml]; rfl) (lenOf pd_11 rfl) rfl (hb hby d_prog_16_1_42) (Nat.le_of_ble_eq_true rfl) (Nat.le_of_ble_eq_true rfl) rfl rfl (Nat.le_of_ble_eq_true rfl) (Nat.le_of_ble_eq_true rfl) rfl fun T91 W91 => ?_
  refine g_istore (pc' := 47) (Ls' := #[.val (.ref o), .val (.ref sa), .val (.ref fr), .val (.ref be), .val (.ref pr), .val (.int (0 : Int32)), .val (.int (20 : Int32))]) W91.here hx (hb hby d_prog_16_1_45) rfl rfl ?_
  refine g_aloadN (pc' := 48) W91.here hx (hb hby d_prog_16_1_47) rfl rfl rfl ?_
  refine g_aloadN (pc' := 49) W91.here hx (hb hby d_prog_16_1_48) rfl rfl rfl ?_
  have c92 := ((F0.keep K88 nin0).keep K89 nin0)
  have c93 := ((E0.keep K88).keep K89)
  refine w_put (pc' := 52) W91 hx (hw _ (List.mem_of_getElem? w_66)) Via.refl c92 c93 (Or.inr ⟨(hw _ (List.mem_of_getElem? w_67)), rfl, hnm⟩) (hw _ (List.mem_of_getElem? w_39)) (ty := (.object "java/lang/String")) (by decide) rfl rfl (List.mem_of_getElem? (i := 0) rfl) (hb hby d_prog_16_1_49) rfl fun T94 h94 W94 K94 R94 F94 A94 => ?_
  have c95 := ((F1.keep K88 nin0).keep K89 nin0)
  have c96 := ((F2.keep K88 nin0).keep K89 nin0)
  have c97 := ((F3.keep K88 nin0).keep K89 nin0)
  have c98 := ((F4.keep K88 nin0).keep K89 nin0)
  have c99 := ((F5.keep K88 nin0).keep K89 nin0)
  have z_K94 : h89.size ≤ h94.size := K94.1
  have c100 := (c95.other R94 (Or.inr (slot_ne (Or.inr (hw _ (List.mem_of_getElem? w_69))) (Or.inr (hw _ (List.mem_of_getElem? w_67))) (by decide) (t := (.object "java/time/Instant")) (t' := (.object "java/lang/String")) (by decide) (by decide))))
  have c101 := (c96.other R94 (Or.inr (slot_ne (Or.inr (hw _ (List.mem_of_getElem? w_71))) (Or.inr (hw _ (List.mem_of_getElem? w_67))) (by decide) (t := (.object "java/time/Instant")) (t' := (.object "java/lang/String")) (by decide) (by decide))))
  have c102 := (c97.other R94 (Or.inr (slot_ne (Or.inr (hw _ (List.mem_of_getElem? w_73))) (Or.inr (hw _ (List.mem_of_getElem? w_67))) (by decide) (t := (.object "java/util/function/Predicate")) (t' := (.object "java/lang/String")) (by decide) (by decide))))
  have c103 := (c98.other R94 (Or.inr (slot_ne (Or.inr (hw _ (List.mem_of_getElem? w_75))) (Or.inr (hw _ (List.mem_of_getElem? w_67))) (by decide) (t := .int) (t' := (.object "java/lang/String")) (by decide) (by decide))))
  have c104 := (c99.other R94 (Or.inr (slot_ne (Or.inr (hw _ (List.mem_of_getElem? w_77))) (Or.inr (hw _ (List.mem_of_getElem? w_67))) (by decide) (t := .int) (t' := (.object "java/lang/String")) (by decide) (by decide))))
  refine g_aloadN (pc' := 53) W94.here hx (hb hby d_prog_16_1_52) rfl rfl rfl ?_
  refine g_aloadN (pc' := 54) W94.here hx (hb hby d_prog_16_1_53) rfl rfl rfl ?_
  refine w_put (pc' := 57) W94 hx (hw _ (List.mem_of_getElem? w_68)) Via.refl c100 A94 (Or.inr ⟨(hw _ (List.mem_of_getElem? w_69)), rfl, hnm⟩) (hw _ (List.mem_of_getElem? w_39)) (ty := (.object "java/time/Instant")) (by decide) rfl rfl (List.mem_of_getElem? (i := 0) rfl) (hb hby d_prog_16_1_54) rfl fun T105 h105 W105 K105 R105 F105 A105 => ?_
  have z_K105 : h94.size ≤ h105.size := K105.1
  have c106 := (F94.other R105 (Or.inr (slot_ne (Or.inr (hw _ (List.mem_of_getElem? w_67))) (Or.inr (hw _ (List.mem_of_getElem? w_69))) (by decide) (t := (.object "java/lang/String")) (t' := (.object "java/time/Instant")) (by decide) (by decide))))
  have c107 := (c101.other R105 (Or.inr (slot_ne (Or.inr (hw _ (List.mem_of_getElem? w_71))) (Or.inr (hw _ (List.mem_of_getElem? w_69))) (by decide) (t := (.object "java/time/Instant")) (t' := (.object "java/time/Instant")) (by decide) (by decide))))
  have c108 := (c102.other R105 (Or.inr (slot_ne (Or.inr (hw _ (List.mem_of_getElem? w_73))) (Or.inr (hw _ (List.mem_of_getElem? w_69))) (by decide) (t := (.object "java/util/function/Predicate")) (t' := (.object "java/time/Instant")) (by decide) (by decide))))
  have c109 := (c103.other R105 (Or.inr (slot_ne (Or.inr (hw _ (List.mem_of_getElem? w_75))) (Or.inr (hw _ (List.mem_of_getElem? w_69))) (by decide) (t := .int) (t' := (.object "java/time/Instant")) (by decide) (by decide))))
  have c110 := (c104.other R105 (Or.inr (slot_ne (Or.inr (hw _ (List.mem_of_getElem? w_77))) (Or.inr (hw _ (List.mem_of_getElem? w_69))) (by decide) (t := .int) (t' := (.object "java/time/Instant")) (by decide) (by decide))))
  refine g_aloadN (pc' := 58) W105.here hx (hb hby d_prog_16_1_57) rfl rfl rfl ?_
  refine g_aloadN (pc' := 59) W105.here hx (hb hby d_prog_16_1_58) rfl rfl rfl ?_
  refine w_put (pc' := 62) W105 hx (hw _ (List.mem_of_getElem? w_70)) Via.refl c107 A105 (Or.inr ⟨(hw _ (List.mem_of_getElem? w_71)), rfl, hnm⟩) (hw _ (List.mem_of_getElem? w_39)) (ty := (.object "java/time/Instant")) (by decide) rfl rfl (List.mem_of_getElem? (i := 0) rfl) (hb hby d_prog_16_1_59) rfl fun T111 h111 W111 K111 R111 F111 A111 => ?_
  have z_K111 : h105.size ≤ h111.size := K111.1
  have c112 := (c106.other R111 (Or.inr (slot_ne (Or.inr (hw _ (List.mem_of_getElem? w_67))) (Or.inr (hw _ (List.mem_of_getElem? w_71))) (by decide) (t := (.object "java/lang/String")) (t' := (.object "java/time/Instant")) (by decide) (by decide))))
  have c113 := (F105.other R111 (Or.inr (slot_ne (Or.inr (hw _ (List.mem_of_getElem? w_69))) (Or.inr (hw _ (List.mem_of_getElem? w_71))) (by decide) (t := (.object "java/time/Instant")) (t' := (.object "java/time/Instant")) (by decide) (by decide))))
  have c114 := (c108.other R111 (Or.inr (slot_ne (Or.inr (hw _ (List.mem_of_getElem? w_73))) (Or.inr (hw _ (List.mem_of_getElem? w_71))) (by decide) (t := (.object "java/util/function/Predicate")) (t' := (.object "java/time/Instant")) (by decide) (by decide))))
  have c115 := (c109.other R111 (Or.inr (slot_ne (Or.inr (hw _ (List.mem_of_getElem? w_75))) (Or.inr (hw _ (List.mem_of_getElem? w_71))) (by decide) (t := .int) (t' := (.object "java/time/Instant")) (by decide) (by decide))))
  have c116 := (c110.other R111 (Or.inr (slot_ne (Or.inr (hw _ (List.mem_of_getElem? w_77))) (Or.inr (hw _ (List.mem_of_getElem? w_71))) (by decide) (t := .int) (t' := (.object "java/time/Instant")) (by decide) (by decide))))
  refine g_aloadN (pc' := 63) W111.here hx (hb hby d_prog_16_1_62) rfl rfl rfl ?_
  refine g_aload (pc' := 65) W111.here hx (hb hby d_prog_16_1_63) rfl rfl rfl ?_
  refine w_put (pc' := 68) W111 hx (hw _ (List.mem_of_getElem? w_72)) Via.refl c114 A111 (Or.inr ⟨(hw _ (List.mem_of_getElem? w_73)), rfl, hnm⟩) (hw _ (List.mem_of_getElem? w_39)) (ty := (.object "java/util/function/Predicate")) (by decide) rfl rfl (List.mem_of_getElem? (i := 0) rfl) (hb hby d_prog_16_1_65) rfl fun T117 h117 W117 K117 R117 F117 A117 => ?_
  have z_K117 : h111.size ≤ h117.size := K117.1
  have c118 := (c112.other R117 (Or.inr (slot_ne (Or.inr (hw _ (List.mem_of_getElem? w_67))) (Or.inr (hw _ (List.mem_of_getElem? w_73))) (by decide) (t := (.object "java/lang/String")) (t' := (.object "java/util/function/Predicate")) (by decide) (by decide))))
  have c119 := (c113.other R117 (Or.inr (slot_ne (Or.inr (hw _ (List.mem_of_getElem? w_69))) (Or.inr (hw _ (List.mem_of_getElem? w_73))) (by decide) (t := (.object "java/time/Instant")) (t' := (.object "java/util/function/Predicate")) (by decide) (by decide))))
  have c120 := (F111.other R117 (Or.inr (slot_ne (Or.inr (hw _ (List.mem_of_getElem? w_71))) (Or.inr (hw _ (List.mem_of_getElem? w_73))) (by decide) (t := (.object "java/time/Instant")) (t' := (.object "java/util/function/Predicate")) (by decide) (by decide))))
  have c121 := (c115.other R117 (Or.inr (slot_ne (Or.inr (hw _ (List.mem_of_getElem? w_75))) (Or.inr (hw _ (List.mem_of_getElem? w_73))) (by decide) (t := .int) (t' := (.object "java/util/function/Predicate")) (by decide) (by decide))))
  have c122 := (c116.other R117 (Or.inr (slot_ne (Or.inr (hw _ (List.mem_of_getElem? w_77))) (Or.inr (hw _ (List.mem_of_getElem? w_73))) (by decide) (t := .int) (t' := (.object "java/util/function/Predicate")) (by decide) (by decide))))
  refine g_aloadN (pc' := 69) W117.here hx (hb hby d_prog_16_1_68) rfl rfl rfl ?_
  refine g_iload (pc' := 71) W117.here hx (hb hby d_prog_16_1_69) rfl rfl ?_
  refine w_put (pc' := 74) W117 hx (hw _ (List.mem_of_getElem? w_74)) Via.refl c121 A117 (Or.inr ⟨(hw _ (List.mem_of_getElem? w_75)), rfl, hnm⟩) (hw _ (List.mem_of_getElem? w_39)) (ty := .int) (by decide) rfl rfl (List.mem_of_getElem? (i := 0) rfl) (hb hby d_prog_16_1_71) rfl fun T123 h123 W123 K123 R123 F123 A123 => ?_
  have z_K123 : h117.size ≤ h123.size := K123.1
  have c124 := (c118.other R123 (Or.inr (slot_ne (Or.inr (hw _ (List.mem_of_getElem? w_67))) (Or.inr (hw _ (List.mem_of_getElem? w_75))) (by decide) (t := (.object "java/lang/String")) (t' := .int) (by decide) (by decide))))
  have c125 := (c119.other R123 (Or.inr (slot_ne (Or.inr (hw _ (List.mem_of_getElem? w_69))) (Or.inr (hw _ (List.mem_of_getElem? w_75))) (by decide) (t := (.object "java/time/Instant")) (t' := .int) (by decide) (by decide))))
  have c126 := (c120.other R123 (Or.inr (slot_ne (Or.inr (hw _ (List.mem_of_getElem? w_71))) (Or.inr (hw _ (List.mem_of_getElem? w_75))) (by decide) (t := (.object "java/time/Instant")) (t' := .int) (by decide) (by decide))))
  have c127 := (F117.other R123 (Or.inr (slot_ne (Or.inr (hw _ (List.mem_of_getElem? w_73))) (Or.inr (hw _ (List.mem_of_getElem? w_75))) (by decide) (t := (.object "java/util/function/Predicate")) (t' := .int) (by decide) (by decide))))
  have c128 := (c122.other R123 (Or.inr (slot_ne (Or.inr (hw _ (List.mem_of_getElem? w_77))) (Or.inr (hw _ (List.mem_of_getElem? w_75))) (by decide) (t := .int) (t' := .int) (by decide) (by decide))))
  refine g_aloadN (pc' := 75) W123.here hx (hb hby d_prog_16_1_74) rfl rfl rfl ?_
  refine g_iload (pc' := 77) W123.here hx (hb hby d_prog_16_1_75) rfl rfl ?_
  refine w_put (pc' := 80) W123 hx (hw _ (List.mem_of_getElem? w_76)) Via.refl c128 A123 (Or.inr ⟨(hw _ (List.mem_of_getElem? w_77)), rfl, hnm⟩) (hw _ (List.mem_of_getElem? w_39)) (ty := .int) (by decide) rfl rfl (List.mem_of_getElem? (i := 0) rfl) (hb hby d_prog_16_1_77) rfl fun T129 h129 W129 K129 R129 F129 A129 => ?_
  have z_K129 : h123.size ≤ h129.size := K129.1
  have c130 := (c124.other R129 (Or.inr (slot_ne (Or.inr (hw _ (List.mem_of_getElem? w_67))) (Or.inr (hw _ (List.mem_of_getElem? w_77))) (by decide) (t := (.object "java/lang/String")) (t' := .int) (by decide) (by decide))))
  have c131 := (c125.other R129 (Or.inr (slot_ne (Or.inr (hw _ (List.mem_of_getElem? w_69))) (Or.inr (hw _ (List.mem_of_getElem? w_77))) (by decide) (t := (.object "java/time/Instant")) (t' := .int) (by decide) (by decide))))
  have c132 := (c126.other R129 (Or.inr (slot_ne (Or.inr (hw _ (List.mem_of_getElem? w_71))) (Or.inr (hw _ (List.mem_of_getElem? w_77))) (by decide) (t := (.object "java/time/Instant")) (t' := .int) (by decide) (by decide))))
  have c133 := (c127.other R129 (Or.inr (slot_ne (Or.inr (hw _ (List.mem_of_getElem? w_73))) (Or.inr (hw _ (List.mem_of_getElem? w_77))) (by decide) (t := (.object "java/util/function/Predicate")) (t' := .int) (by decide) (by decide))))
  have c134 := (F123.other R129 (Or.inr (slot_ne (Or.inr (hw _ (List.mem_of_getElem? w_75))) (Or.inr (hw _ (List.mem_of_getElem? w_77))) (by decide) (t := .int) (t' := .int) (by decide) (by decide))))
  refine w_retV W129 hx hh hlk hret (hb hby d_prog_16_1_80) (Nat.le_of_ble_eq_true rfl) (Nat.le_of_ble_eq_true rfl) ?_
  exact ⟨rfl, A129, c130, c131, c132, c133, c134, F129⟩
set_option maxRecDepth 65536 in
set_option maxHeartbeats 40000000 in
theorem c_lcmp_nx (l : Launch) (Z : State) (a0 : Array Value) (hw : ∀ d ∈ tables_1, d.before a0 Z = true) (hE : EW Z a0 consts_1)  (h0 : Heap) (O : Ext Z.heap h0)  :
    Con l Z consts_1 (⟨"java/lang/Long", "compare", "(JJ)I"⟩ : MethodName) jdk_35_method_42_code 4 (Option.some Jvm.ClassFile.FieldType.int) ({ frames := 0, cells := 0, slots := 0, locals := 0 } : Room) #[(.long (-31557014167219200 : Int64)), (.long (31556889864403199 : Int64))] h0 [] (pureQ (some (.int (-1 : Int32))) h0) := by
  refine Con.of (a0 := a0) #[.val (.long (-31557014167219200 : Int64)), .second, .val (.long (31556889864403199 : Int64)), .second] (plainFor_of_name pn_7) hE O all0 (fun m => by first | (simp [entryFrame, mkF, argsToLocals, Value.category]; done) | rfl) ?_
  intro p e s m below meth c T0 hx hby hml hnm hret hlk hh W0
  refine g_lloadN (pc' := 1) W0.here hx (hb hby d_jdk_35_42_0) rfl rfl ?_
  refine g_lloadN (pc' := 2) W0.here hx (hb hby d_jdk_35_42_1) rfl rfl ?_
  refine g_lcmp (pc' := 3) W0.here hx (hb hby d_jdk_35_42_2) rfl ?_
  refine g_ifN (pc' := 6) W0.here hx (hb hby d_jdk_35_42_3) rfl (tlt (show (lcmpW (-31557014167219200 : Int64) (31556889864403199 : Int64)) < (0 : Int32) from (by decide))).2.1 ?_
  refine g_iconst (-1 : Int32) (pc' := 7) W0.here hx (hb hby d_jdk_35_42_6) rfl rfl ?_
  refine g_goto (pc' := 21) W0.here hx (hb hby d_jdk_35_42_7) rfl ?_
  refine w_retI W0 hx hh hlk hret (hb hby d_jdk_35_42_21) (Nat.le_of_ble_eq_true rfl) (Nat.le_of_ble_eq_true rfl) ?_
  exact ⟨rfl, rfl⟩
set_option maxRecDepth 65536 in
set_option maxHeartbeats 40000000 in
theorem c_lcmp_xn (l : Launch) (Z : State) (a0 : Array Value) (hw : ∀ d ∈ tables_1, d.before a0 Z = true) (hE : EW Z a0 consts_1)  (h0 : Heap) (O : Ext Z.heap h0)  :
    Con l Z consts_1 (⟨"java/lang/Long", "compare", "(JJ)I"⟩ : MethodName) jdk_35_method_42_code 4 (Option.some Jvm.ClassFile.FieldType.int) ({ frames := 0, cells := 0, slots := 0, locals := 0 } : Room) #[(.long (31556889864403199 : Int64)), (.long (-31557014167219200 : Int64))] h0 [] (pureQ (some (.int (1 : Int32))) h0) := by
  refine Con.of (a0 := a0) #[.val (.long (31556889864403199 : Int64)), .second, .val (.long (-31557014167219200 : Int64)), .second] (plainFor_of_name pn_7) hE O all0 (fun m => by first | (simp [entryFrame, mkF, argsToLocals, Value.category]; done) | rfl) ?_
  intro p e s m below meth c T0 hx hby hml hnm hret hlk hh W0
  refine g_lloadN (pc' := 1) W0.here hx (hb hby d_jdk_35_42_0) rfl rfl ?_
  refine g_lloadN (pc' := 2) W0.here hx (hb hby d_jdk_35_42_1) rfl rfl ?_
  refine g_lcmp (pc' := 3) W0.here hx (hb hby d_jdk_35_42_2) rfl ?_
  refine g_ifY (pc' := 10) W0.here hx (hb hby d_jdk_35_42_3) rfl (flt (show ¬ ((lcmpW (31556889864403199 : Int64) (-31557014167219200 : Int64)) < (0 : Int32)) from (by decide))).2.1 ?_
  refine g_lloadN (pc' := 11) W0.here hx (hb hby d_jdk_35_42_10) rfl rfl ?_
  refine g_lloadN (pc' := 12) W0.here hx (hb hby d_jdk_35_42_11) rfl rfl ?_
  refine g_lcmp (pc' := 13) W0.here hx (hb hby d_jdk_35_42_12) rfl ?_
  refine g_ifY (pc' := 20) W0.here hx (hb hby d_jdk_35_42_13) rfl (feq (show ¬ ((lcmpW (31556889864403199 : Int64) (-31557014167219200 : Int64)) = (0 : Int32)) from (by decide))).2 ?_
  refine g_iconst (1 : Int32) (pc' := 21) W0.here hx (hb hby d_jdk_35_42_20) rfl rfl ?_
  refine w_retI W0 hx hh hlk hret (hb hby d_jdk_35_42_21) (Nat.le_of_ble_eq_true rfl) (Nat.le_of_ble_eq_true rfl) ?_
  exact ⟨rfl, rfl⟩
set_option maxRecDepth 65536 in
set_option maxHeartbeats 40000000 in
theorem c_cmp_nx (l : Launch) (Z : State) (a0 : Array Value) (hw : ∀ d ∈ tables_1, d.before a0 Z = true) (hE : EW Z a0 consts_1) (oN oX : Nat) (h0 : Heap) (O : Ext Z.heap h0) (Tn : Sta Z Z.heap "java/time/Instant" "MIN" "Ljava/time/Instant;" (.ref oN)) (Xn : Exa Z Z.heap oN "java/time/Instant") (Yn : Fld Z Z.heap oN "java/time/Instant" "seconds" "J" (.long (-31557014167219200 : Int64))) (Tx : Sta Z Z.heap "java/time/Instant" "MAX" "Ljava/time/Instant;" (.ref oX)) (Xx : Exa Z Z.heap oX "java/time/Instant") (Yx : Fld Z Z.heap oX "java/time/Instant" "seconds" "J" (.long (31556889864403199 : Int64)))  :
    Con l Z consts_1 (⟨"java/time/Instant", "compareTo", "(Ljava/time/Instant;)I"⟩ : MethodName) jdk_2320_method_41_code 3 (Option.some Jvm.ClassFile.FieldType.int) ({ frames := 1, cells := 0, slots := 0, locals := 15 } : Room) #[(.ref oN), (.ref oX)] h0 [] (pureQ (some (.int (-1 : Int32))) h0) := by
  refine Con.of (a0 := a0) #[.val (.ref oN), .val (.ref oX), .unset] (plainFor_of_name pn_8) hE O all0 (fun m => by first | (simp [entryFrame, mkF, argsToLocals, Value.category]; done) | rfl) ?_
  intro p e s m below meth c T0 hx hby hml hnm hret hlk hh W0
  have Xnh := Xn.ext O
  have Ynh := Yn.ext O
  have lt_oN : oN < h0.size := Xnh.lt
  have Xxh := Xx.ext O
  have Yxh := Yx.ext O
  have lt_oX : oX < h0.size := Xxh.lt
  refine g_aloadN (pc' := 1) W0.here hx (hb hby d_jdk_2320_41_0) rfl rfl rfl ?_
  refine w_get (pc' := 4) W0 hx (hw _ (List.mem_of_getElem? w_123)) Via.refl Ynh (hb hby d_jdk_2320_41_1) rfl fun T135 W135 => ?_
  refine g_aloadN (pc' := 5) W135.here hx (hb hby d_jdk_2320_41_4) rfl rfl rfl ?_
  refine w_get (pc' := 8) W135 hx (hw _ (List.mem_of_getElem? w_123)) Via.refl Yxh (hb hby d_jdk_2320_41_5) rfl fun T136 W136 => ?_
  refine w_callSp (pc' := 11) (st := []) (y := (⟨"java/lang/Long", "compare", "(JJ)I"⟩ : MethodName)) W136 hx [(.long (-31557014167219200 : Int64)), (.long (31556889864403199 : Int64))] (hw _ (List.mem_of_getElem? w_125)) (hw _ (List.mem_of_getElem? w_126)) (hw _ (List.mem_of_getElem? w_127)) (hw _ (List.mem_of_getElem? w_128)) (by decide) (c_lcmp_nx l Z a0 hw hE h0 W136.old) (by rw [hml]; rfl) (lenOf pd_12 rfl) rfl (hb hby d_jdk_2320_41_8) (Nat.le_of_ble_eq_true rfl) (Nat.le_of_ble_eq_true rfl) rfl rfl (Nat.le_of_ble_eq_true rfl) (Nat.le_of_ble_eq_true rfl) rfl fun T137 W137 => ?_
  refine g_istoreN (pc' := 12) (Ls' := #[.val (.ref oN), .val (.ref oX), .val (.int (-1 : Int32))]) W137.here hx (hb hby d_jdk_2320_41_11) rfl rfl ?_
  refine g_iloadN (pc' := 13) W137.here hx (hb hby d_jdk_2320_41_12) rfl rfl ?_
  refine g_ifN (pc' := 16) W137.here hx (hb hby d_jdk_2320_41_13) rfl (feq (show ¬ ((-1 : Int32) = (0 : Int32)) from (by decide))).1 ?_
  refine g_iloadN (pc' := 17) W137.here hx (hb hby d_jdk_2320_41_16) rfl rfl ?_
  refine w_retI W137 hx hh hlk hret (hb hby d_jdk_2320_41_17) (Nat.le_of_ble_eq_true rfl) (Nat.le_of_ble_eq_true rfl) ?_
  exact ⟨rfl, rfl⟩
set_option maxRecDepth 65536 in
set_option maxHeartbeats 40000000 in
theorem c_cmp_xn (l : Launch) (Z : State) (a0 : Array Value) (hw : ∀ d ∈ tables_1, d.before a0 Z = true) (hE : EW Z a0 consts_1) (oN oX : Nat) (h0 : Heap) (O : Ext Z.heap h0) (Tn : Sta Z Z.heap "java/time/Instant" "MIN" "Ljava/time/Instant;" (.ref oN)) (Xn : Exa Z Z.heap oN "java/time/Instant") (Yn : Fld Z Z.heap oN "java/time/Instant" "seconds" "J" (.long (-31557014167219200 : Int64))) (Tx : Sta Z Z.heap "java/time/Instant" "MAX" "Ljava/time/Instant;" (.ref oX)) (Xx : Exa Z Z.heap oX "java/time/Instant") (Yx : Fld Z Z.heap oX "java/time/Instant" "seconds" "J" (.long (31556889864403199 : Int64)))  :
    Con l Z consts_1 (⟨"java/time/Instant", "compareTo", "(Ljava/time/Instant;)I"⟩ : MethodName) jdk_2320_method_41_code 3 (Option.some Jvm.ClassFile.FieldType.int) ({ frames := 1, cells := 0, slots := 0, locals := 15 } : Room) #[(.ref oX), (.ref oN)] h0 [] (pureQ (some (.int (1 : Int32))) h0) := by
  refine Con.of (a0 := a0) #[.val (.ref oX), .val (.ref oN), .unset] (plainFor_of_name pn_8) hE O all0 (fun m => by first | (simp [entryFrame, mkF, argsToLocals, Value.category]; done) | rfl) ?_
  intro p e s m below meth c T0 hx hby hml hnm hret hlk hh W0
  have Xnh := Xn.ext O
  have Ynh := Yn.ext O
  have lt_oN : oN < h0.size := Xnh.lt
  have Xxh := Xx.ext O
  have Yxh := Yx.ext O
  have lt_oX : oX < h0.size := Xxh.lt
  refine g_aloadN (pc' := 1) W0.here hx (hb hby d_jdk_2320_41_0) rfl rfl rfl ?_
  refine w_get (pc' := 4) W0 hx (hw _ (List.mem_of_getElem? w_123)) Via.refl Yxh (hb hby d_jdk_2320_41_1) rfl fun T138 W138 => ?_
  refine g_aloadN (pc' := 5) W138.here hx (hb hby d_jdk_2320_41_4) rfl rfl rfl ?_
  refine w_get (pc' := 8) W138 hx (hw _ (List.mem_of_getElem? w_123)) Via.refl Ynh (hb hby d_jdk_2320_41_5) rfl fun T139 W139 => ?_
  refine w_callSp (pc' := 11) (st := []) (y := (⟨"java/lang/Long", "compare", "(JJ)I"⟩ : MethodName)) W139 hx [(.long (31556889864403199 : Int64)), (.long (-31557014167219200 : Int64))] (hw _ (List.mem_of_getElem? w_125)) (hw _ (List.mem_of_getElem? w_126)) (hw _ (List.mem_of_getElem? w_127)) (hw _ (List.mem_of_getElem? w_128)) (by decide) (c_lcmp_xn l Z a0 hw hE h0 W139.old) (by rw [hml]; rfl) (lenOf pd_12 rfl) rfl (hb hby d_jdk_2320_41_8) (Nat.le_of_ble_eq_true rfl) (Nat.le_of_ble_eq_true rfl) rfl rfl (Nat.le_of_ble_eq_true rfl) (Nat.le_of_ble_eq_true rfl) rfl fun T140 W140 => ?_
  refine g_istoreN (pc' := 12) (Ls' := #[.val (.ref oX), .val (.ref oN), .val (.int (1 : Int32))]) W140.here hx (hb hby d_jdk_2320_41_11) rfl rfl ?_
  refine g_iloadN (pc' := 13) W140.here hx (hb hby d_jdk_2320_41_12) rfl rfl ?_
  refine g_ifN (pc' := 16) W140.here hx (hb hby d_jdk_2320_41_13) rfl (feq (show ¬ ((1 : Int32) = (0 : Int32)) from (by decide))).1 ?_
  refine g_iloadN (pc' := 17) W140.here hx (hb hby d_jdk_2320_41_16) rfl rfl ?_
  refine w_retI W140 hx hh hlk hret (hb hby d_jdk_2320_41_17) (Nat.le_of_ble_eq_true rfl) (Nat.le_of_ble_eq_true rfl) ?_
  exact ⟨rfl, rfl⟩
set_option maxRecDepth 65536 in
set_option maxHeartbeats 40000000 in
theorem c_isAfter (l : Launch) (Z : State) (a0 : Array Value) (hw : ∀ d ∈ tables_1, d.before a0 Z = true) (hE : EW Z a0 consts_1) (oN oX : Nat) (h0 : Heap) (O : Ext Z.heap h0) (Tn : Sta Z Z.heap "java/time/Instant" "MIN" "Ljava/time/Instant;" (.ref oN)) (Xn : Exa Z Z.heap oN "java/time/Instant") (Yn : Fld Z Z.heap oN "java/time/Instant" "seconds" "J" (.long (-31557014167219200 : Int64))) (Tx : Sta Z Z.heap "java/time/Instant" "MAX" "Ljava/time/Instant;" (.ref oX)) (Xx : Exa Z Z.heap oX "java/time/Instant") (Yx : Fld Z Z.heap oX "java/time/Instant" "seconds" "J" (.long (31556889864403199 : Int64)))  :
    Con l Z consts_1 (⟨"java/time/Instant", "isAfter", "(Ljava/time/Instant;)Z"⟩ : MethodName) jdk_2320_method_42_code 2 (Option.some Jvm.ClassFile.FieldType.boolean) ({ frames := 2, cells := 0, slots := 0, locals := 29 } : Room) #[(.ref oN), (.ref oX)] h0 [] (pureQ (some (.int 0)) h0) := by
  refine Con.of (a0 := a0) #[.val (.ref oN), .val (.ref oX)] (plainFor_of_name pn_8) hE O all0 (fun m => by first | (simp [entryFrame, mkF, argsToLocals, Value.category]; done) | rfl) ?_
  intro p e s m below meth c T0 hx hby hml hnm hret hlk hh W0
  have Xnh := Xn.ext O
  have Ynh := Yn.ext O
  have lt_oN : oN < h0.size := Xnh.lt
  have Xxh := Xx.ext O
  have Yxh := Yx.ext O
  have lt_oX : oX < h0.size := Xxh.lt
  refine g_aloadN (pc' := 1) W0.here hx (hb hby d_jdk_2320_42_0) rfl rfl rfl ?_
  refine g_aloadN (pc' := 2) W0.here hx (hb hby d_jdk_2320_42_1) rfl rfl rfl ?_
  refine w_virtualp (pc' := 5) (st := []) (y := (⟨"java/time/Instant", "compareTo", "(Ljava/time/Instant;)I"⟩ : MethodName)) (z := (⟨"java/time/Instant", "compareTo", "(Ljava/time/Instant;)I"⟩ : MethodName)) (a := oN) W0 hx [(.ref oX)] (hw _ (List.mem_of_getElem? w_118)) (hw _ (List.mem_of_getElem? w_119)) (nfS (z := (⟨"java/time/Instant", "compareTo", "(Ljava/time/Instant;)I"⟩ : MethodName)) (hw _ (List.mem_of_getElem? w_121))) (hw _ (List.mem_of_getElem? w_121)) (hw _ (List.mem_of_getElem? w_120)) (hw _ (List.mem_of_getElem? w_41)) (hw _ (List.mem_of_getElem? w_122)) (by decide) (c_cmp_nx l Z a0 hw hE oN oX h0 W0.old Tn Xn Yn Tx Xx Yx) Xnh (by rw [hml]; rfl) (lenOf pd_13 rfl) rfl (hb hby d_jdk_2320_42_2) (Nat.le_of_ble_eq_true rfl) (Nat.le_of_ble_eq_true rfl) rfl rfl (Nat.le_of_ble_eq_true rfl) (Nat.le_of_ble_eq_true rfl) rfl fun T141 W141 => ?_
  refine g_ifY (pc' := 12) W141.here hx (hb hby d_jdk_2320_42_5) rfl (flt (show ¬ ((0 : Int32) < (-1 : Int32)) from (by decide))).2.2.2 ?_
  refine g_iconst (0 : Int32) (pc' := 13) W141.here hx (hb hby d_jdk_2320_42_12) rfl rfl ?_
  refine w_retN (t := .boolean) W141 hx hh hlk hret (by simp) (hb hby d_jdk_2320_42_13) (Nat.le_of_ble_eq_true rfl) (Nat.le_of_ble_eq_true rfl) ?_
  exact ⟨rfl, rfl⟩
set_option maxRecDepth 65536 in
set_option maxHeartbeats 40000000 in
theorem c_isBefore (l : Launch) (Z : State) (a0 : Array Value) (hw : ∀ d ∈ tables_1, d.before a0 Z = true) (hE : EW Z a0 consts_1) (oN oX : Nat) (h0 : Heap) (O : Ext Z.heap h0) (Tn : Sta Z Z.heap "java/time/Instant" "MIN" "Ljava/time/Instant;" (.ref oN)) (Xn : Exa Z Z.heap oN "java/time/Instant") (Yn : Fld Z Z.heap oN "java/time/Instant" "seconds" "J" (.long (-31557014167219200 : Int64))) (Tx : Sta Z Z.heap "java/time/Instant" "MAX" "Ljava/time/Instant;" (.ref oX)) (Xx : Exa Z Z.heap oX "java/time/Instant") (Yx : Fld Z Z.heap oX "java/time/Instant" "seconds" "J" (.long (31556889864403199 : Int64)))  :
    Con l Z consts_1 (⟨"java/time/Instant", "isBefore", "(Ljava/time/Instant;)Z"⟩ : MethodName) jdk_2320_method_43_code 2 (Option.some Jvm.ClassFile.FieldType.boolean) ({ frames := 2, cells := 0, slots := 0, locals := 29 } : Room) #[(.ref oX), (.ref oN)] h0 [] (pureQ (some (.int 0)) h0) := by
  refine Con.of (a0 := a0) #[.val (.ref oX), .val (.ref oN)] (plainFor_of_name pn_8) hE O all0 (fun m => by first | (simp [entryFrame, mkF, argsToLocals, Value.category]; done) | rfl) ?_
  intro p e s m below meth c T0 hx hby hml hnm hret hlk hh W0
  have Xnh := Xn.ext O
  have Ynh := Yn.ext O
  have lt_oN : oN < h0.size := Xnh.lt
  have Xxh := Xx.ext O
  have Yxh := Yx.ext O
  have lt_oX : oX < h0.size := Xxh.lt
  refine g_aloadN (pc' := 1) W0.here hx (hb hby d_jdk_2320_43_0) rfl rfl rfl ?_
  refine g_aloadN (pc' := 2) W0.here hx (hb hby d_jdk_2320_43_1) rfl rfl rfl ?_
  refine w_virtualp (pc' := 5) (st := []) (y := (⟨"java/time/Instant", "compareTo", "(Ljava/time/Instant;)I"⟩ : MethodName)) (z := (⟨"java/time/Instant", "compareTo", "(Ljava/time/Instant;)I"⟩ : MethodName)) (a := oX) W0 hx [(.ref oN)] (hw _ (List.mem_of_getElem? w_118)) (hw _ (List.mem_of_getElem? w_119)) (nfS (z := (⟨"java/time/Instant", "compareTo", "(Ljava/time/Instant;)I"⟩ : MethodName)) (hw _ (List.mem_of_getElem? w_121))) (hw _ (List.mem_of_getElem? w_121)) (hw _ (List.mem_of_getElem? w_120)) (hw _ (List.mem_of_getElem? w_41)) (hw _ (List.mem_of_getElem? w_122)) (by decide) (c_cmp_xn l Z a0 hw hE oN oX h0 W0.old Tn Xn Yn Tx Xx Yx) Xxh (by rw [hml]; rfl) (lenOf pd_13 rfl) rfl (hb hby d_jdk_2320_43_2) (Nat.le_of_ble_eq_true rfl) (Nat.le_of_ble_eq_true rfl) rfl rfl (Nat.le_of_ble_eq_true rfl) (Nat.le_of_ble_eq_true rfl) rfl fun T142 W142 => ?_
  refine g_ifY (pc' := 12) W142.here hx (hb hby d_jdk_2320_43_5) rfl (flt (show ¬ ((1 : Int32) < (0 : Int32)) from (by decide))).2.1 ?_
  refine g_iconst (0 : Int32) (pc' := 13) W142.here hx (hb hby d_jdk_2320_43_12) rfl rfl ?_
  refine w_retN (t := .boolean) W142 hx hh hlk hret (by simp) (hb hby d_jdk_2320_43_13) (Nat.le_of_ble_eq_true rfl) (Nat.le_of_ble_eq_true rfl) ?_
  exact ⟨rfl, rfl⟩
set_option maxRecDepth 65536 in
set_option maxHeartbeats 40000000 in
theorem c_get_destination (l : Launch) (Z : State) (a0 : Array Value) (hw : ∀ d ∈ tables_1, d.before a0 Z = true) (hE : EW Z a0 consts_1) (o : Nat) (u : Value) (h0 : Heap) (O : Ext Z.heap h0) (hu : u.isRef = true) (F1 : Fld Z h0 o "com/example/despatch/despatch/messaging/MailboxQuery" "destination" "Ljava/lang/String;" u) :
    Con l Z consts_1 (⟨"com/example/despatch/despatch/messaging/MailboxQuery", "destination", "()Ljava/lang/String;"⟩ : MethodName) prog_16_method_12_code 1 (Option.some (Jvm.ClassFile.FieldType.object "java/lang/String")) ({ frames := 0, cells := 0, slots := 0, locals := 0 } : Room) #[(.ref o)] h0 [] (pureQ (some u) h0) := by
  refine Con.of (a0 := a0) #[.val (.ref o)] (plainFor_of_name pn_6) hE O all0 (fun m => by first | (simp [entryFrame, mkF, argsToLocals, Value.category]; done) | rfl) ?_
  intro p e s m below meth c T0 hx hby hml hnm hret hlk hh W0
  refine g_aloadN (pc' := 1) W0.here hx (hb hby d_prog_16_12_0) rfl rfl rfl ?_
  refine w_get (pc' := 4) W0 hx (hw _ (List.mem_of_getElem? w_66)) Via.refl F1 (hb hby d_prog_16_12_1) rfl fun T143 W143 => ?_
  refine w_retA W143 hx hh hlk hret rfl hu (hb hby d_prog_16_12_4) (Nat.le_of_ble_eq_true rfl) (Nat.le_of_ble_eq_true rfl) ?_
  exact ⟨rfl, rfl⟩
set_option maxRecDepth 65536 in
set_option maxHeartbeats 40000000 in
theorem c_get_from (l : Launch) (Z : State) (a0 : Array Value) (hw : ∀ d ∈ tables_1, d.before a0 Z = true) (hE : EW Z a0 consts_1) (o : Nat) (u : Value) (h0 : Heap) (O : Ext Z.heap h0) (hu : u.isRef = true) (F1 : Fld Z h0 o "com/example/despatch/despatch/messaging/MailboxQuery" "from" "Ljava/time/Instant;" u) :
    Con l Z consts_1 (⟨"com/example/despatch/despatch/messaging/MailboxQuery", "from", "()Ljava/time/Instant;"⟩ : MethodName) prog_16_method_13_code 1 (Option.some (Jvm.ClassFile.FieldType.object "java/time/Instant")) ({ frames := 0, cells := 0, slots := 0, locals := 0 } : Room) #[(.ref o)] h0 [] (pureQ (some u) h0) := by
  refine Con.of (a0 := a0) #[.val (.ref o)] (plainFor_of_name pn_6) hE O all0 (fun m => by first | (simp [entryFrame, mkF, argsToLocals, Value.category]; done) | rfl) ?_
  intro p e s m below meth c T0 hx hby hml hnm hret hlk hh W0
  refine g_aloadN (pc' := 1) W0.here hx (hb hby d_prog_16_13_0) rfl rfl rfl ?_
  refine w_get (pc' := 4) W0 hx (hw _ (List.mem_of_getElem? w_68)) Via.refl F1 (hb hby d_prog_16_13_1) rfl fun T144 W144 => ?_
  refine w_retA W144 hx hh hlk hret rfl hu (hb hby d_prog_16_13_4) (Nat.le_of_ble_eq_true rfl) (Nat.le_of_ble_eq_true rfl) ?_
  exact ⟨rfl, rfl⟩
set_option maxRecDepth 65536 in
set_option maxHeartbeats 40000000 in
theorem c_get_before (l : Launch) (Z : State) (a0 : Array Value) (hw : ∀ d ∈ tables_1, d.before a0 Z = true) (hE : EW Z a0 consts_1) (o : Nat) (u : Value) (h0 : Heap) (O : Ext Z.heap h0) (hu : u.isRef = true) (F1 : Fld Z h0 o "com/example/despatch/despatch/messaging/MailboxQuery" "before" "Ljava/time/Instant;" u) :
    Con l Z consts_1 (⟨"com/example/despatch/despatch/messaging/MailboxQuery", "before", "()Ljava/time/Instant;"⟩ : MethodName) prog_16_method_14_code 1 (Option.some (Jvm.ClassFile.FieldType.object "java/time/Instant")) ({ frames := 0, cells := 0, slots := 0, locals := 0 } : Room) #[(.ref o)] h0 [] (pureQ (some u) h0) := by
  refine Con.of (a0 := a0) #[.val (.ref o)] (plainFor_of_name pn_6) hE O all0 (fun m => by first | (simp [entryFrame, mkF, argsToLocals, Value.category]; done) | rfl) ?_
  intro p e s m below meth c T0 hx hby hml hnm hret hlk hh W0
  refine g_aloadN (pc' := 1) W0.here hx (hb hby d_prog_16_14_0) rfl rfl rfl ?_
  refine w_get (pc' := 4) W0 hx (hw _ (List.mem_of_getElem? w_70)) Via.refl F1 (hb hby d_prog_16_14_1) rfl fun T145 W145 => ?_
  refine w_retA W145 hx hh hlk hret rfl hu (hb hby d_prog_16_14_4) (Nat.le_of_ble_eq_true rfl) (Nat.le_of_ble_eq_true rfl) ?_
  exact ⟨rfl, rfl⟩
set_option maxRecDepth 65536 in
set_option maxHeartbeats 40000000 in
theorem c_get_offset (l : Launch) (Z : State) (a0 : Array Value) (hw : ∀ d ∈ tables_1, d.before a0 Z = true) (hE : EW Z a0 consts_1) (o : Nat) (u : Int32) (h0 : Heap) (O : Ext Z.heap h0) (F1 : Fld Z h0 o "com/example/despatch/despatch/messaging/MailboxQuery" "offset" "I" (.int u)) :
    Con l Z consts_1 (⟨"com/example/despatch/despatch/messaging/MailboxQuery", "offset", "()I"⟩ : MethodName) prog_16_method_16_code 1 (Option.some Jvm.ClassFile.FieldType.int) ({ frames := 0, cells := 0, slots := 0, locals := 0 } : Room) #[(.ref o)] h0 [] (pureQ (some (.int u)) h0) := by
  refine Con.of (a0 := a0) #[.val (.ref o)] (plainFor_of_name pn_6) hE O all0 (fun m => by first | (simp [entryFrame, mkF, argsToLocals, Value.category]; done) | rfl) ?_
  intro p e s m below meth c T0 hx hby hml hnm hret hlk hh W0
  refine g_aloadN (pc' := 1) W0.here hx (hb hby d_prog_16_16_0) rfl rfl rfl ?_
  refine w_get (pc' := 4) W0 hx (hw _ (List.mem_of_getElem? w_74)) Via.refl F1 (hb hby d_prog_16_16_1) rfl fun T146 W146 => ?_
  refine w_retI W146 hx hh hlk hret (hb hby d_prog_16_16_4) (Nat.le_of_ble_eq_true rfl) (Nat.le_of_ble_eq_true rfl) ?_
  exact ⟨rfl, rfl⟩
set_option maxRecDepth 65536 in
set_option maxHeartbeats 40000000 in
theorem c_get_count (l : Launch) (Z : State) (a0 : Array Value) (hw : ∀ d ∈ tables_1, d.before a0 Z = true) (hE : EW Z a0 consts_1) (o : Nat) (u : Int32) (h0 : Heap) (O : Ext Z.heap h0) (F1 : Fld Z h0 o "com/example/despatch/despatch/messaging/MailboxQuery" "count" "I" (.int u)) :
    Con l Z consts_1 (⟨"com/example/despatch/despatch/messaging/MailboxQuery", "count", "()I"⟩ : MethodName) prog_16_method_17_code 1 (Option.some Jvm.ClassFile.FieldType.int) ({ frames := 0, cells := 0, slots := 0, locals := 0 } : Room) #[(.ref o)] h0 [] (pureQ (some (.int u)) h0) := by
  refine Con.of (a0 := a0) #[.val (.ref o)] (plainFor_of_name pn_6) hE O all0 (fun m => by first | (simp [entryFrame, mkF, argsToLocals, Value.category]; done) | rfl) ?_
  intro p e s m below meth c T0 hx hby hml hnm hret hlk hh W0
  refine g_aloadN (pc' := 1) W0.here hx (hb hby d_prog_16_17_0) rfl rfl rfl ?_
  refine w_get (pc' := 4) W0 hx (hw _ (List.mem_of_getElem? w_76)) Via.refl F1 (hb hby d_prog_16_17_1) rfl fun T147 W147 => ?_
  refine w_retI W147 hx hh hlk hret (hb hby d_prog_16_17_4) (Nat.le_of_ble_eq_true rfl) (Nat.le_of_ble_eq_true rfl) ?_
  exact ⟨rfl, rfl⟩
set_option maxRecDepth 65536 in
set_option maxHeartbeats 40000000 in
theorem c_of (l : Launch) (Z : State) (a0 : Array Value) (hw : ∀ d ∈ tables_1, d.before a0 Z = true) (hE : EW Z a0 consts_1) (sa oN oX : Nat) (h0 : Heap) (O : Ext Z.heap h0) (Tn : Sta Z Z.heap "java/time/Instant" "MIN" "Ljava/time/Instant;" (.ref oN)) (Xn : Exa Z Z.heap oN "java/time/Instant") (Yn : Fld Z Z.heap oN "java/time/Instant" "seconds" "J" (.long (-31557014167219200 : Int64))) (Tx : Sta Z Z.heap "java/time/Instant" "MAX" "Ljava/time/Instant;" (.ref oX)) (Xx : Exa Z Z.heap oX "java/time/Instant") (Yx : Fld Z Z.heap oX "java/time/Instant" "seconds" "J" (.long (31556889864403199 : Int64))) (EX : Exa Z h0 sa "java/lang/String") :
    Con l Z consts_1 (⟨"com/example/despatch/despatch/messaging/MailboxQuery", "of", "(Ljava/lang/String;)Lcom/example/despatch/despatch/messaging/MailboxQuery;"⟩ : MethodName) prog_16_method_2_code 1 (Option.some (Jvm.ClassFile.FieldType.object "com/example/despatch/despatch/messaging/MailboxQuery")) ({ frames := 3, cells := 3, slots := 54, locals := 3077 } : Room) #[(.ref sa)] h0 [] (fun v h => ∃ o pr : Nat, v = some (.ref o) ∧ Exa Z h o "com/example/despatch/despatch/messaging/MailboxQuery" ∧ Fld Z h o "com/example/despatch/despatch/messaging/MailboxQuery" "destination" "Ljava/lang/String;" (.ref sa) ∧ Fld Z h o "com/example/despatch/despatch/messaging/MailboxQuery" "from" "Ljava/time/Instant;" (.ref oN) ∧ Fld Z h o "com/example/despatch/despatch/messaging/MailboxQuery" "before" "Ljava/time/Instant;" (.ref oX) ∧ Fld Z h o "com/example/despatch/despatch/messaging/MailboxQuery" "responseTo" "Ljava/util/function/Predicate;" (.ref pr) ∧ Fld Z h o "com/example/despatch/despatch/messaging/MailboxQuery" "offset" "I" (.int (0 : Int32)) ∧ Fld Z h o "com/example/despatch/despatch/messaging/MailboxQuery" "count" "I" (.int (20 : Int32))) := by
  refine Con.ofN (a0 := a0) #[.val (.ref sa)] (plainFor_of_name pn_6) hE O all0 (fun m => by first | (simp [entryFrame, mkF, argsToLocals, Value.category]; done) | rfl) ?_
  intro p e s m below meth c T0 hx hby hml hnm hret hlk hh hM W0
  have Xnh := Xn.ext O
  have Ynh := Yn.ext O
  have lt_oN : oN < h0.size := Xnh.lt
  have Xxh := Xx.ext O
  have Yxh := Yx.ext O
  have lt_oX : oX < h0.size := Xxh.lt
  have lt_sa : sa < h0.size := EX.lt
  refine w_new (pc' := 3) W0 hx (hw _ (List.mem_of_getElem? w_38)) (hw _ (List.mem_of_getElem? w_39)) (hw _ (List.mem_of_getElem? w_36)) (hb hby d_prog_16_2_0) (Nat.le_of_ble_eq_true rfl) (Nat.le_of_ble_eq_true rfl) rfl fun T148 h148 b148 g148 W148 K148 A148 D148 => ?_
  have z_K148 : h0.size ≤ h148.size := K148.1
  have ne_oN_b148 : oN ≠ b148 := by omega
  have ne_oX_b148 : oX ≠ b148 := by omega
  have ne_sa_b148 : sa ≠ b148 := by omega
  have lt_b148 : b148 < h148.size := W148.lt (List.mem_cons_self ..)
  have F148_destination : Fld Z h148 b148 "com/example/despatch/despatch/messaging/MailboxQuery" "destination" "Ljava/lang/String;" .null := D148 (Or.inr (hw _ (List.mem_of_getElem? w_67))) (ty := (.object "java/lang/String")) (by decide)
  have F148_from : Fld Z h148 b148 "com/example/despatch/despatch/messaging/MailboxQuery" "from" "Ljava/time/Instant;" .null := D148 (Or.inr (hw _ (List.mem_of_getElem? w_69))) (ty := (.object "java/time/Instant")) (by decide)
  have F148_before : Fld Z h148 b148 "com/example/despatch/despatch/messaging/MailboxQuery" "before" "Ljava/time/Instant;" .null := D148 (Or.inr (hw _ (List.mem_of_getElem? w_71))) (ty := (.object "java/time/Instant")) (by decide)
  have F148_responseTo : Fld Z h148 b148 "com/example/despatch/despatch/messaging/MailboxQuery" "responseTo" "Ljava/util/function/Predicate;" .null := D148 (Or.inr (hw _ (List.mem_of_getElem? w_73))) (ty := (.object "java/util/function/Predicate")) (by decide)
  have F148_offset : Fld Z h148 b148 "com/example/despatch/despatch/messaging/MailboxQuery" "offset" "I" (.int (0 : Int32)) := D148 (Or.inr (hw _ (List.mem_of_getElem? w_75))) (ty := .int) (by decide)
  have F148_count : Fld Z h148 b148 "com/example/despatch/despatch/messaging/MailboxQuery" "count" "I" (.int (0 : Int32)) := D148 (Or.inr (hw _ (List.mem_of_getElem? w_77))) (ty := .int) (by decide)
  refine g_dup (pc' := 4) W148.here hx (hb hby d_prog_16_2_3) rfl rfl ?_
  refine g_aloadN (pc' := 5) W148.here hx (hb hby d_prog_16_2_4) rfl rfl rfl ?_
  refine w_getS (pc' := 8) W148 hx (hw _ (List.mem_of_getElem? w_40)) Via.refl Tn (hb hby d_prog_16_2_5) rfl fun T149 W149 => ?_
  refine w_getS (pc' := 11) W149 hx (hw _ (List.mem_of_getElem? w_42)) Via.refl Tx (hb hby d_prog_16_2_8) rfl fun T150 W150 => ?_
  refine w_site (pc' := 16) (st := [(.ref oX), (.ref oN), (.ref sa), (.ref b148), (.ref b148)]) W150 hx (hw _ (List.mem_of_getElem? w_43)) hM rfl (by rw [hml]; rfl) (hb hby d_prog_16_2_11) (Nat.le_of_ble_eq_true rfl) rfl fun la151 => ?_
  refine g_iconst (0 : Int32) (pc' := 17) W150.here hx (hb hby d_prog_16_2_16) rfl rfl ?_
  refine g_bipush (20 : Int32) (pc' := 19) W150.here hx (hb hby d_prog_16_2_17) rfl rfl ?_
  refine w_special (pc' := 22) (st := [(.ref b148)]) (y := (⟨"com/example/despatch/despatch/messaging/MailboxQuery", "<init>", "(Ljava/lang/String;Ljava/time/Instant;Ljava/time/Instant;Ljava/util/function/Predicate;II)V"⟩ : MethodName)) (a := b148) W150 hx [(.ref sa), (.ref oN), (.ref oX), (.ref la151), (.int (0 : Int32)), (.int (20 : Int32))] rfl (hw _ (List.mem_of_getElem? w_46)) (hw _ (List.mem_of_getElem? w_47)) (hw _ (List.mem_of_getElem? w_36)) (hw _ (List.mem_of_getElem? w_48)) (by decide) (c_mqinit l Z a0 hw hE b148 sa oN oX la151 h148 W150.old (by have := O.1; omega) _ _ _ _ _ _ A148 F148_destination F148_from F148_before F148_responseTo F148_offset F148_count) (allS (List.mem_of_getElem? (i := 0) rfl) all0) (by rw [hml]; rfl) (lenOf pd_14 rfl) rfl (hb hby d_prog_16_2_19) (Nat.le_of_ble_eq_true rfl) (Nat.le_of_ble_eq_true rfl) (Nat.le_of_ble_eq_true rfl) (Nat.le_of_ble_eq_true rfl) rfl fun v152 T152 h152 W152 K152 Q152 => ?_
  have z_K152 : h148.size ≤ h152.size := K152.1
  obtain ⟨rfl, E153, F153_0, F153_1, F153_2, F153_3, F153_4, F153_5⟩ := Q152
  refine w_retA W152 hx hh hlk hret rfl rfl (hb hby d_prog_16_2_22) (Nat.le_of_ble_eq_true rfl) (Nat.le_of_ble_eq_true rfl) ?_
  exact ⟨_, _, rfl, E153, F153_0, F153_1, F153_2, F153_3, F153_4, F153_5⟩
set_option maxRecDepth 65536 in
set_option maxHeartbeats 40000000 in
theorem c_keptFrom (l : Launch) (Z : State) (a0 : Array Value) (hw : ∀ d ∈ tables_1, d.before a0 Z = true) (hE : EW Z a0 consts_1) (o sa oN oX pr : Nat) (h0 : Heap) (O : Ext Z.heap h0) (Tn : Sta Z Z.heap "java/time/Instant" "MIN" "Ljava/time/Instant;" (.ref oN)) (Xn : Exa Z Z.heap oN "java/time/Instant") (Yn : Fld Z Z.heap oN "java/time/Instant" "seconds" "J" (.long (-31557014167219200 : Int64))) (Tx : Sta Z Z.heap "java/time/Instant" "MAX" "Ljava/time/Instant;" (.ref oX)) (Xx : Exa Z Z.heap oX "java/time/Instant") (Yx : Fld Z Z.heap oX "java/time/Instant" "seconds" "J" (.long (31556889864403199 : Int64))) (E0 : Exa Z h0 o "com/example/despatch/despatch/messaging/MailboxQuery") (F0 : Fld Z h0 o "com/example/despatch/despatch/messaging/MailboxQuery" "destination" "Ljava/lang/String;" (.ref sa)) (F1 : Fld Z h0 o "com/example/despatch/despatch/messaging/MailboxQuery" "from" "Ljava/time/Instant;" (.ref oN)) (F2 : Fld Z h0 o "com/example/despatch/despatch/messaging/MailboxQuery" "before" "Ljava/time/Instant;" (.ref oX)) (F3 : Fld Z h0 o "com/example/despatch/despatch/messaging/MailboxQuery" "responseTo" "Ljava/util/function/Predicate;" (.ref pr)) (F4 : Fld Z h0 o "com/example/despatch/despatch/messaging/MailboxQuery" "offset" "I" (.int (0 : Int32))) (F5 : Fld Z h0 o "com/example/despatch/despatch/messaging/MailboxQuery" "count" "I" (.int (20 : Int32))) :
    Con l Z consts_1 (⟨"com/example/despatch/despatch/messaging/MailboxQuery", "keptFrom", "(Ljava/time/Instant;)Lcom/example/despatch/despatch/messaging/MailboxQuery;"⟩ : MethodName) prog_16_method_3_code 3 (Option.some (Jvm.ClassFile.FieldType.object "com/example/despatch/despatch/messaging/MailboxQuery")) ({ frames := 3, cells := 3, slots := 54, locals := 43 } : Room) #[(.ref o), (.ref oX)] h0 [] (fun v h => ∃ o2 : Nat, v = some (.ref o2) ∧ Exa Z h o2 "com/example/despatch/despatch/messaging/MailboxQuery" ∧ Fld Z h o2 "com/example/despatch/despatch/messaging/MailboxQuery" "from" "Ljava/time/Instant;" (.ref oX)) := by
  refine Con.of (a0 := a0) #[.val (.ref o), .val (.ref oX), .unset] (plainFor_of_name pn_6) hE O all0 (fun m => by first | (simp [entryFrame, mkF, argsToLocals, Value.category]; done) | rfl) ?_
  intro p e s m below meth c T0 hx hby hml hnm hret hlk hh W0
  have Xnh := Xn.ext O
  have Ynh := Yn.ext O
  have lt_oN : oN < h0.size := Xnh.lt
  have Xxh := Xx.ext O
  have Yxh := Yx.ext O
  have lt_oX : oX < h0.size := Xxh.lt
  have lt_o : o < h0.size := E0.lt
  refine g_aloadN (pc' := 1) W0.here hx (hb hby d_prog_16_3_0) rfl rfl rfl ?_
  refine w_get (pc' := 4) W0 hx (hw _ (List.mem_of_getElem? w_68)) Via.refl F1 (hb hby d_prog_16_3_1) rfl fun T154 W154 => ?_
  refine g_aloadN (pc' := 5) W154.here hx (hb hby d_prog_16_3_4) rfl rfl rfl ?_
  refine w_virtualp (pc' := 8) (st := []) (y := (⟨"java/time/Instant", "isAfter", "(Ljava/time/Instant;)Z"⟩ : MethodName)) (z := (⟨"java/time/Instant", "isAfter", "(Ljava/time/Instant;)Z"⟩ : MethodName)) (a := oN) W154 hx [(.ref oX)] (hw _ (List.mem_of_getElem? w_113)) (hw _ (List.mem_of_getElem? w_114)) (nfS (z := (⟨"java/time/Instant", "isAfter", "(Ljava/time/Instant;)Z"⟩ : MethodName)) (hw _ (List.mem_of_getElem? w_116))) (hw _ (List.mem_of_getElem? w_116)) (hw _ (List.mem_of_getElem? w_115)) (hw _ (List.mem_of_getElem? w_41)) (hw _ (List.mem_of_getElem? w_117)) (by decide) (c_isAfter l Z a0 hw hE oN oX h0 W154.old Tn Xn Yn Tx Xx Yx) Xnh (by rw [hml]; rfl) (lenOf pd_15 rfl) rfl (hb hby d_prog_16_3_5) (Nat.le_of_ble_eq_true rfl) (Nat.le_of_ble_eq_true rfl) rfl rfl (Nat.le_of_ble_eq_true rfl) (Nat.le_of_ble_eq_true rfl) rfl fun T155 W155 => ?_
  refine g_ifY (pc' := 18) W155.here hx (hb hby d_prog_16_3_8) rfl (teq (show (0 : Int32) = (0 : Int32) from (by decide))).1 ?_
  refine g_aloadN (pc' := 19) W155.here hx (hb hby d_prog_16_3_18) rfl rfl rfl ?_
  refine g_astoreN (pc' := 20) (Ls' := #[.val (.ref o), .val (.ref oX), .val (.ref oX)]) W155.here hx (hb hby d_prog_16_3_19) rfl rfl rfl ?_
  refine w_new (pc' := 23) W155 hx (hw _ (List.mem_of_getElem? w_38)) (hw _ (List.mem_of_getElem? w_39)) (hw _ (List.mem_of_getElem? w_36)) (hb hby d_prog_16_3_20) (Nat.le_of_ble_eq_true rfl) (Nat.le_of_ble_eq_true rfl) rfl fun T156 h156 b156 g156 W156 K156 A156 D156 => ?_
  have z_K156 : h0.size ≤ h156.size := K156.1
  have ne_oN_b156 : oN ≠ b156 := by omega
  have ne_oX_b156 : oX ≠ b156 := by omega
  have ne_o_b156 : o ≠ b156 := by omega
  have lt_b156 : b156 < h156.size := W156.lt (List.mem_cons_self ..)
  have F156_destination : Fld Z h156 b156 "com/example/despatch/despatch/messaging/MailboxQuery" "destination" "Ljava/lang/String;" .null := D156 (Or.inr (hw _ (List.mem_of_getElem? w_67))) (ty := (.object "java/lang/String")) (by decide)
  have F156_from : Fld Z h156 b156 "com/example/despatch/despatch/messaging/MailboxQuery" "from" "Ljava/time/Instant;" .null := D156 (Or.inr (hw _ (List.mem_of_getElem? w_69))) (ty := (.object "java/time/Instant")) (by decide)
  have F156_before : Fld Z h156 b156 "com/example/despatch/despatch/messaging/MailboxQuery" "before" "Ljava/time/Instant;" .null := D156 (Or.inr (hw _ (List.mem_of_getElem? w_71))) (ty := (.object "java/time/Instant")) (by decide)
  have F156_responseTo : Fld Z h156 b156 "com/example/despatch/despatch/messaging/MailboxQuery" "responseTo" "Ljava/util/function/Predicate;" .null := D156 (Or.inr (hw _ (List.mem_of_getElem? w_73))) (ty := (.object "java/util/function/Predicate")) (by decide)
  have F156_offset : Fld Z h156 b156 "com/example/despatch/despatch/messaging/MailboxQuery" "offset" "I" (.int (0 : Int32)) := D156 (Or.inr (hw _ (List.mem_of_getElem? w_75))) (ty := .int) (by decide)
  have F156_count : Fld Z h156 b156 "com/example/despatch/despatch/messaging/MailboxQuery" "count" "I" (.int (0 : Int32)) := D156 (Or.inr (hw _ (List.mem_of_getElem? w_77))) (ty := .int) (by decide)
  refine g_dup (pc' := 24) W156.here hx (hb hby d_prog_16_3_23) rfl rfl ?_
  refine g_aloadN (pc' := 25) W156.here hx (hb hby d_prog_16_3_24) rfl rfl rfl ?_
  have c157 := (F0.keep K156 nin0)
  refine w_get (pc' := 28) W156 hx (hw _ (List.mem_of_getElem? w_66)) Via.refl c157 (hb hby d_prog_16_3_25) rfl fun T158 W158 => ?_
  refine g_aloadN (pc' := 29) W158.here hx (hb hby d_prog_16_3_28) rfl rfl rfl ?_
  refine g_aloadN (pc' := 30) W158.here hx (hb hby d_prog_16_3_29) rfl rfl rfl ?_
  have c159 := (F2.keep K156 nin0)
  refine w_get (pc' := 33) W158 hx (hw _ (List.mem_of_getElem? w_70)) Via.refl c159 (hb hby d_prog_16_3_30) rfl fun T160 W160 => ?_
  refine g_aloadN (pc' := 34) W160.here hx (hb hby d_prog_16_3_33) rfl rfl rfl ?_
  have c161 := (F3.keep K156 nin0)
  refine w_get (pc' := 37) W160 hx (hw _ (List.mem_of_getElem? w_72)) Via.refl c161 (hb hby d_prog_16_3_34) rfl fun T162 W162 => ?_
  refine g_aloadN (pc' := 38) W162.here hx (hb hby d_prog_16_3_37) rfl rfl rfl ?_
  have c163 := (F4.keep K156 nin0)
  refine w_get (pc' := 41) W162 hx (hw _ (List.mem_of_getElem? w_74)) Via.refl c163 (hb hby d_prog_16_3_38) rfl fun T164 W164 => ?_
  refine g_aloadN (pc' := 42) W164.here hx (hb hby d_prog_16_3_41) rfl rfl rfl ?_
  have c165 := (F5.keep K156 nin0)
  refine w_get (pc' := 45) W164 hx (hw _ (List.mem_of_getElem? w_76)) Via.refl c165 (hb hby d_prog_16_3_42) rfl fun T166 W166 => ?_
  refine w_special (pc' := 48) (st := [(.ref b156)]) (y := (⟨"com/example/despatch/despatch/messaging/MailboxQuery", "<init>", "(Ljava/lang/String;Ljava/time/Instant;Ljava/time/Instant;Ljava/util/function/Predicate;II)V"⟩ : MethodName)) (a := b156) W166 hx [(.ref sa), (.ref oX), (.ref oX), (.ref pr), (.int (0 : Int32)), (.int (20 : Int32))] rfl (hw _ (List.mem_of_getElem? w_46)) (hw _ (List.mem_of_getElem? w_47)) (hw _ (List.mem_of_getElem? w_36)) (hw _ (List.mem_of_getElem? w_48)) (by decide) (c_mqinit l Z a0 hw hE b156 sa oX oX pr h156 W166.old (by have := O.1; omega) _ _ _ _ _ _ A156 F156_destination F156_from F156_before F156_responseTo F156_offset F156_count) (allS (List.mem_of_getElem? (i := 0) rfl) all0) (by rw [hml]; rfl) (lenOf pd_14 rfl) rfl (hb hby d_prog_16_3_45) (Nat.le_of_ble_eq_true rfl) (Nat.le_of_ble_eq_true rfl) (Nat.le_of_ble_eq_true rfl) (Nat.le_of_ble_eq_true rfl) rfl fun v167 T167 h167 W167 K167 Q167 => ?_
  have z_K167 : h156.size ≤ h167.size := K167.1
  obtain ⟨rfl, E168, F168_0, F168_1, F168_2, F168_3, F168_4, F168_5⟩ := Q167
  refine w_retA W167 hx hh hlk hret rfl rfl (hb hby d_prog_16_3_48) (Nat.le_of_ble_eq_true rfl) (Nat.le_of_ble_eq_true rfl) ?_
  exact ⟨_, rfl, E168, F168_1⟩
set_option maxRecDepth 65536 in
set_option maxHeartbeats 40000000 in
theorem c_keptBefore (l : Launch) (Z : State) (a0 : Array Value) (hw : ∀ d ∈ tables_1, d.before a0 Z = true) (hE : EW Z a0 consts_1) (o sa oN oX pr : Nat) (h0 : Heap) (O : Ext Z.heap h0) (Tn : Sta Z Z.heap "java/time/Instant" "MIN" "Ljava/time/Instant;" (.ref oN)) (Xn : Exa Z Z.heap oN "java/time/Instant") (Yn : Fld Z Z.heap oN "java/time/Instant" "seconds" "J" (.long (-31557014167219200 : Int64))) (Tx : Sta Z Z.heap "java/time/Instant" "MAX" "Ljava/time/Instant;" (.ref oX)) (Xx : Exa Z Z.heap oX "java/time/Instant") (Yx : Fld Z Z.heap oX "java/time/Instant" "seconds" "J" (.long (31556889864403199 : Int64))) (E0 : Exa Z h0 o "com/example/despatch/despatch/messaging/MailboxQuery") (F0 : Fld Z h0 o "com/example/despatch/despatch/messaging/MailboxQuery" "destination" "Ljava/lang/String;" (.ref sa)) (F1 : Fld Z h0 o "com/example/despatch/despatch/messaging/MailboxQuery" "from" "Ljava/time/Instant;" (.ref oN)) (F2 : Fld Z h0 o "com/example/despatch/despatch/messaging/MailboxQuery" "before" "Ljava/time/Instant;" (.ref oX)) (F3 : Fld Z h0 o "com/example/despatch/despatch/messaging/MailboxQuery" "responseTo" "Ljava/util/function/Predicate;" (.ref pr)) (F4 : Fld Z h0 o "com/example/despatch/despatch/messaging/MailboxQuery" "offset" "I" (.int (0 : Int32))) (F5 : Fld Z h0 o "com/example/despatch/despatch/messaging/MailboxQuery" "count" "I" (.int (20 : Int32))) :
    Con l Z consts_1 (⟨"com/example/despatch/despatch/messaging/MailboxQuery", "keptBefore", "(Ljava/time/Instant;)Lcom/example/despatch/despatch/messaging/MailboxQuery;"⟩ : MethodName) prog_16_method_4_code 3 (Option.some (Jvm.ClassFile.FieldType.object "com/example/despatch/despatch/messaging/MailboxQuery")) ({ frames := 3, cells := 3, slots := 54, locals := 43 } : Room) #[(.ref o), (.ref oN)] h0 [] (fun v h => ∃ o2 : Nat, v = some (.ref o2) ∧ Exa Z h o2 "com/example/despatch/despatch/messaging/MailboxQuery" ∧ Fld Z h o2 "com/example/despatch/despatch/messaging/MailboxQuery" "before" "Ljava/time/Instant;" (.ref oN)) := by
  refine Con.of (a0 := a0) #[.val (.ref o), .val (.ref oN), .unset] (plainFor_of_name pn_6) hE O all0 (fun m => by first | (simp [entryFrame, mkF, argsToLocals, Value.category]; done) | rfl) ?_
  intro p e s m below meth c T0 hx hby hml hnm hret hlk hh W0
  have Xnh := Xn.ext O
  have Ynh := Yn.ext O
  have lt_oN : oN < h0.size := Xnh.lt
  have Xxh := Xx.ext O
  have Yxh := Yx.ext O
  have lt_oX : oX < h0.size := Xxh.lt
  have lt_o : o < h0.size := E0.lt
  refine g_aloadN (pc' := 1) W0.here hx (hb hby d_prog_16_4_0) rfl rfl rfl ?_
  refine w_get (pc' := 4) W0 hx (hw _ (List.mem_of_getElem? w_70)) Via.refl F2 (hb hby d_prog_16_4_1) rfl fun T169 W169 => ?_
  refine g_aloadN (pc' := 5) W169.here hx (hb hby d_prog_16_4_4) rfl rfl rfl ?_
  refine w_virtualp (pc' := 8) (st := []) (y := (⟨"java/time/Instant", "isBefore", "(Ljava/time/Instant;)Z"⟩ : MethodName)) (z := (⟨"java/time/Instant", "isBefore", "(Ljava/time/Instant;)Z"⟩ : MethodName)) (a := oX) W169 hx [(.ref oN)] (hw _ (List.mem_of_getElem? w_134)) (hw _ (List.mem_of_getElem? w_135)) (nfS (z := (⟨"java/time/Instant", "isBefore", "(Ljava/time/Instant;)Z"⟩ : MethodName)) (hw _ (List.mem_of_getElem? w_137))) (hw _ (List.mem_of_getElem? w_137)) (hw _ (List.mem_of_getElem? w_136)) (hw _ (List.mem_of_getElem? w_41)) (hw _ (List.mem_of_getElem? w_138)) (by decide) (c_isBefore l Z a0 hw hE oN oX h0 W169.old Tn Xn Yn Tx Xx Yx) Xxh (by rw [hml]; rfl) (lenOf pd_15 rfl) rfl (hb hby d_prog_16_4_5) (Nat.le_of_ble_eq_true rfl) (Nat.le_of_ble_eq_true rfl) rfl rfl (Nat.le_of_ble_eq_true rfl) (Nat.le_of_ble_eq_true rfl) rfl fun T170 W170 => ?_
  refine g_ifY (pc' := 18) W170.here hx (hb hby d_prog_16_4_8) rfl (teq (show (0 : Int32) = (0 : Int32) from (by decide))).1 ?_
  refine g_aloadN (pc' := 19) W170.here hx (hb hby d_prog_16_4_18) rfl rfl rfl ?_
  refine g_astoreN (pc' := 20) (Ls' := #[.val (.ref o), .val (.ref oN), .val (.ref oN)]) W170.here hx (hb hby d_prog_16_4_19) rfl rfl rfl ?_
  refine w_new (pc' := 23) W170 hx (hw _ (List.mem_of_getElem? w_38)) (hw _ (List.mem_of_getElem? w_39)) (hw _ (List.mem_of_getElem? w_36)) (hb hby d_prog_16_4_20) (Nat.le_of_ble_eq_true rfl) (Nat.le_of_ble_eq_true rfl) rfl fun T171 h171 b171 g171 W171 K171 A171 D171 => ?_
  have z_K171 : h0.size ≤ h171.size := K171.1
  have ne_oN_b171 : oN ≠ b171 := by omega
  have ne_oX_b171 : oX ≠ b171 := by omega
  have ne_o_b171 : o ≠ b171 := by omega
  have lt_b171 : b171 < h171.size := W171.lt (List.mem_cons_self ..)
  have F171_destination : Fld Z h171 b171 "com/example/despatch/despatch/messaging/MailboxQuery" "destination" "Ljava/lang/String;" .null := D171 (Or.inr (hw _ (List.mem_of_getElem? w_67))) (ty := (.object "java/lang/String")) (by decide)
  have F171_from : Fld Z h171 b171 "com/example/despatch/despatch/messaging/MailboxQuery" "from" "Ljava/time/Instant;" .null := D171 (Or.inr (hw _ (List.mem_of_getElem? w_69))) (ty := (.object "java/time/Instant")) (by decide)
  have F171_before : Fld Z h171 b171 "com/example/despatch/despatch/messaging/MailboxQuery" "before" "Ljava/time/Instant;" .null := D171 (Or.inr (hw _ (List.mem_of_getElem? w_71))) (ty := (.object "java/time/Instant")) (by decide)
  have F171_responseTo : Fld Z h171 b171 "com/example/despatch/despatch/messaging/MailboxQuery" "responseTo" "Ljava/util/function/Predicate;" .null := D171 (Or.inr (hw _ (List.mem_of_getElem? w_73))) (ty := (.object "java/util/function/Predicate")) (by decide)
  have F171_offset : Fld Z h171 b171 "com/example/despatch/despatch/messaging/MailboxQuery" "offset" "I" (.int (0 : Int32)) := D171 (Or.inr (hw _ (List.mem_of_getElem? w_75))) (ty := .int) (by decide)
  have F171_count : Fld Z h171 b171 "com/example/despatch/despatch/messaging/MailboxQuery" "count" "I" (.int (0 : Int32)) := D171 (Or.inr (hw _ (List.mem_of_getElem? w_77))) (ty := .int) (by decide)
  refine g_dup (pc' := 24) W171.here hx (hb hby d_prog_16_4_23) rfl rfl ?_
  refine g_aloadN (pc' := 25) W171.here hx (hb hby d_prog_16_4_24) rfl rfl rfl ?_
  have c172 := (F0.keep K171 nin0)
  refine w_get (pc' := 28) W171 hx (hw _ (List.mem_of_getElem? w_66)) Via.refl c172 (hb hby d_prog_16_4_25) rfl fun T173 W173 => ?_
  refine g_aloadN (pc' := 29) W173.here hx (hb hby d_prog_16_4_28) rfl rfl rfl ?_
  have c174 := (F1.keep K171 nin0)
  refine w_get (pc' := 32) W173 hx (hw _ (List.mem_of_getElem? w_68)) Via.refl c174 (hb hby d_prog_16_4_29) rfl fun T175 W175 => ?_
  refine g_aloadN (pc' := 33) W175.here hx (hb hby d_prog_16_4_32) rfl rfl rfl ?_
  refine g_aloadN (pc' := 34) W175.here hx (hb hby d_prog_16_4_33) rfl rfl rfl ?_
  have c176 := (F3.keep K171 nin0)
  refine w_get (pc' := 37) W175 hx (hw _ (List.mem_of_getElem? w_72)) Via.refl c176 (hb hby d_prog_16_4_34) rfl fun T177 W177 => ?_
  refine g_aloadN (pc' := 38) W177.here hx (hb hby d_prog_16_4_37) rfl rfl rfl ?_
  have c178 := (F4.keep K171 nin0)
  refine w_get (pc' := 41) W177 hx (hw _ (List.mem_of_getElem? w_74)) Via.refl c178 (hb hby d_prog_16_4_38) rfl fun T179 W179 => ?_
  refine g_aloadN (pc' := 42) W179.here hx (hb hby d_prog_16_4_41) rfl rfl rfl ?_
  have c180 := (F5.keep K171 nin0)
  refine w_get (pc' := 45) W179 hx (hw _ (List.mem_of_getElem? w_76)) Via.refl c180 (hb hby d_prog_16_4_42) rfl fun T181 W181 => ?_
  refine w_special (pc' := 48) (st := [(.ref b171)]) (y := (⟨"com/example/despatch/despatch/messaging/MailboxQuery", "<init>", "(Ljava/lang/String;Ljava/time/Instant;Ljava/time/Instant;Ljava/util/function/Predicate;II)V"⟩ : MethodName)) (a := b171) W181 hx [(.ref sa), (.ref oN), (.ref oN), (.ref pr), (.int (0 : Int32)), (.int (20 : Int32))] rfl (hw _ (List.mem_of_getElem? w_46)) (hw _ (List.mem_of_getElem? w_47)) (hw _ (List.mem_of_getElem? w_36)) (hw _ (List.mem_of_getElem? w_48)) (by decide) (c_mqinit l Z a0 hw hE b171 sa oN oN pr h171 W181.old (by have := O.1; omega) _ _ _ _ _ _ A171 F171_destination F171_from F171_before F171_responseTo F171_offset F171_count) (allS (List.mem_of_getElem? (i := 0) rfl) all0) (by rw [hml]; rfl) (lenOf pd_14 rfl) rfl (hb hby d_prog_16_4_45) (Nat.le_of_ble_eq_true rfl) (Nat.le_of_ble_eq_true rfl) (Nat.le_of_ble_eq_true rfl) (Nat.le_of_ble_eq_true rfl) rfl fun v182 T182 h182 W182 K182 Q182 => ?_
  have z_K182 : h171.size ≤ h182.size := K182.1
  obtain ⟨rfl, E183, F183_0, F183_1, F183_2, F183_3, F183_4, F183_5⟩ := Q182
  refine w_retA W182 hx hh hlk hret rfl rfl (hb hby d_prog_16_4_48) (Nat.le_of_ble_eq_true rfl) (Nat.le_of_ble_eq_true rfl) ?_
  exact ⟨_, rfl, E183, F183_2⟩
theorem own_fldu {Z : State} {h : Heap} {a : Nat} {C n d : String} {v w : Value} (F : Fld Z h a C n d v) (G : Fld Z h a C n d w) : v = w := by
  obtain ⟨cell, cf, k, i, f, h1, h2, h3, h4, h5, h6, h7⟩ := F
  obtain ⟨cell', cf', k', i', f', g1, g2, g3, g4, g5, g6, g7⟩ := G
  cases h1.symm.trans g1
  cases h2.symm.trans g2
  exact Option.some.inj (h7.symm.trans g7)
set_option maxRecDepth 65536 in
set_option maxHeartbeats 40000000 in
theorem c_law (l : Launch) (Z : State) (a0 : Array Value) (hw : ∀ d ∈ tables_1, d.before a0 Z = true) (hE : EW Z a0 consts_1) (cc : Int32) (fm : Value) (p0 p1 : Int32) (oN oX : Nat) (h0 : Heap) (O : Ext Z.heap h0) (G : SEnv Z cc fm) (Tn : Sta Z Z.heap "java/time/Instant" "MIN" "Ljava/time/Instant;" (.ref oN)) (Xn : Exa Z Z.heap oN "java/time/Instant") (Yn : Fld Z Z.heap oN "java/time/Instant" "seconds" "J" (.long (-31557014167219200 : Int64))) (Tx : Sta Z Z.heap "java/time/Instant" "MAX" "Ljava/time/Instant;" (.ref oX)) (Xx : Exa Z Z.heap oX "java/time/Instant") (Yx : Fld Z Z.heap oX "java/time/Instant" "seconds" "J" (.long (31556889864403199 : Int64)))  :
    ConL tables_1 l Z consts_1 x code maxLocals ret room_1 #[(.int p0), (.int p1)] h0 [] (fun v _ => v = some (.int 1)) := by
  refine Con.of (a0 := a0) #[.val (.int p0), .val (.int p1), .unset, .unset] (plainFor_of_name pn_3) hE O all0 (fun m => by first | (simp [entryFrame, mkF, argsToLocals, Value.category, maxLocals]; done) | rfl) ?_
  intro p e s m below meth c T0 hx hby hml hnm hret hlk hh W0
  have Xnh := Xn.ext O
  have Ynh := Yn.ext O
  have lt_oN : oN < h0.size := Xnh.lt
  have Xxh := Xx.ext O
  have Yxh := Yx.ext O
  have lt_oX : oX < h0.size := Xxh.lt
  have hNX : oN ≠ oX := fun q => by subst q; exact absurd (own_fldu Yn Yx) (by decide)
  refine g_iloadN (pc' := 1) W0.here hx (hb hby at_0) rfl rfl ?_
  refine g_iloadN (pc' := 2) W0.here hx (hb hby at_1) rfl rfl ?_
  refine w_callS (pc' := 5) (st := []) (y := (⟨"com/example/despatch/despatch/messaging/MailboxQueryOfPinLaw", "draw", "(II)Ljava/lang/String;"⟩ : MethodName)) W0 hx [(.int p0), (.int p1)] (hw _ (List.mem_of_getElem? w_0)) (hw _ (List.mem_of_getElem? w_1)) (hw _ (List.mem_of_getElem? w_2)) (hw _ (List.mem_of_getElem? w_3)) (by decide) (c_draw l Z a0 hw hE cc fm p0 p1 h0 W0.old G) all0 (by rw [hml]; rfl) (lenOf pd_16 rfl) rfl (hb hby at_2) (Nat.le_of_ble_eq_true rfl) (Nat.le_of_ble_eq_true rfl) (Nat.le_of_ble_eq_true rfl) (Nat.le_of_ble_eq_true rfl) rfl fun v184 T184 h184 W184 K184 Q184 => ?_
  have z_K184 : h0.size ≤ h184.size := K184.1
  obtain ⟨sx185, rfl, E185⟩ := Q184
  have lt_sx185 : sx185 < h184.size := E185.lt
  refine g_astoreN (pc' := 6) (Ls' := #[.val (.int p0), .val (.int p1), .val (.ref sx185), .unset]) W184.here hx (hb hby at_5) rfl rfl rfl ?_
  refine g_aloadN (pc' := 7) W184.here hx (hb hby at_6) rfl rfl rfl ?_
  refine w_callS (pc' := 10) (st := []) (y := (⟨"com/example/despatch/despatch/messaging/MailboxQuery", "of", "(Ljava/lang/String;)Lcom/example/despatch/despatch/messaging/MailboxQuery;"⟩ : MethodName)) W184 hx [(.ref sx185)] (hw _ (List.mem_of_getElem? w_34)) (hw _ (List.mem_of_getElem? w_35)) (hw _ (List.mem_of_getElem? w_36)) (hw _ (List.mem_of_getElem? w_37)) (by decide) (c_of l Z a0 hw hE sx185 oN oX h184 W184.old Tn Xn Yn Tx Xx Yx E185) all0 (by rw [hml]; rfl) (lenOf pd_17 rfl) rfl (hb hby at_7) (Nat.le_of_ble_eq_true rfl) (Nat.le_of_ble_eq_true rfl) (Nat.le_of_ble_eq_true rfl) (Nat.le_of_ble_eq_true rfl) rfl fun v186 T186 h186 W186 K186 Q186 => ?_
  have z_K186 : h184.size ≤ h186.size := K186.1
  obtain ⟨q187, pr187, rfl, E187, F187_0, F187_1, F187_2, F187_3, F187_4, F187_5⟩ := Q186
  have lt_q187 : q187 < h186.size := E187.lt
  refine g_astoreN (pc' := 11) (Ls' := #[.val (.int p0), .val (.int p1), .val (.ref sx185), .val (.ref q187)]) W186.here hx (hb hby at_10) rfl rfl rfl ?_
  refine g_aloadN (pc' := 12) W186.here hx (hb hby at_11) rfl rfl rfl ?_
  refine g_aloadN (pc' := 13) W186.here hx (hb hby at_12) rfl rfl rfl ?_
  refine w_virtualp (pc' := 16) (st := [(.ref sx185)]) (y := (⟨"com/example/despatch/despatch/messaging/MailboxQuery", "destination", "()Ljava/lang/String;"⟩ : MethodName)) (z := (⟨"com/example/despatch/despatch/messaging/MailboxQuery", "destination", "()Ljava/lang/String;"⟩ : MethodName)) (a := q187) W186 hx [] (hw _ (List.mem_of_getElem? w_78)) (hw _ (List.mem_of_getElem? w_79)) (nfS (z := (⟨"com/example/despatch/despatch/messaging/MailboxQuery", "destination", "()Ljava/lang/String;"⟩ : MethodName)) (hw _ (List.mem_of_getElem? w_81))) (hw _ (List.mem_of_getElem? w_81)) (hw _ (List.mem_of_getElem? w_80)) (hw _ (List.mem_of_getElem? w_36)) (hw _ (List.mem_of_getElem? w_82)) (by decide) (c_get_destination l Z a0 hw hE q187 (.ref sx185) h186 W186.old rfl F187_0) E187 (by rw [hml]; rfl) (lenOf pd_18 rfl) rfl (hb hby at_13) (Nat.le_of_ble_eq_true rfl) (Nat.le_of_ble_eq_true rfl) rfl rfl (Nat.le_of_ble_eq_true rfl) (Nat.le_of_ble_eq_true rfl) rfl fun T188 W188 => ?_
  have c190 := (E185.keep K186)
  refine w_virtualp (pc' := 19) (st := []) (y := (⟨"java/lang/String", "equals", "(Ljava/lang/Object;)Z"⟩ : MethodName)) (z := (⟨"java/lang/String", "equals", "(Ljava/lang/Object;)Z"⟩ : MethodName)) (a := sx185) W188 hx [(.ref sx185)] (hw _ (List.mem_of_getElem? w_83)) (hw _ (List.mem_of_getElem? w_84)) (nfS (z := (⟨"java/lang/String", "equals", "(Ljava/lang/Object;)Z"⟩ : MethodName)) (hw _ (List.mem_of_getElem? w_86))) (hw _ (List.mem_of_getElem? w_86)) (hw _ (List.mem_of_getElem? w_85)) (hw _ (List.mem_of_getElem? w_6)) (hw _ (List.mem_of_getElem? w_87)) (by decide) (c_eqself l Z a0 hw hE sx185 h186 W188.old) c190 (by rw [hml]; rfl) (lenOf pd_19 rfl) rfl (hb hby at_16) (Nat.le_of_ble_eq_true rfl) (Nat.le_of_ble_eq_true rfl) rfl rfl (Nat.le_of_ble_eq_true rfl) (Nat.le_of_ble_eq_true rfl) rfl fun T189 W189 => ?_
  refine g_ifY (pc' := 24) W189.here hx (hb hby at_19) rfl (feq (show ¬ ((1 : Int32) = (0 : Int32)) from (by decide))).2 ?_
  refine g_aloadN (pc' := 25) W189.here hx (hb hby at_24) rfl rfl rfl ?_
  refine w_virtualp (pc' := 28) (st := []) (y := (⟨"com/example/despatch/despatch/messaging/MailboxQuery", "offset", "()I"⟩ : MethodName)) (z := (⟨"com/example/despatch/despatch/messaging/MailboxQuery", "offset", "()I"⟩ : MethodName)) (a := q187) W189 hx [] (hw _ (List.mem_of_getElem? w_88)) (hw _ (List.mem_of_getElem? w_89)) (nfS (z := (⟨"com/example/despatch/despatch/messaging/MailboxQuery", "offset", "()I"⟩ : MethodName)) (hw _ (List.mem_of_getElem? w_91))) (hw _ (List.mem_of_getElem? w_91)) (hw _ (List.mem_of_getElem? w_90)) (hw _ (List.mem_of_getElem? w_36)) (hw _ (List.mem_of_getElem? w_92)) (by decide) (c_get_offset l Z a0 hw hE q187 (0 : Int32) h186 W189.old F187_4) E187 (by rw [hml]; rfl) (lenOf pd_20 rfl) rfl (hb hby at_25) (Nat.le_of_ble_eq_true rfl) (Nat.le_of_ble_eq_true rfl) rfl rfl (Nat.le_of_ble_eq_true rfl) (Nat.le_of_ble_eq_true rfl) rfl fun T191 W191 => ?_
  refine g_ifY (pc' := 33) W191.here hx (hb hby at_28) rfl (teq (show (0 : Int32) = (0 : Int32) from (by decide))).1 ?_
  refine g_aloadN (pc' := 34) W191.here hx (hb hby at_33) rfl rfl rfl ?_
  refine w_virtualp (pc' := 37) (st := []) (y := (⟨"com/example/despatch/despatch/messaging/MailboxQuery", "count", "()I"⟩ : MethodName)) (z := (⟨"com/example/despatch/despatch/messaging/MailboxQuery", "count", "()I"⟩ : MethodName)) (a := q187) W191 hx [] (hw _ (List.mem_of_getElem? w_93)) (hw _ (List.mem_of_getElem? w_94)) (nfS (z := (⟨"com/example/despatch/despatch/messaging/MailboxQuery", "count", "()I"⟩ : MethodName)) (hw _ (List.mem_of_getElem? w_96))) (hw _ (List.mem_of_getElem? w_96)) (hw _ (List.mem_of_getElem? w_95)) (hw _ (List.mem_of_getElem? w_36)) (hw _ (List.mem_of_getElem? w_97)) (by decide) (c_get_count l Z a0 hw hE q187 (20 : Int32) h186 W191.old F187_5) E187 (by rw [hml]; rfl) (lenOf pd_20 rfl) rfl (hb hby at_34) (Nat.le_of_ble_eq_true rfl) (Nat.le_of_ble_eq_true rfl) rfl rfl (Nat.le_of_ble_eq_true rfl) (Nat.le_of_ble_eq_true rfl) rfl fun T192 W192 => ?_
  refine g_bipush (20 : Int32) (pc' := 39) W192.here hx (hb hby at_37) rfl rfl ?_
  refine g_icmpY (pc' := 44) W192.here hx (hb hby at_39) rfl (teq (show (20 : Int32) = (20 : Int32) from (by decide))).1 ?_
  refine g_aloadN (pc' := 45) W192.here hx (hb hby at_44) rfl rfl rfl ?_
  refine w_virtualp (pc' := 48) (st := []) (y := (⟨"com/example/despatch/despatch/messaging/MailboxQuery", "from", "()Ljava/time/Instant;"⟩ : MethodName)) (z := (⟨"com/example/despatch/despatch/messaging/MailboxQuery", "from", "()Ljava/time/Instant;"⟩ : MethodName)) (a := q187) W192 hx [] (hw _ (List.mem_of_getElem? w_98)) (hw _ (List.mem_of_getElem? w_99)) (nfS (z := (⟨"com/example/despatch/despatch/messaging/MailboxQuery", "from", "()Ljava/time/Instant;"⟩ : MethodName)) (hw _ (List.mem_of_getElem? w_101))) (hw _ (List.mem_of_getElem? w_101)) (hw _ (List.mem_of_getElem? w_100)) (hw _ (List.mem_of_getElem? w_36)) (hw _ (List.mem_of_getElem? w_102)) (by decide) (c_get_from l Z a0 hw hE q187 (.ref oN) h186 W192.old rfl F187_1) E187 (by rw [hml]; rfl) (lenOf pd_21 rfl) rfl (hb hby at_45) (Nat.le_of_ble_eq_true rfl) (Nat.le_of_ble_eq_true rfl) rfl rfl (Nat.le_of_ble_eq_true rfl) (Nat.le_of_ble_eq_true rfl) rfl fun T193 W193 => ?_
  refine g_aloadN (pc' := 49) W193.here hx (hb hby at_48) rfl rfl rfl ?_
  refine w_virtualp (pc' := 52) (st := [(.ref oN)]) (y := (⟨"com/example/despatch/despatch/messaging/MailboxQuery", "before", "()Ljava/time/Instant;"⟩ : MethodName)) (z := (⟨"com/example/despatch/despatch/messaging/MailboxQuery", "before", "()Ljava/time/Instant;"⟩ : MethodName)) (a := q187) W193 hx [] (hw _ (List.mem_of_getElem? w_103)) (hw _ (List.mem_of_getElem? w_104)) (nfS (z := (⟨"com/example/despatch/despatch/messaging/MailboxQuery", "before", "()Ljava/time/Instant;"⟩ : MethodName)) (hw _ (List.mem_of_getElem? w_106))) (hw _ (List.mem_of_getElem? w_106)) (hw _ (List.mem_of_getElem? w_105)) (hw _ (List.mem_of_getElem? w_36)) (hw _ (List.mem_of_getElem? w_107)) (by decide) (c_get_before l Z a0 hw hE q187 (.ref oX) h186 W193.old rfl F187_2) E187 (by rw [hml]; rfl) (lenOf pd_21 rfl) rfl (hb hby at_49) (Nat.le_of_ble_eq_true rfl) (Nat.le_of_ble_eq_true rfl) rfl rfl (Nat.le_of_ble_eq_true rfl) (Nat.le_of_ble_eq_true rfl) rfl fun T194 W194 => ?_
  refine w_acmp (pc' := 57) W194 hx rfl rfl false (hb hby at_52) (decide_eq_false fun q => hNX (Value.ref.inj q)) (by decide) (by decide) ?_
  refine g_aloadN (pc' := 58) W194.here hx (hb hby at_57) rfl rfl rfl ?_
  refine g_aloadN (pc' := 59) W194.here hx (hb hby at_58) rfl rfl rfl ?_
  refine w_virtualp (pc' := 62) (st := [(.ref q187)]) (y := (⟨"com/example/despatch/despatch/messaging/MailboxQuery", "before", "()Ljava/time/Instant;"⟩ : MethodName)) (z := (⟨"com/example/despatch/despatch/messaging/MailboxQuery", "before", "()Ljava/time/Instant;"⟩ : MethodName)) (a := q187) W194 hx [] (hw _ (List.mem_of_getElem? w_103)) (hw _ (List.mem_of_getElem? w_104)) (nfS (z := (⟨"com/example/despatch/despatch/messaging/MailboxQuery", "before", "()Ljava/time/Instant;"⟩ : MethodName)) (hw _ (List.mem_of_getElem? w_106))) (hw _ (List.mem_of_getElem? w_106)) (hw _ (List.mem_of_getElem? w_105)) (hw _ (List.mem_of_getElem? w_36)) (hw _ (List.mem_of_getElem? w_107)) (by decide) (c_get_before l Z a0 hw hE q187 (.ref oX) h186 W194.old rfl F187_2) E187 (by rw [hml]; rfl) (lenOf pd_21 rfl) rfl (hb hby at_59) (Nat.le_of_ble_eq_true rfl) (Nat.le_of_ble_eq_true rfl) rfl rfl (Nat.le_of_ble_eq_true rfl) (Nat.le_of_ble_eq_true rfl) rfl fun T195 W195 => ?_
  refine w_virtual (pc' := 65) (st := []) (y := (⟨"com/example/despatch/despatch/messaging/MailboxQuery", "keptFrom", "(Ljava/time/Instant;)Lcom/example/despatch/despatch/messaging/MailboxQuery;"⟩ : MethodName)) (z := (⟨"com/example/despatch/despatch/messaging/MailboxQuery", "keptFrom", "(Ljava/time/Instant;)Lcom/example/despatch/despatch/messaging/MailboxQuery;"⟩ : MethodName)) (a := q187) W195 hx [(.ref oX)] (hw _ (List.mem_of_getElem? w_108)) (hw _ (List.mem_of_getElem? w_109)) (nfS (z := (⟨"com/example/despatch/despatch/messaging/MailboxQuery", "keptFrom", "(Ljava/time/Instant;)Lcom/example/despatch/despatch/messaging/MailboxQuery;"⟩ : MethodName)) (hw _ (List.mem_of_getElem? w_111))) (hw _ (List.mem_of_getElem? w_111)) (hw _ (List.mem_of_getElem? w_110)) (hw _ (List.mem_of_getElem? w_36)) (hw _ (List.mem_of_getElem? w_112)) (by decide) (c_keptFrom l Z a0 hw hE q187 sx185 oN oX pr187 h186 W195.old Tn Xn Yn Tx Xx Yx E187 F187_0 F187_1 F187_2 F187_3 F187_4 F187_5) E187 all0 (by rw [hml]; rfl) (lenOf pd_22 rfl) rfl (hb hby at_62) (Nat.le_of_ble_eq_true rfl) (Nat.le_of_ble_eq_true rfl) (Nat.le_of_ble_eq_true rfl) (Nat.le_of_ble_eq_true rfl) rfl fun v196 T196 h196 W196 K196 Q196 => ?_
  have z_K196 : h186.size ≤ h196.size := K196.1
  obtain ⟨q197, rfl, E197, F197⟩ := Q196
  refine w_virtualp (pc' := 68) (st := []) (y := (⟨"com/example/despatch/despatch/messaging/MailboxQuery", "from", "()Ljava/time/Instant;"⟩ : MethodName)) (z := (⟨"com/example/despatch/despatch/messaging/MailboxQuery", "from", "()Ljava/time/Instant;"⟩ : MethodName)) (a := q197) W196 hx [] (hw _ (List.mem_of_getElem? w_98)) (hw _ (List.mem_of_getElem? w_99)) (nfS (z := (⟨"com/example/despatch/despatch/messaging/MailboxQuery", "from", "()Ljava/time/Instant;"⟩ : MethodName)) (hw _ (List.mem_of_getElem? w_101))) (hw _ (List.mem_of_getElem? w_101)) (hw _ (List.mem_of_getElem? w_100)) (hw _ (List.mem_of_getElem? w_36)) (hw _ (List.mem_of_getElem? w_102)) (by decide) (c_get_from l Z a0 hw hE q197 (.ref oX) h196 W196.old rfl F197) E197 (by rw [hml]; rfl) (lenOf pd_21 rfl) rfl (hb hby at_65) (Nat.le_of_ble_eq_true rfl) (Nat.le_of_ble_eq_true rfl) rfl rfl (Nat.le_of_ble_eq_true rfl) (Nat.le_of_ble_eq_true rfl) rfl fun T198 W198 => ?_
  refine g_aloadN (pc' := 69) W198.here hx (hb hby at_68) rfl rfl rfl ?_
  have c199 := (F187_2.keep K196 nin0)
  have c201 := (E187.keep K196)
  refine w_virtualp (pc' := 72) (st := [(.ref oX)]) (y := (⟨"com/example/despatch/despatch/messaging/MailboxQuery", "before", "()Ljava/time/Instant;"⟩ : MethodName)) (z := (⟨"com/example/despatch/despatch/messaging/MailboxQuery", "before", "()Ljava/time/Instant;"⟩ : MethodName)) (a := q187) W198 hx [] (hw _ (List.mem_of_getElem? w_103)) (hw _ (List.mem_of_getElem? w_104)) (nfS (z := (⟨"com/example/despatch/despatch/messaging/MailboxQuery", "before", "()Ljava/time/Instant;"⟩ : MethodName)) (hw _ (List.mem_of_getElem? w_106))) (hw _ (List.mem_of_getElem? w_106)) (hw _ (List.mem_of_getElem? w_105)) (hw _ (List.mem_of_getElem? w_36)) (hw _ (List.mem_of_getElem? w_107)) (by decide) (c_get_before l Z a0 hw hE q187 (.ref oX) h196 W198.old rfl c199) c201 (by rw [hml]; rfl) (lenOf pd_21 rfl) rfl (hb hby at_69) (Nat.le_of_ble_eq_true rfl) (Nat.le_of_ble_eq_true rfl) rfl rfl (Nat.le_of_ble_eq_true rfl) (Nat.le_of_ble_eq_true rfl) rfl fun T200 W200 => ?_
  refine w_acmp (pc' := 77) W200 hx rfl rfl true (hb hby at_72) (decide_eq_true rfl) (by decide) (by decide) ?_
  refine g_aloadN (pc' := 78) W200.here hx (hb hby at_77) rfl rfl rfl ?_
  refine g_aloadN (pc' := 79) W200.here hx (hb hby at_78) rfl rfl rfl ?_
  have c202 := (F187_1.keep K196 nin0)
  refine w_virtualp (pc' := 82) (st := [(.ref q187)]) (y := (⟨"com/example/despatch/despatch/messaging/MailboxQuery", "from", "()Ljava/time/Instant;"⟩ : MethodName)) (z := (⟨"com/example/despatch/despatch/messaging/MailboxQuery", "from", "()Ljava/time/Instant;"⟩ : MethodName)) (a := q187) W200 hx [] (hw _ (List.mem_of_getElem? w_98)) (hw _ (List.mem_of_getElem? w_99)) (nfS (z := (⟨"com/example/despatch/despatch/messaging/MailboxQuery", "from", "()Ljava/time/Instant;"⟩ : MethodName)) (hw _ (List.mem_of_getElem? w_101))) (hw _ (List.mem_of_getElem? w_101)) (hw _ (List.mem_of_getElem? w_100)) (hw _ (List.mem_of_getElem? w_36)) (hw _ (List.mem_of_getElem? w_102)) (by decide) (c_get_from l Z a0 hw hE q187 (.ref oN) h196 W200.old rfl c202) c201 (by rw [hml]; rfl) (lenOf pd_21 rfl) rfl (hb hby at_79) (Nat.le_of_ble_eq_true rfl) (Nat.le_of_ble_eq_true rfl) rfl rfl (Nat.le_of_ble_eq_true rfl) (Nat.le_of_ble_eq_true rfl) rfl fun T203 W203 => ?_
  have c204 := (F187_0.keep K196 nin0)
  have c205 := (F187_3.keep K196 nin0)
  have c206 := (F187_4.keep K196 nin0)
  have c207 := (F187_5.keep K196 nin0)
  refine w_virtual (pc' := 85) (st := []) (y := (⟨"com/example/despatch/despatch/messaging/MailboxQuery", "keptBefore", "(Ljava/time/Instant;)Lcom/example/despatch/despatch/messaging/MailboxQuery;"⟩ : MethodName)) (z := (⟨"com/example/despatch/despatch/messaging/MailboxQuery", "keptBefore", "(Ljava/time/Instant;)Lcom/example/despatch/despatch/messaging/MailboxQuery;"⟩ : MethodName)) (a := q187) W203 hx [(.ref oN)] (hw _ (List.mem_of_getElem? w_129)) (hw _ (List.mem_of_getElem? w_130)) (nfS (z := (⟨"com/example/despatch/despatch/messaging/MailboxQuery", "keptBefore", "(Ljava/time/Instant;)Lcom/example/despatch/despatch/messaging/MailboxQuery;"⟩ : MethodName)) (hw _ (List.mem_of_getElem? w_132))) (hw _ (List.mem_of_getElem? w_132)) (hw _ (List.mem_of_getElem? w_131)) (hw _ (List.mem_of_getElem? w_36)) (hw _ (List.mem_of_getElem? w_133)) (by decide) (c_keptBefore l Z a0 hw hE q187 sx185 oN oX pr187 h196 W203.old Tn Xn Yn Tx Xx Yx c201 c204 c202 c199 c205 c206 c207) c201 all0 (by rw [hml]; rfl) (lenOf pd_22 rfl) rfl (hb hby at_82) (Nat.le_of_ble_eq_true rfl) (Nat.le_of_ble_eq_true rfl) (Nat.le_of_ble_eq_true rfl) (Nat.le_of_ble_eq_true rfl) rfl fun v208 T208 h208 W208 K208 Q208 => ?_
  have z_K208 : h196.size ≤ h208.size := K208.1
  obtain ⟨q209, rfl, E209, F209⟩ := Q208
  refine w_virtualp (pc' := 88) (st := []) (y := (⟨"com/example/despatch/despatch/messaging/MailboxQuery", "before", "()Ljava/time/Instant;"⟩ : MethodName)) (z := (⟨"com/example/despatch/despatch/messaging/MailboxQuery", "before", "()Ljava/time/Instant;"⟩ : MethodName)) (a := q209) W208 hx [] (hw _ (List.mem_of_getElem? w_103)) (hw _ (List.mem_of_getElem? w_104)) (nfS (z := (⟨"com/example/despatch/despatch/messaging/MailboxQuery", "before", "()Ljava/time/Instant;"⟩ : MethodName)) (hw _ (List.mem_of_getElem? w_106))) (hw _ (List.mem_of_getElem? w_106)) (hw _ (List.mem_of_getElem? w_105)) (hw _ (List.mem_of_getElem? w_36)) (hw _ (List.mem_of_getElem? w_107)) (by decide) (c_get_before l Z a0 hw hE q209 (.ref oN) h208 W208.old rfl F209) E209 (by rw [hml]; rfl) (lenOf pd_21 rfl) rfl (hb hby at_85) (Nat.le_of_ble_eq_true rfl) (Nat.le_of_ble_eq_true rfl) rfl rfl (Nat.le_of_ble_eq_true rfl) (Nat.le_of_ble_eq_true rfl) rfl fun T210 W210 => ?_
  refine g_aloadN (pc' := 89) W210.here hx (hb hby at_88) rfl rfl rfl ?_
  have c211 := (c202.keep K208 nin0)
  have c213 := (c201.keep K208)
  refine w_virtualp (pc' := 92) (st := [(.ref oN)]) (y := (⟨"com/example/despatch/despatch/messaging/MailboxQuery", "from", "()Ljava/time/Instant;"⟩ : MethodName)) (z := (⟨"com/example/despatch/despatch/messaging/MailboxQuery", "from", "()Ljava/time/Instant;"⟩ : MethodName)) (a := q187) W210 hx [] (hw _ (List.mem_of_getElem? w_98)) (hw _ (List.mem_of_getElem? w_99)) (nfS (z := (⟨"com/example/despatch/despatch/messaging/MailboxQuery", "from", "()Ljava/time/Instant;"⟩ : MethodName)) (hw _ (List.mem_of_getElem? w_101))) (hw _ (List.mem_of_getElem? w_101)) (hw _ (List.mem_of_getElem? w_100)) (hw _ (List.mem_of_getElem? w_36)) (hw _ (List.mem_of_getElem? w_102)) (by decide) (c_get_from l Z a0 hw hE q187 (.ref oN) h208 W210.old rfl c211) c213 (by rw [hml]; rfl) (lenOf pd_21 rfl) rfl (hb hby at_89) (Nat.le_of_ble_eq_true rfl) (Nat.le_of_ble_eq_true rfl) rfl rfl (Nat.le_of_ble_eq_true rfl) (Nat.le_of_ble_eq_true rfl) rfl fun T212 W212 => ?_
  refine w_acmp (pc' := 97) W212 hx rfl rfl true (hb hby at_92) (decide_eq_true rfl) (by decide) (by decide) ?_
  refine g_iconst (1 : Int32) (pc' := 98) W212.here hx (hb hby at_97) rfl rfl ?_
  refine w_retN (t := .boolean) W212 hx hh hlk hret (by simp) (hb hby at_98) (Nat.le_of_ble_eq_true rfl) (Nat.le_of_ble_eq_true rfl) ?_
  exact rfl
theorem own_fldI {s : State} {args : Array Value} {t : Term} {a : Addr} {C f : String} {z : Int32} (e : t.eval args s none [] s = some (.ref a)) (h : (Jvm.Cond.eq (Jvm.Term.field t C f "I") (Jvm.Term.int z)).value args s none s [] = some true) : Fld s s.heap a C f "I" (.int z) := by
  have q := eqv_i (Z := s) (F := Jvm.Term.int z) (y := z) rfl h
  rw [fld_at e] at q
  exact Fld.start q
theorem own_fldJ {s : State} {args : Array Value} {t : Term} {a : Addr} {C f : String} {z : Int64} (e : t.eval args s none [] s = some (.ref a)) (h : (Jvm.Cond.eq (Jvm.Term.field t C f "J") (Jvm.Term.long z)).value args s none s [] = some true) : Fld s s.heap a C f "J" (.long z) := by
  have q := eqv_l (Z := s) (F := Jvm.Term.long z) (y := z) rfl h
  rw [fld_at e] at q
  exact Fld.start q
theorem own_fldR {s : State} {args : Array Value} {t u : Term} {a b : Addr} {C f d : String} (e : t.eval args s none [] s = some (.ref a)) (eu : u.eval args s none [] s = some (.ref b)) (h : (Jvm.Cond.eq (Jvm.Term.field t C f d) u).value args s none s [] = some true) : Fld s s.heap a C f d (.ref b) := by
  obtain ⟨x, y, e1, e2, k1, k2⟩ := cmp_v (Or.inl h)
  cases eu.symm.trans e2
  have hx : x.isRef = true := k2.2
  have q := gotT (eq_R e1 e2 hx rfl) h
  subst q
  rw [fld_at e] at e1
  exact Fld.start e1
set_option maxRecDepth 65536 in
set_option maxHeartbeats 40000000 in
theorem comes_1 {Post : Tables → Env → Array Value → State → Outcome → State → Prop} (hpost : ∀ tb e args s v u, (limb_1_1.after args s (.returned v) u = true ∧ limb_1_2.after args s (.returned v) u = true ∧ True) → ReturnedEndW s (.returned v) u (Jvm.fieldLocs frame_1_writes args s ++ Jvm.arrayLocs frame_1_arrays args s ++ Jvm.staticLocs frame_1_statics s) 24 2176 → Post tb e args s (.returned v) u) :
    ArmFor flags0 classFile x code maxLocals ret World_1 tables_1 room_1 Calls_1 rest_1 Pre_1 Post := by
  intro l hfl _ _ p e ha hc hk s m args below hf hA hF happ hP
  obtain ⟨hcalls, hrest, hpre⟩ := hP
  obtain ⟨-, -, -, hnamed, -, -, -, hat⟩ := (Spec.applies_iff hf).mp happ
  obtain ⟨hg, hn⟩ := and_e (Cond.before_iff.mp (show (Jvm.Cond.and given_1 narrow_1).before args s = true from hpre))
  obtain ⟨hg0, hg⟩ := and_e hg
  obtain ⟨w0, w1, rfl⟩ : ∃ w0 w1 : Value, args = #[w0, w1] := by
    have hs : args.size = 2 := by simpa [Cond.value, given_1] using hg0
    obtain ⟨L⟩ := args
    match L, hs with
    | [w0, w1], _ => exact ⟨w0, w1, rfl⟩
  have hw := fun d (hd : d ∈ tables_1) => atoms_spec (ws := Jvm.Cond.code x code maxLocals ret :: tables_1) hat d (List.mem_cons_of_mem _ hd)
  have hfit : Fit s := fun {y c} hc i hi => by
    obtain ⟨ha, rfl⟩ := Array.getElem?_eq_some_iff.mp hc
    have q := List.all_eq_true.mp ((Array.all_eq_true_iff_forall_mem.mp hF) _ (Array.getElem_mem ha)) i (List.mem_range.mpr hi)
    simpa [Array.getElem?_eq_getElem hi] using q
  obtain ⟨hg1, hg⟩ := and_e hg
  obtain ⟨p0, ep0⟩ := is_v hg1
  obtain rfl : w0 = (.int p0) := Option.some.inj ep0
  have hg2 := hg
  obtain ⟨p1, ep1⟩ := is_v hg2
  obtain rfl : w1 = (.int p1) := Option.some.inj ep1
  have n1 := hn
  have hsets := (atoms_of jdkStatics_1 (show (jdkStatics_1.foldr Cond.and restOwn_1).before _ s = true by rw [← rest_1_c_eq]; exact hrest)).1
  have hheld : ∀ p ∈ consts_1, Jvm.Lit.constHeld s p.1 p.2 := hcalls.1
  obtain ⟨oN, eoN⟩ := exa_v (Cond.before_iff.mp (hsets _ (List.mem_of_getElem? (i := 11) rfl)))
  have Xn := Exa.start eoN (Cond.before_iff.mp (hsets _ (List.mem_of_getElem? (i := 11) rfl)))
  have Yn := own_fldJ eoN (Cond.before_iff.mp (hsets _ (List.mem_of_getElem? (i := 12) rfl)))
  obtain ⟨oX, eoX⟩ := exa_v (Cond.before_iff.mp (hsets _ (List.mem_of_getElem? (i := 16) rfl)))
  have Xx := Exa.start eoX (Cond.before_iff.mp (hsets _ (List.mem_of_getElem? (i := 16) rfl)))
  have Yx := own_fldJ eoX (Cond.before_iff.mp (hsets _ (List.mem_of_getElem? (i := 17) rfl)))
  obtain ⟨cc, ecc⟩ := is_v (Cond.before_iff.mp (hsets _ (List.mem_of_getElem? (i := 1) rfl)))
  have hcc : ¬ cc = 0 := fun q => by
    have q1 := not_v (Cond.before_iff.mp (hsets _ (List.mem_of_getElem? (i := 2) rfl)))
    exact absurd q (gotF (Cond.eq_ints ecc (Term.int_eval 0)) q1)
  obtain ⟨fm, efm, hfm⟩ := isR_v (Cond.before_iff.mp (hsets _ (List.mem_of_getElem? (i := 8) rfl)))
  have hG : SEnv s cc fm := ⟨Sta.start ecc (Or.inl (hsets _ (List.mem_of_getElem? (i := 0) rfl))), hcc, Sta.start efm (Or.inl (hsets _ (List.mem_of_getElem? (i := 7) rfl))), hfm⟩
  have hEW : EW s _ consts_1 := (EW.cons (hw _ (List.mem_of_getElem? w_55)) (by decide) (EW.cons (hw _ (List.mem_of_getElem? w_153)) (by decide) EW.nil))
  have hCH : CHv s consts_1 s.vm s.heap := CHv.start hEW hheld (a0 := _) (hsets _ (List.mem_of_getElem? (i := 2) rfl)) (hw _ (List.mem_of_getElem? w_23)) (hw _ (List.mem_of_getElem? w_5))
  obtain ⟨t, o, h1, h2, h3, v, L, rfl, ⟨rfl, N, -⟩, -, hq⟩ := c_law l s _ hw hEW cc fm p0 p1 oN oX s.heap ⟨Nat.le_refl _, fun _ _ q => q⟩ hG (Sta.start eoN (Or.inl (hsets _ (List.mem_of_getElem? (i := 10) rfl)))) Xn Yn (Sta.start eoX (Or.inl (hsets _ (List.mem_of_getElem? (i := 15) rfl)))) Xx Yx
    p e ha hc hk s m _ below hf ((Spec.applies_iff_loose hf).mp happ).1 ⟨rfl, State.Warmed39.refl s, rfl, hCH, fun _ q => nomatch q⟩ trivial
  refine ⟨t, _, h1, h2, h3, hpost _ _ _ _ _ _ ⟨Cond.after_iff.mpr rfl, Cond.after_iff.mpr (eq_i res_at (Term.int_eval (1)) rfl), trivial⟩ ⟨hq.1, hq.2.1, hq.2.2.1, (hq.2.2.2.sift fun y hy => Or.inr (N y hy)).mono (by decide) (by decide)⟩⟩
theorem main_1_1 : Claimed_1_1 := comes_1 fun _ _ _ _ _ _ h hF => ⟨h.1, hF⟩
theorem main_1_2 : Claimed_1_2 := comes_1 fun _ _ _ _ _ _ h hF => ⟨h.2.1, hF⟩
end Jvm.Pilot.@@N@@
namespace Jvm.Pilot.@@N@@
open Jvm Jvm.ClassFile Sem Op Lib Jvm.Free Jvm.Stand Jvm.Pilot.@@N@@.Jvm.D
/-! MADE BY PROGRAM (witnessworld.py) out of the Statement's table words and the real class files: 31 classes; the members and pool entries that the words name. The judged class is class 1, her method 2. -/
namespace start1
open Jvm.ClassFile
def u (s : String) : CpInfo := .utf8 (stringToUtf16 s)
/-- a pool by its gaps: so many unusable entries, then the entry; so many at the end -/
def gap : Nat → List CpInfo → List CpInfo
  | 0, r => r
  | n + 1, r => .unusable :: gap n r
def poolList (es : List (Nat × CpInfo)) (last : Nat) : List CpInfo := es.foldr (fun e r => gap e.1 (e.2 :: r)) (gap last [])
def pool (es : List (Nat × CpInfo)) (last : Nat) : Array CpInfo := ⟨poolList es last⟩
def fileOf (pool : Array CpInfo) (this : Nat) (attrs : Array Attribute := #[]) (ms : Array MethodInfo := #[]) (fl : Nat := 33) (sup : Nat := 0) (ifs : Array Nat := #[]) (fds : Array FieldInfo := #[]) : ClassFile where
  minorVersion := 0
  majorVersion := 65
  constantPool := pool
  accessFlags := fl
  thisClass := this
  superClass := sup
  interfaces := ifs
  fields := fds
  methods := ms
  attributes := attrs
def plain (name : String) (sup : Option ClassId) : Class where
  name := name
  kind := .ordinary
  loader := none
  accessFlags := 33
  super := sup
  interfaces := #[]
  cf := none
  fields := #[]
  methods := #[]
  instanceTypes := #[]
  staticTypes := #[]
  resolved := #[]
  callSites := []
  init := .initialized
  statics := none
  mirror := none

def pool0 : Array CpInfo := pool [(5, u "<init>"), (0, u "()V"), (1, .class_ 10), (1, u "java/lang/Object")] 113

def k0c0 : Code := { maxStack := 0, maxLocals := 1, code := object_method_1_code, exceptionTable := #[], attributes := #[] }
def k0m0 : Method := { name := "<init>", desc := "()V", sig := { parameters := [], returnType := none }, accessFlags := 1, code := some k0c0 }
/-- java/lang/Object -/
def k0 : Class := { plain "java/lang/Object" none with
  accessFlags := 33
  interfaces := #[]
  cf := some (fileOf pool0 8 #[] #[{ accessFlags := 1, nameIndex := 5, descriptorIndex := 6, attributes := #[] }] 33 0 #[] #[])
  fields := #[]
  methods := #[k0m0]
  instanceTypes := #[]
  staticTypes := #[]
  resolved := Array.replicate 124 none
  statics := none }

def pool1 : Array CpInfo := pool [(2, .class_ 4), (1, u "java/lang/Object"), (0, u "<init>"), (0, u "()V"), (0, .class_ 8), (0, u "java/lang/String"), (0, .methodref 7 10), (0, .nameAndType 5 11), (0, u "([C)V"), (0, .methodref 7 13), (0, .nameAndType 14 15), (0, u "valueOf"), (0, u "(C)Ljava/lang/String;"), (0, .methodref 17 18), (0, .class_ 19), (0, .nameAndType 20 21), (0, u "com/example/despatch/despatch/messaging/MailboxQueryOfPinLaw"), (0, u "draw"), (0, u "(II)Ljava/lang/String;"), (0, .methodref 23 24), (0, .class_ 25), (0, .nameAndType 26 27), (0, u "com/example/despatch/despatch/messaging/MailboxQuery"), (0, u "of"), (0, u "(Ljava/lang/String;)Lcom/example/despatch/despatch/messaging/MailboxQuery;"), (0, .methodref 23 29), (0, .nameAndType 30 31), (0, u "destination"), (0, u "()Ljava/lang/String;"), (0, .methodref 7 33), (0, .nameAndType 34 35), (0, u "equals"), (0, u "(Ljava/lang/Object;)Z"), (0, .methodref 23 37), (0, .nameAndType 38 39), (0, u "offset"), (0, u "()I"), (0, .methodref 23 41), (0, .nameAndType 42 39), (0, u "count"), (0, .methodref 23 44), (0, .nameAndType 45 46), (0, u "from"), (0, u "()Ljava/time/Instant;"), (0, .methodref 23 48), (0, .nameAndType 49 46), (0, u "before"), (0, .methodref 23 51), (0, .nameAndType 52 53), (0, u "keptFrom"), (0, u "(Ljava/time/Instant;)Lcom/example/despatch/despatch/messaging/MailboxQuery;"), (0, .methodref 23 55), (0, .nameAndType 56 53), (0, u "keptBefore"), (3, u "law"), (0, u "(II)Z")] 2

def k1m0 : Method := { name := "<init>", desc := "()V", sig := { parameters := [], returnType := none }, accessFlags := 2, code := none }
def k1c1 : Code := { maxStack := 6, maxLocals := 6, code := method_2_code, exceptionTable := #[], attributes := #[] }
def k1m1 : Method := { name := "draw", desc := "(II)Ljava/lang/String;", sig := { parameters := [.int, .int], returnType := some (.object "java/lang/String") }, accessFlags := 10, code := some k1c1 }
def k1c2 : Code := { maxStack := 2, maxLocals := 4, code := code, exceptionTable := #[], attributes := #[] }
def k1m2 : Method := { name := "law", desc := "(II)Z", sig := { parameters := [.int, .int], returnType := some .boolean }, accessFlags := 9, code := some k1c2 }
/-- com/example/despatch/despatch/messaging/MailboxQueryOfPinLaw -/
def k1 : Class := { plain "com/example/despatch/despatch/messaging/MailboxQueryOfPinLaw" (some 0) with
  accessFlags := 49
  interfaces := #[]
  cf := some (fileOf pool1 17 #[] #[{ accessFlags := 2, nameIndex := 5, descriptorIndex := 6, attributes := #[] }, { accessFlags := 10, nameIndex := 20, descriptorIndex := 21, attributes := #[] }, { accessFlags := 9, nameIndex := 60, descriptorIndex := 61, attributes := #[] }] 49 2 #[] #[])
  fields := #[]
  methods := #[k1m0, k1m1, k1m2]
  instanceTypes := #[]
  staticTypes := #[]
  resolved := Array.replicate 64 none
  statics := none }

def pool2 : Array CpInfo := pool [(1, .class_ 2), (0, u "java/io/Serializable"), (0, .class_ 4), (0, u "java/lang/Object")] 2

/-- java/io/Serializable -/
def k2 : Class := { plain "java/io/Serializable" (some 0) with
  accessFlags := 1537
  interfaces := #[]
  cf := some (fileOf pool2 1 #[] #[] 1537 3 #[] #[])
  fields := #[]
  methods := #[]
  instanceTypes := #[]
  staticTypes := #[]
  resolved := Array.replicate 7 none
  statics := none }

def pool3 : Array CpInfo := pool [(1, .class_ 2), (0, u "java/lang/Comparable"), (0, .class_ 4), (0, u "java/lang/Object")] 7

/-- java/lang/Comparable -/
def k3 : Class := { plain "java/lang/Comparable" (some 0) with
  accessFlags := 1537
  interfaces := #[]
  cf := some (fileOf pool3 1 #[] #[] 1537 3 #[] #[])
  fields := #[]
  methods := #[]
  instanceTypes := #[]
  staticTypes := #[]
  resolved := Array.replicate 12 none
  statics := none }

def pool4 : Array CpInfo := pool [(2, .class_ 4), (1, u "java/lang/CharSequence"), (42, .class_ 48), (0, u "java/lang/CharSequence$1CodePointIterator"), (10, .class_ 60), (0, u "java/lang/CharSequence$1CharIterator"), (5, .class_ 67), (0, u "java/lang/Object")] 63

/-- java/lang/CharSequence -/
def k4 : Class := { plain "java/lang/CharSequence" (some 0) with
  accessFlags := 1537
  interfaces := #[]
  cf := some (fileOf pool4 2 #[.nestMembers #[47, 59]] #[] 1537 66 #[] #[])
  fields := #[]
  methods := #[]
  instanceTypes := #[]
  staticTypes := #[]
  resolved := Array.replicate 131 none
  statics := none }

def pool5 : Array CpInfo := pool [(1, .class_ 2), (0, u "java/lang/constant/Constable"), (0, .class_ 4), (0, u "java/lang/Object")] 6

/-- java/lang/constant/Constable -/
def k5 : Class := { plain "java/lang/constant/Constable" (some 0) with
  accessFlags := 1537
  interfaces := #[]
  cf := some (fileOf pool5 1 #[] #[] 1537 3 #[] #[])
  fields := #[]
  methods := #[]
  instanceTypes := #[]
  staticTypes := #[]
  resolved := Array.replicate 11 none
  statics := none }

def pool6 : Array CpInfo := pool [(1, .class_ 2), (0, u "java/lang/constant/ConstantDesc"), (0, .class_ 4), (0, u "java/lang/Object")] 32

/-- java/lang/constant/ConstantDesc -/
def k6 : Class := { plain "java/lang/constant/ConstantDesc" (some 0) with
  accessFlags := 1537
  interfaces := #[]
  cf := some (fileOf pool6 1 #[] #[] 1537 3 #[] #[])
  fields := #[]
  methods := #[]
  instanceTypes := #[]
  staticTypes := #[]
  resolved := Array.replicate 37 none
  statics := none }

def pool7 : Array CpInfo := pool [(1, .methodref 2 3), (0, .class_ 4), (0, .nameAndType 5 6), (0, u "java/lang/Object"), (0, u "<init>"), (0, u "()V"), (0, .string 8), (0, u ""), (0, .fieldref 10 11), (0, .class_ 12), (0, .nameAndType 13 14), (0, u "java/lang/String"), (0, u "value"), (0, u "[B"), (0, .fieldref 10 16), (0, .nameAndType 17 18), (0, u "coder"), (0, u "B"), (2, u "hash"), (0, u "I"), (2, u "hashIsZero"), (0, u "Z"), (0, .methodref 10 28), (0, .nameAndType 5 29), (0, u "([CIILjava/lang/Void;)V"), (8, .fieldref 10 39), (0, .nameAndType 40 26), (0, u "COMPACT_STRINGS"), (1, .class_ 44), (1, u "java/lang/StringUTF16"), (0, u "compress"), (1, .methodref 42 48), (0, .nameAndType 49 50), (0, u "coderFromArrayLen"), (0, u "([BI)B"), (2, u "toBytes"), (53, .class_ 109), (1, u "java/lang/StringLatin1"), (67, .methodref 42 178), (0, .nameAndType 45 179), (0, u "([CII)[B"), (29, .methodref 10 210), (0, .nameAndType 5 211), (0, u "([BB)V"), (157, u "(C)Z"), (173, u "equals"), (29, u "(Ljava/lang/Object;)Z"), (1, .class_ 576), (0, u "java/lang/CharSequence"), (22, u "CASE_INSENSITIVE_ORDER"), (0, u "Ljava/util/Comparator;"), (181, u "valueOf"), (0, u "(C)Ljava/lang/String;"), (226, u "([C)V"), (4, .methodref 107 1016), (0, .nameAndType 1017 369), (0, u "canEncode"), (0, .methodref 107 1019), (0, .nameAndType 53 1020), (0, u "(C)[B"), (80, u "serialPersistentFields"), (0, u "[Ljava/io/ObjectStreamField;"), (0, .class_ 1104), (0, u "java/lang/String$CaseInsensitiveComparator"), (1, .class_ 1107), (0, u "java/io/Serializable"), (0, .class_ 1109), (0, u "java/lang/Comparable"), (0, .class_ 1111), (0, u "java/lang/constant/Constable"), (0, .class_ 1113), (0, u "java/lang/constant/ConstantDesc"), (2, u "serialVersionUID"), (0, u "J"), (3, u "REPL"), (0, u "C"), (2, u "LATIN1"), (1, u "UTF16")] 323

def k7m0 : Method := { name := "<init>", desc := "()V", sig := { parameters := [], returnType := none }, accessFlags := 1, code := none }
def k7c1 : Code := { maxStack := 5, maxLocals := 2, code := jdk_42_method_3_code, exceptionTable := #[], attributes := #[] }
def k7m1 : Method := { name := "<init>", desc := "([C)V", sig := { parameters := [(.array .char)], returnType := none }, accessFlags := 1, code := some k7c1 }
def k7c2 : Code := { maxStack := 2, maxLocals := 3, code := jdk_42_method_66_code, exceptionTable := #[], attributes := #[] }
def k7m2 : Method := { name := "equals", desc := "(Ljava/lang/Object;)Z", sig := { parameters := [(.object "java/lang/Object")], returnType := some .boolean }, accessFlags := 1, code := some k7c2 }
def k7c3 : Code := { maxStack := 4, maxLocals := 1, code := jdk_42_method_139_code, exceptionTable := #[], attributes := #[] }
def k7m3 : Method := { name := "valueOf", desc := "(C)Ljava/lang/String;", sig := { parameters := [.char], returnType := some (.object "java/lang/String") }, accessFlags := 9, code := some k7c3 }
def k7c4 : Code := { maxStack := 4, maxLocals := 6, code := jdk_42_method_149_code, exceptionTable := #[], attributes := #[] }
def k7m4 : Method := { name := "<init>", desc := "([CIILjava/lang/Void;)V", sig := { parameters := [(.array .char), .int, .int, (.object "java/lang/Void")], returnType := none }, accessFlags := 2, code := some k7c4 }
def k7c5 : Code := { maxStack := 2, maxLocals := 3, code := jdk_42_method_151_code, exceptionTable := #[], attributes := #[] }
def k7m5 : Method := { name := "<init>", desc := "([BB)V", sig := { parameters := [(.array .byte), .byte], returnType := none }, accessFlags := 0, code := some k7c5 }
/-- java/lang/String -/
def k7 : Class := { plain "java/lang/String" (some 0) with
  accessFlags := 49
  interfaces := #[2, 3, 4, 5, 6]
  cf := some (fileOf pool7 10 #[.nestMembers #[1103]] #[{ accessFlags := 1, nameIndex := 5, descriptorIndex := 6, attributes := #[] }, { accessFlags := 1, nameIndex := 5, descriptorIndex := 1010, attributes := #[] }, { accessFlags := 1, nameIndex := 543, descriptorIndex := 573, attributes := #[] }, { accessFlags := 9, nameIndex := 782, descriptorIndex := 783, attributes := #[] }, { accessFlags := 2, nameIndex := 5, descriptorIndex := 29, attributes := #[] }, { accessFlags := 0, nameIndex := 5, descriptorIndex := 211, attributes := #[] }] 49 2 #[1106, 1108, 575, 1110, 1112] #[{ accessFlags := 18, nameIndex := 13, descriptorIndex := 14, attributes := #[] }, { accessFlags := 18, nameIndex := 17, descriptorIndex := 18, attributes := #[] }, { accessFlags := 2, nameIndex := 21, descriptorIndex := 22, attributes := #[] }, { accessFlags := 2, nameIndex := 25, descriptorIndex := 26, attributes := #[] }, { accessFlags := 26, nameIndex := 1116, descriptorIndex := 1117, attributes := #[] }, { accessFlags := 24, nameIndex := 40, descriptorIndex := 26, attributes := #[] }, { accessFlags := 26, nameIndex := 1101, descriptorIndex := 1102, attributes := #[] }, { accessFlags := 26, nameIndex := 1121, descriptorIndex := 1122, attributes := #[] }, { accessFlags := 25, nameIndex := 599, descriptorIndex := 600, attributes := #[] }, { accessFlags := 24, nameIndex := 1125, descriptorIndex := 18, attributes := #[] }, { accessFlags := 24, nameIndex := 1127, descriptorIndex := 18, attributes := #[] }])
  fields := #[{ name := "value", type := (.array .byte), accessFlags := 18, slot := 0, constantValue := 0 }, { name := "coder", type := .byte, accessFlags := 18, slot := 1, constantValue := 0 }, { name := "hash", type := .int, accessFlags := 2, slot := 2, constantValue := 0 }, { name := "hashIsZero", type := .boolean, accessFlags := 2, slot := 3, constantValue := 0 }, { name := "serialVersionUID", type := .long, accessFlags := 26, slot := 0, constantValue := 0 }, { name := "COMPACT_STRINGS", type := .boolean, accessFlags := 24, slot := 1, constantValue := 0 }, { name := "serialPersistentFields", type := (.array (.object "java/io/ObjectStreamField")), accessFlags := 26, slot := 2, constantValue := 0 }, { name := "REPL", type := .char, accessFlags := 26, slot := 3, constantValue := 0 }, { name := "CASE_INSENSITIVE_ORDER", type := (.object "java/util/Comparator"), accessFlags := 25, slot := 4, constantValue := 0 }, { name := "LATIN1", type := .byte, accessFlags := 24, slot := 5, constantValue := 0 }, { name := "UTF16", type := .byte, accessFlags := 24, slot := 6, constantValue := 0 }]
  methods := #[k7m0, k7m1, k7m2, k7m3, k7m4, k7m5]
  instanceTypes := #[(.array .byte), .byte, .int, .boolean]
  staticTypes := #[.long, .boolean, (.array (.object "java/io/ObjectStreamField")), .char, (.object "java/util/Comparator"), .byte, .byte]
  resolved := Array.replicate 1451 none
  statics := some 0 }

def pool8 : Array CpInfo := pool [(6, .class_ 8), (1, u "java/lang/Object"), (0, u "<init>"), (0, u "()V"), (1, .class_ 14), (1, u "java/lang/StringUTF16"), (31, u "$assertionsDisabled"), (0, u "Z"), (13, u "HI_BYTE_SHIFT"), (0, u "I"), (2, u "LO_BYTE_SHIFT"), (49, .methodref 12 116), (0, .nameAndType 117 118), (0, u "compress"), (0, u "([CI[BII)I"), (3, u "([CII)[B"), (138, u "coderFromArrayLen"), (0, u "([BI)B"), (106, .class_ 371), (1, u "java/lang/StringUTF16$LinesSpliterator"), (58, u "MAX_LENGTH"), (196, .class_ 628), (0, u "java/lang/StringUTF16$CodePointsSpliterator"), (0, .class_ 630), (0, u "java/lang/StringUTF16$CharsSpliterator")] 4

def k8m0 : Method := { name := "<init>", desc := "()V", sig := { parameters := [], returnType := none }, accessFlags := 0, code := none }
def k8c1 : Code := { maxStack := 2, maxLocals := 2, code := jdk_52_method_15_code, exceptionTable := #[], attributes := #[] }
def k8m1 : Method := { name := "coderFromArrayLen", desc := "([BI)B", sig := { parameters := [(.array .byte), .int], returnType := some .byte }, accessFlags := 8, code := some k8c1 }
def k8c2 : Code := { maxStack := 5, maxLocals := 6, code := jdk_52_method_16_code, exceptionTable := #[], attributes := #[] }
def k8m2 : Method := { name := "compress", desc := "([CII)[B", sig := { parameters := [(.array .char), .int, .int], returnType := some (.array .byte) }, accessFlags := 9, code := some k8c2 }
def k8c3 : Code := { maxStack := 3, maxLocals := 7, code := jdk_52_method_21_code, exceptionTable := #[], attributes := #[] }
def k8m3 : Method := { name := "compress", desc := "([CI[BII)I", sig := { parameters := [(.array .char), .int, (.array .byte), .int, .int], returnType := some .int }, accessFlags := 9, code := some k8c3 }
/-- java/lang/StringUTF16 -/
def k8 : Class := { plain "java/lang/StringUTF16" (some 0) with
  accessFlags := 48
  interfaces := #[]
  cf := some (fileOf pool8 12 #[.nestMembers #[627, 629, 369]] #[{ accessFlags := 0, nameIndex := 9, descriptorIndex := 10, attributes := #[] }, { accessFlags := 8, nameIndex := 261, descriptorIndex := 262, attributes := #[] }, { accessFlags := 9, nameIndex := 117, descriptorIndex := 122, attributes := #[] }, { accessFlags := 9, nameIndex := 117, descriptorIndex := 118, attributes := #[] }] 48 6 #[] #[{ accessFlags := 26, nameIndex := 61, descriptorIndex := 62, attributes := #[] }, { accessFlags := 26, nameIndex := 65, descriptorIndex := 62, attributes := #[] }, { accessFlags := 24, nameIndex := 430, descriptorIndex := 62, attributes := #[] }, { accessFlags := 4120, nameIndex := 46, descriptorIndex := 47, attributes := #[] }])
  fields := #[{ name := "HI_BYTE_SHIFT", type := .int, accessFlags := 26, slot := 0, constantValue := 0 }, { name := "LO_BYTE_SHIFT", type := .int, accessFlags := 26, slot := 1, constantValue := 0 }, { name := "MAX_LENGTH", type := .int, accessFlags := 24, slot := 2, constantValue := 0 }, { name := "$assertionsDisabled", type := .boolean, accessFlags := 4120, slot := 3, constantValue := 0 }]
  methods := #[k8m0, k8m1, k8m2, k8m3]
  instanceTypes := #[]
  staticTypes := #[.int, .int, .int, .boolean]
  resolved := Array.replicate 635 none
  statics := none }

def pool9 : Array CpInfo := pool [(1, .methodref 2 3), (0, .class_ 4), (0, .nameAndType 5 6), (0, u "java/lang/Object"), (0, u "<init>"), (0, u "()V"), (0, .class_ 8), (0, u "java/lang/Record")] 13

def k9c0 : Code := { maxStack := 1, maxLocals := 1, code := jdk_30_method_1_code, exceptionTable := #[], attributes := #[] }
def k9m0 : Method := { name := "<init>", desc := "()V", sig := { parameters := [], returnType := none }, accessFlags := 4, code := some k9c0 }
/-- java/lang/Record -/
def k9 : Class := { plain "java/lang/Record" (some 0) with
  accessFlags := 1057
  interfaces := #[]
  cf := some (fileOf pool9 7 #[] #[{ accessFlags := 4, nameIndex := 5, descriptorIndex := 6, attributes := #[] }] 1057 2 #[] #[])
  fields := #[]
  methods := #[k9m0]
  instanceTypes := #[]
  staticTypes := #[]
  resolved := Array.replicate 22 none
  statics := none }

def pool10 : Array CpInfo := pool [(1, .methodref 2 3), (0, .class_ 4), (0, .nameAndType 5 6), (0, u "java/lang/Record"), (0, u "<init>"), (0, u "()V"), (0, .string 8), (0, u "destination"), (0, .methodref 10 11), (0, .class_ 12), (0, .nameAndType 13 14), (0, u "java/util/Objects"), (0, u "requireNonNull"), (0, u "(Ljava/lang/Object;Ljava/lang/String;)Ljava/lang/Object;"), (9, .class_ 25), (0, u "com/example/despatch/despatch/messaging/MailboxQuery"), (0, .methodref 27 28), (0, .class_ 29), (0, .nameAndType 30 31), (0, u "java/lang/Math"), (0, u "min"), (0, u "(II)I"), (0, .fieldref 24 33), (0, .nameAndType 8 34), (0, u "Ljava/lang/String;"), (0, .fieldref 24 36), (0, .nameAndType 37 38), (0, u "from"), (0, u "Ljava/time/Instant;"), (0, .fieldref 24 40), (0, .nameAndType 41 38), (0, u "before"), (0, .fieldref 24 43), (0, .nameAndType 44 45), (0, u "responseTo"), (0, u "Ljava/util/function/Predicate;"), (0, .fieldref 24 47), (0, .nameAndType 48 49), (0, u "offset"), (0, u "I"), (0, .fieldref 24 51), (0, .nameAndType 52 49), (0, u "count"), (0, .fieldref 54 55), (0, .class_ 56), (0, .nameAndType 57 38), (0, u "java/time/Instant"), (0, u "MIN"), (0, .fieldref 54 59), (0, .nameAndType 60 38), (0, u "MAX"), (0, .invokeDynamic 1 62), (0, .nameAndType 63 64), (0, u "test"), (0, u "()Ljava/util/function/Predicate;"), (0, .methodref 24 66), (0, .nameAndType 5 67), (0, u "(Ljava/lang/String;Ljava/time/Instant;Ljava/time/Instant;Ljava/util/function/Predicate;II)V"), (0, .methodref 54 69), (0, .nameAndType 70 71), (0, u "isAfter"), (0, u "(Ljava/time/Instant;)Z"), (0, .methodref 54 73), (0, .nameAndType 74 71), (0, u "isBefore"), (25, u "(Ljava/lang/Object;)Z"), (14, u "DEFAULT_COUNT"), (2, u "MAX_COUNT"), (8, u "of"), (0, u "(Ljava/lang/String;)Lcom/example/despatch/despatch/messaging/MailboxQuery;"), (0, u "keptFrom"), (0, u "(Ljava/time/Instant;)Lcom/example/despatch/despatch/messaging/MailboxQuery;"), (0, u "keptBefore"), (8, u "()Ljava/lang/String;"), (0, u "()I"), (0, u "()Ljava/time/Instant;"), (5, u "lambda$of$0"), (0, u "(Ljava/lang/String;)Z"), (6, .methodType 100), (0, .methodHandle 6 158), (0, .methodref 24 159), (0, .nameAndType 148 149), (0, .methodType 149), (20, .methodHandle 6 182), (0, .methodref 183 184), (0, .class_ 185), (0, .nameAndType 186 187), (0, u "java/lang/invoke/LambdaMetafactory"), (0, u "metafactory"), (0, u "(Ljava/lang/invoke/MethodHandles$Lookup;Ljava/lang/String;Ljava/lang/invoke/MethodType;Ljava/lang/invoke/MethodType;Ljava/lang/invoke/MethodHandle;Ljava/lang/invoke/MethodType;)Ljava/lang/invoke/CallSite;")] 13

def k10c0 : Code := { maxStack := 4, maxLocals := 7, code := prog_16_method_1_code, exceptionTable := #[], attributes := #[] }
def k10m0 : Method := { name := "<init>", desc := "(Ljava/lang/String;Ljava/time/Instant;Ljava/time/Instant;Ljava/util/function/Predicate;II)V", sig := { parameters := [(.object "java/lang/String"), (.object "java/time/Instant"), (.object "java/time/Instant"), (.object "java/util/function/Predicate"), .int, .int], returnType := none }, accessFlags := 1, code := some k10c0 }
def k10c1 : Code := { maxStack := 8, maxLocals := 1, code := prog_16_method_2_code, exceptionTable := #[], attributes := #[] }
def k10m1 : Method := { name := "of", desc := "(Ljava/lang/String;)Lcom/example/despatch/despatch/messaging/MailboxQuery;", sig := { parameters := [(.object "java/lang/String")], returnType := some (.object "com/example/despatch/despatch/messaging/MailboxQuery") }, accessFlags := 9, code := some k10c1 }
def k10c2 : Code := { maxStack := 8, maxLocals := 3, code := prog_16_method_3_code, exceptionTable := #[], attributes := #[] }
def k10m2 : Method := { name := "keptFrom", desc := "(Ljava/time/Instant;)Lcom/example/despatch/despatch/messaging/MailboxQuery;", sig := { parameters := [(.object "java/time/Instant")], returnType := some (.object "com/example/despatch/despatch/messaging/MailboxQuery") }, accessFlags := 1, code := some k10c2 }
def k10c3 : Code := { maxStack := 8, maxLocals := 3, code := prog_16_method_4_code, exceptionTable := #[], attributes := #[] }
def k10m3 : Method := { name := "keptBefore", desc := "(Ljava/time/Instant;)Lcom/example/despatch/despatch/messaging/MailboxQuery;", sig := { parameters := [(.object "java/time/Instant")], returnType := some (.object "com/example/despatch/despatch/messaging/MailboxQuery") }, accessFlags := 1, code := some k10c3 }
def k10c4 : Code := { maxStack := 1, maxLocals := 1, code := prog_16_method_12_code, exceptionTable := #[], attributes := #[] }
def k10m4 : Method := { name := "destination", desc := "()Ljava/lang/String;", sig := { parameters := [], returnType := some (.object "java/lang/String") }, accessFlags := 1, code := some k10c4 }
def k10c5 : Code := { maxStack := 1, maxLocals := 1, code := prog_16_method_13_code, exceptionTable := #[], attributes := #[] }
def k10m5 : Method := { name := "from", desc := "()Ljava/time/Instant;", sig := { parameters := [], returnType := some (.object "java/time/Instant") }, accessFlags := 1, code := some k10c5 }
def k10c6 : Code := { maxStack := 1, maxLocals := 1, code := prog_16_method_14_code, exceptionTable := #[], attributes := #[] }
def k10m6 : Method := { name := "before", desc := "()Ljava/time/Instant;", sig := { parameters := [], returnType := some (.object "java/time/Instant") }, accessFlags := 1, code := some k10c6 }
def k10c7 : Code := { maxStack := 1, maxLocals := 1, code := prog_16_method_16_code, exceptionTable := #[], attributes := #[] }
def k10m7 : Method := { name := "offset", desc := "()I", sig := { parameters := [], returnType := some .int }, accessFlags := 1, code := some k10c7 }
def k10c8 : Code := { maxStack := 1, maxLocals := 1, code := prog_16_method_17_code, exceptionTable := #[], attributes := #[] }
def k10m8 : Method := { name := "count", desc := "()I", sig := { parameters := [], returnType := some .int }, accessFlags := 1, code := some k10c8 }
def k10c9 : Code := { maxStack := 1, maxLocals := 1, code := ⟨#[0x04, 0xac]⟩, exceptionTable := #[], attributes := #[] }
def k10m9 : Method := { name := "lambda$of$0", desc := "(Ljava/lang/String;)Z", sig := { parameters := [(.object "java/lang/String")], returnType := some .boolean }, accessFlags := 4106, code := some k10c9 }
/-- com/example/despatch/despatch/messaging/MailboxQuery -/
def k10 : Class := { plain "com/example/despatch/despatch/messaging/MailboxQuery" (some 9) with
  accessFlags := 49
  interfaces := #[]
  cf := some (fileOf pool10 24 #[.bootstrapMethods #[⟨0, #[]⟩, ⟨181, #[156, 157, 160]⟩, ⟨0, #[]⟩, ⟨0, #[]⟩, ⟨0, #[]⟩]] #[{ accessFlags := 1, nameIndex := 5, descriptorIndex := 67, attributes := #[] }, { accessFlags := 9, nameIndex := 127, descriptorIndex := 128, attributes := #[] }, { accessFlags := 1, nameIndex := 129, descriptorIndex := 130, attributes := #[] }, { accessFlags := 1, nameIndex := 131, descriptorIndex := 130, attributes := #[] }, { accessFlags := 1, nameIndex := 8, descriptorIndex := 140, attributes := #[] }, { accessFlags := 1, nameIndex := 37, descriptorIndex := 142, attributes := #[] }, { accessFlags := 1, nameIndex := 41, descriptorIndex := 142, attributes := #[] }, { accessFlags := 1, nameIndex := 48, descriptorIndex := 141, attributes := #[] }, { accessFlags := 1, nameIndex := 52, descriptorIndex := 141, attributes := #[] }, { accessFlags := 4106, nameIndex := 148, descriptorIndex := 149, attributes := #[] }] 49 2 #[] #[{ accessFlags := 18, nameIndex := 8, descriptorIndex := 34, attributes := #[] }, { accessFlags := 18, nameIndex := 37, descriptorIndex := 38, attributes := #[] }, { accessFlags := 18, nameIndex := 41, descriptorIndex := 38, attributes := #[] }, { accessFlags := 18, nameIndex := 44, descriptorIndex := 45, attributes := #[] }, { accessFlags := 18, nameIndex := 48, descriptorIndex := 49, attributes := #[] }, { accessFlags := 18, nameIndex := 52, descriptorIndex := 49, attributes := #[] }, { accessFlags := 25, nameIndex := 115, descriptorIndex := 49, attributes := #[] }, { accessFlags := 25, nameIndex := 118, descriptorIndex := 49, attributes := #[] }])
  fields := #[{ name := "destination", type := (.object "java/lang/String"), accessFlags := 18, slot := 0, constantValue := 0 }, { name := "from", type := (.object "java/time/Instant"), accessFlags := 18, slot := 1, constantValue := 0 }, { name := "before", type := (.object "java/time/Instant"), accessFlags := 18, slot := 2, constantValue := 0 }, { name := "responseTo", type := (.object "java/util/function/Predicate"), accessFlags := 18, slot := 3, constantValue := 0 }, { name := "offset", type := .int, accessFlags := 18, slot := 4, constantValue := 0 }, { name := "count", type := .int, accessFlags := 18, slot := 5, constantValue := 0 }, { name := "DEFAULT_COUNT", type := .int, accessFlags := 25, slot := 0, constantValue := 0 }, { name := "MAX_COUNT", type := .int, accessFlags := 25, slot := 1, constantValue := 0 }]
  methods := #[k10m0, k10m1, k10m2, k10m3, k10m4, k10m5, k10m6, k10m7, k10m8, k10m9]
  instanceTypes := #[(.object "java/lang/String"), (.object "java/time/Instant"), (.object "java/time/Instant"), (.object "java/util/function/Predicate"), .int, .int]
  staticTypes := #[.int, .int]
  resolved := Array.replicate 201 none
  callSites := [(1, 11, .constant 3)]
  statics := none }

def pool11 : Array CpInfo := pool [(4, .class_ 6), (1, u "java/time/temporal/TemporalAccessor"), (95, .class_ 103), (0, u "java/lang/Object")] 21

/-- java/time/temporal/TemporalAccessor -/
def k11 : Class := { plain "java/time/temporal/TemporalAccessor" (some 0) with
  accessFlags := 1537
  interfaces := #[]
  cf := some (fileOf pool11 4 #[] #[] 1537 102 #[] #[])
  fields := #[]
  methods := #[]
  instanceTypes := #[]
  staticTypes := #[]
  resolved := Array.replicate 125 none
  statics := none }

def pool12 : Array CpInfo := pool [(22, .class_ 24), (1, u "java/time/temporal/Temporal"), (2, .class_ 28), (0, u "java/lang/Object"), (0, .class_ 30), (0, u "java/time/temporal/TemporalAccessor")] 25

/-- java/time/temporal/Temporal -/
def k12 : Class := { plain "java/time/temporal/Temporal" (some 0) with
  accessFlags := 1537
  interfaces := #[11]
  cf := some (fileOf pool12 22 #[] #[] 1537 27 #[29] #[])
  fields := #[]
  methods := #[]
  instanceTypes := #[]
  staticTypes := #[]
  resolved := Array.replicate 56 none
  statics := none }

def pool13 : Array CpInfo := pool [(1, .class_ 2), (0, u "java/time/temporal/TemporalAdjuster"), (0, .class_ 4), (0, u "java/lang/Object")] 6

/-- java/time/temporal/TemporalAdjuster -/
def k13 : Class := { plain "java/time/temporal/TemporalAdjuster" (some 0) with
  accessFlags := 1537
  interfaces := #[]
  cf := some (fileOf pool13 1 #[] #[] 1537 3 #[] #[])
  fields := #[]
  methods := #[]
  instanceTypes := #[]
  staticTypes := #[]
  resolved := Array.replicate 11 none
  statics := none }

def pool14 : Array CpInfo := pool [(21, .class_ 23), (1, u "java/time/Instant"), (99, u "EPOCH"), (0, u "Ljava/time/Instant;"), (13, .class_ 139), (0, u "java/lang/Object"), (0, .fieldref 21 141), (0, .nameAndType 142 143), (0, u "seconds"), (0, u "J"), (2, u "nanos"), (0, u "I"), (28, .class_ 178), (1, u "java/time/temporal/Temporal"), (3, .class_ 184), (1, u "java/time/Instant$1"), (23, .class_ 210), (1, u "java/time/temporal/TemporalAdjuster"), (71, .class_ 283), (0, u "java/lang/Long"), (83, .methodref 282 368), (0, .nameAndType 369 370), (0, u "compare"), (0, u "(JJ)I"), (0, .methodref 21 372), (0, .nameAndType 373 374), (0, u "compareTo"), (0, u "(Ljava/time/Instant;)I"), (48, u "MIN"), (4, u "MAX"), (0, .class_ 430), (0, u "java/lang/Comparable"), (0, .class_ 432), (0, u "java/io/Serializable"), (0, u "MIN_SECOND"), (1, u "MAX_SECOND"), (0, u "serialVersionUID"), (88, u "isAfter"), (0, u "(Ljava/time/Instant;)Z"), (0, u "isBefore")] 51

def k14c0 : Code := { maxStack := 4, maxLocals := 3, code := jdk_2320_method_41_code, exceptionTable := #[], attributes := #[] }
def k14m0 : Method := { name := "compareTo", desc := "(Ljava/time/Instant;)I", sig := { parameters := [(.object "java/time/Instant")], returnType := some .int }, accessFlags := 1, code := some k14c0 }
def k14c1 : Code := { maxStack := 2, maxLocals := 2, code := jdk_2320_method_42_code, exceptionTable := #[], attributes := #[] }
def k14m1 : Method := { name := "isAfter", desc := "(Ljava/time/Instant;)Z", sig := { parameters := [(.object "java/time/Instant")], returnType := some .boolean }, accessFlags := 1, code := some k14c1 }
def k14c2 : Code := { maxStack := 2, maxLocals := 2, code := jdk_2320_method_43_code, exceptionTable := #[], attributes := #[] }
def k14m2 : Method := { name := "isBefore", desc := "(Ljava/time/Instant;)Z", sig := { parameters := [(.object "java/time/Instant")], returnType := some .boolean }, accessFlags := 1, code := some k14c2 }
/-- java/time/Instant -/
def k14 : Class := { plain "java/time/Instant" (some 0) with
  accessFlags := 49
  interfaces := #[12, 13, 3, 2]
  cf := some (fileOf pool14 21 #[.nestMembers #[182]] #[{ accessFlags := 1, nameIndex := 373, descriptorIndex := 374, attributes := #[] }, { accessFlags := 1, nameIndex := 525, descriptorIndex := 526, attributes := #[] }, { accessFlags := 1, nameIndex := 527, descriptorIndex := 526, attributes := #[] }] 49 138 #[176, 208, 429, 431] #[{ accessFlags := 25, nameIndex := 123, descriptorIndex := 124, attributes := #[] }, { accessFlags := 26, nameIndex := 433, descriptorIndex := 143, attributes := #[] }, { accessFlags := 26, nameIndex := 435, descriptorIndex := 143, attributes := #[] }, { accessFlags := 25, nameIndex := 423, descriptorIndex := 124, attributes := #[] }, { accessFlags := 25, nameIndex := 428, descriptorIndex := 124, attributes := #[] }, { accessFlags := 26, nameIndex := 436, descriptorIndex := 143, attributes := #[] }, { accessFlags := 18, nameIndex := 142, descriptorIndex := 143, attributes := #[] }, { accessFlags := 18, nameIndex := 146, descriptorIndex := 147, attributes := #[] }])
  fields := #[{ name := "EPOCH", type := (.object "java/time/Instant"), accessFlags := 25, slot := 0, constantValue := 0 }, { name := "MIN_SECOND", type := .long, accessFlags := 26, slot := 1, constantValue := 0 }, { name := "MAX_SECOND", type := .long, accessFlags := 26, slot := 2, constantValue := 0 }, { name := "MIN", type := (.object "java/time/Instant"), accessFlags := 25, slot := 3, constantValue := 0 }, { name := "MAX", type := (.object "java/time/Instant"), accessFlags := 25, slot := 4, constantValue := 0 }, { name := "serialVersionUID", type := .long, accessFlags := 26, slot := 5, constantValue := 0 }, { name := "seconds", type := .long, accessFlags := 18, slot := 0, constantValue := 0 }, { name := "nanos", type := .int, accessFlags := 18, slot := 1, constantValue := 0 }]
  methods := #[k14m0, k14m1, k14m2]
  instanceTypes := #[.long, .int]
  staticTypes := #[(.object "java/time/Instant"), .long, .long, (.object "java/time/Instant"), (.object "java/time/Instant"), .long]
  resolved := Array.replicate 579 none
  statics := some 1 }

def pool15 : Array CpInfo := pool [(9, u "test"), (12, .class_ 24), (1, u "java/util/function/Predicate"), (2, .class_ 29), (1, u "java/lang/Object"), (1, u "(Ljava/lang/Object;)Z")] 69

def k15m0 : Method := { name := "test", desc := "(Ljava/lang/Object;)Z", sig := { parameters := [(.object "java/lang/Object")], returnType := some .boolean }, accessFlags := 1025, code := none }
/-- java/util/function/Predicate -/
def k15 : Class := { plain "java/util/function/Predicate" (some 0) with
  accessFlags := 1537
  interfaces := #[]
  cf := some (fileOf pool15 22 #[] #[{ accessFlags := 1025, nameIndex := 9, descriptorIndex := 31, attributes := #[] }] 1537 27 #[] #[])
  fields := #[]
  methods := #[k15m0]
  instanceTypes := #[]
  staticTypes := #[]
  resolved := Array.replicate 101 none
  statics := none }

def pool16 : Array CpInfo := pool [(2, .class_ 4), (1, u "java/lang/Object"), (0, u "<init>"), (0, u "()V"), (35, .class_ 44), (1, u "java/util/Objects"), (0, u "requireNonNull"), (48, u "(Ljava/lang/Object;Ljava/lang/String;)Ljava/lang/Object;")] 89

def k16m0 : Method := { name := "<init>", desc := "()V", sig := { parameters := [], returnType := none }, accessFlags := 2, code := none }
def k16c1 : Code := { maxStack := 3, maxLocals := 2, code := jdk_31_method_11_code, exceptionTable := #[], attributes := #[] }
def k16m1 : Method := { name := "requireNonNull", desc := "(Ljava/lang/Object;Ljava/lang/String;)Ljava/lang/Object;", sig := { parameters := [(.object "java/lang/Object"), (.object "java/lang/String")], returnType := some (.object "java/lang/Object") }, accessFlags := 9, code := some k16c1 }
/-- java/util/Objects -/
def k16 : Class := { plain "java/util/Objects" (some 0) with
  accessFlags := 49
  interfaces := #[]
  cf := some (fileOf pool16 42 #[] #[{ accessFlags := 2, nameIndex := 5, descriptorIndex := 6, attributes := #[] }, { accessFlags := 9, nameIndex := 45, descriptorIndex := 94, attributes := #[] }] 49 2 #[] #[])
  fields := #[]
  methods := #[k16m0, k16m1]
  instanceTypes := #[]
  staticTypes := #[]
  resolved := Array.replicate 184 none
  statics := none }

def pool17 : Array CpInfo := pool [(1, .class_ 2), (0, u "java/lang/Math"), (1, .class_ 6), (1, u "java/lang/Object"), (0, u "<init>"), (0, u "()V"), (89, .class_ 100), (1, u "java/lang/Math$RandomNumberGeneratorHolder"), (71, u "negativeZeroFloatBits"), (0, u "J"), (2, u "negativeZeroDoubleBits"), (24, u "min"), (43, u "$assertionsDisabled"), (0, u "Z"), (88, u "(II)I"), (2, u "twoToTheDoubleScaleDown"), (0, u "D"), (4, u "twoToTheDoubleScaleUp"), (9, u "E"), (3, u "PI"), (2, u "TAU"), (2, u "DEGREES_TO_RADIANS"), (0, u "RADIANS_TO_DEGREES")] 94

def k17m0 : Method := { name := "<init>", desc := "()V", sig := { parameters := [], returnType := none }, accessFlags := 2, code := none }
def k17c1 : Code := { maxStack := 2, maxLocals := 2, code := jdk_29_method_69_code, exceptionTable := #[], attributes := #[] }
def k17m1 : Method := { name := "min", desc := "(II)I", sig := { parameters := [.int, .int], returnType := some .int }, accessFlags := 9, code := some k17c1 }
/-- java/lang/Math -/
def k17 : Class := { plain "java/lang/Math" (some 0) with
  accessFlags := 49
  interfaces := #[]
  cf := some (fileOf pool17 1 #[.nestMembers #[98]] #[{ accessFlags := 2, nameIndex := 7, descriptorIndex := 8, attributes := #[] }, { accessFlags := 9, nameIndex := 201, descriptorIndex := 335, attributes := #[] }] 49 4 #[] #[{ accessFlags := 25, nameIndex := 354, descriptorIndex := 339, attributes := #[] }, { accessFlags := 25, nameIndex := 358, descriptorIndex := 339, attributes := #[] }, { accessFlags := 25, nameIndex := 361, descriptorIndex := 339, attributes := #[] }, { accessFlags := 26, nameIndex := 364, descriptorIndex := 339, attributes := #[] }, { accessFlags := 26, nameIndex := 365, descriptorIndex := 339, attributes := #[] }, { accessFlags := 26, nameIndex := 172, descriptorIndex := 173, attributes := #[] }, { accessFlags := 26, nameIndex := 176, descriptorIndex := 173, attributes := #[] }, { accessFlags := 8, nameIndex := 344, descriptorIndex := 339, attributes := #[] }, { accessFlags := 8, nameIndex := 338, descriptorIndex := 339, attributes := #[] }, { accessFlags := 4120, nameIndex := 245, descriptorIndex := 246, attributes := #[] }])
  fields := #[{ name := "E", type := .double, accessFlags := 25, slot := 0, constantValue := 0 }, { name := "PI", type := .double, accessFlags := 25, slot := 1, constantValue := 0 }, { name := "TAU", type := .double, accessFlags := 25, slot := 2, constantValue := 0 }, { name := "DEGREES_TO_RADIANS", type := .double, accessFlags := 26, slot := 3, constantValue := 0 }, { name := "RADIANS_TO_DEGREES", type := .double, accessFlags := 26, slot := 4, constantValue := 0 }, { name := "negativeZeroFloatBits", type := .long, accessFlags := 26, slot := 5, constantValue := 0 }, { name := "negativeZeroDoubleBits", type := .long, accessFlags := 26, slot := 6, constantValue := 0 }, { name := "twoToTheDoubleScaleUp", type := .double, accessFlags := 8, slot := 7, constantValue := 0 }, { name := "twoToTheDoubleScaleDown", type := .double, accessFlags := 8, slot := 8, constantValue := 0 }, { name := "$assertionsDisabled", type := .boolean, accessFlags := 4120, slot := 9, constantValue := 0 }]
  methods := #[k17m0, k17m1]
  instanceTypes := #[]
  staticTypes := #[.double, .double, .double, .double, .double, .long, .long, .double, .double, .boolean]
  resolved := Array.replicate 460 none
  statics := none }

def pool18 : Array CpInfo := pool [(2, .class_ 4), (1, u "java/lang/Object"), (0, u "<init>"), (0, u "()V"), (1, .class_ 10), (1, u "java/lang/Number"), (2, .class_ 14), (0, u "java/io/Serializable"), (0, u "serialVersionUID"), (0, u "J")] 20

def k18m0 : Method := { name := "<init>", desc := "()V", sig := { parameters := [], returnType := none }, accessFlags := 1, code := none }
/-- java/lang/Number -/
def k18 : Class := { plain "java/lang/Number" (some 0) with
  accessFlags := 1057
  interfaces := #[2]
  cf := some (fileOf pool18 8 #[] #[{ accessFlags := 1, nameIndex := 5, descriptorIndex := 6, attributes := #[] }] 1057 2 #[13] #[{ accessFlags := 26, nameIndex := 15, descriptorIndex := 16, attributes := #[] }])
  fields := #[{ name := "serialVersionUID", type := .long, accessFlags := 26, slot := 0, constantValue := 0 }]
  methods := #[k18m0]
  instanceTypes := #[]
  staticTypes := #[.long]
  resolved := Array.replicate 37 none
  statics := none }

def pool19 : Array CpInfo := pool [(1, .class_ 2), (0, u "java/lang/Long"), (232, .class_ 237), (1, u "java/lang/Long$LongCache"), (33, .class_ 272), (0, u "java/lang/Number"), (2, u "value"), (0, u "J"), (27, u "compare"), (0, u "(JJ)I"), (55, u "TYPE"), (0, u "Ljava/lang/Class;"), (0, .class_ 364), (0, u "java/lang/Comparable"), (0, .class_ 366), (0, u "java/lang/constant/Constable"), (0, .class_ 368), (0, u "java/lang/constant/ConstantDesc"), (0, u "MIN_VALUE"), (1, u "MAX_VALUE"), (4, u "SIZE"), (0, u "I"), (1, u "BYTES"), (1, u "serialVersionUID")] 142

def k19c0 : Code := { maxStack := 4, maxLocals := 4, code := jdk_35_method_42_code, exceptionTable := #[], attributes := #[] }
def k19m0 : Method := { name := "compare", desc := "(JJ)I", sig := { parameters := [.long, .long], returnType := some .int }, accessFlags := 9, code := some k19c0 }
/-- java/lang/Long -/
def k19 : Class := { plain "java/lang/Long" (some 18) with
  accessFlags := 49
  interfaces := #[3, 5, 6]
  cf := some (fileOf pool19 1 #[.nestMembers #[235]] #[{ accessFlags := 9, nameIndex := 304, descriptorIndex := 305, attributes := #[] }] 49 271 #[363, 365, 367] #[{ accessFlags := 25, nameIndex := 369, descriptorIndex := 276, attributes := #[] }, { accessFlags := 25, nameIndex := 371, descriptorIndex := 276, attributes := #[] }, { accessFlags := 25, nameIndex := 361, descriptorIndex := 362, attributes := #[] }, { accessFlags := 18, nameIndex := 275, descriptorIndex := 276, attributes := #[] }, { accessFlags := 25, nameIndex := 376, descriptorIndex := 377, attributes := #[] }, { accessFlags := 25, nameIndex := 379, descriptorIndex := 377, attributes := #[] }, { accessFlags := 26, nameIndex := 381, descriptorIndex := 276, attributes := #[] }])
  fields := #[{ name := "MIN_VALUE", type := .long, accessFlags := 25, slot := 0, constantValue := 0 }, { name := "MAX_VALUE", type := .long, accessFlags := 25, slot := 1, constantValue := 0 }, { name := "TYPE", type := (.object "java/lang/Class"), accessFlags := 25, slot := 2, constantValue := 0 }, { name := "value", type := .long, accessFlags := 18, slot := 0, constantValue := 0 }, { name := "SIZE", type := .int, accessFlags := 25, slot := 3, constantValue := 0 }, { name := "BYTES", type := .int, accessFlags := 25, slot := 4, constantValue := 0 }, { name := "serialVersionUID", type := .long, accessFlags := 26, slot := 5, constantValue := 0 }]
  methods := #[k19m0]
  instanceTypes := #[.long]
  staticTypes := #[.long, .long, (.object "java/lang/Class"), .int, .int, .long]
  resolved := Array.replicate 524 none
  statics := none }

def pool20 : Array CpInfo := pool [(4, .class_ 6), (1, u "java/lang/Object"), (0, u "<init>"), (0, u "()V"), (5, .class_ 16), (1, u "java/lang/StringLatin1"), (73, u "canEncode"), (14, u "(C)Z"), (15, u "$assertionsDisabled"), (0, u "Z"), (98, .class_ 223), (1, u "java/lang/StringLatin1$LinesSpliterator"), (156, u "toBytes"), (1, u "(C)[B"), (7, .class_ 391), (0, u "java/lang/StringLatin1$CharsSpliterator")] 3

def k20m0 : Method := { name := "<init>", desc := "()V", sig := { parameters := [], returnType := none }, accessFlags := 0, code := none }
def k20c1 : Code := { maxStack := 2, maxLocals := 1, code := jdk_43_method_3_code, exceptionTable := #[], attributes := #[] }
def k20m1 : Method := { name := "canEncode", desc := "(C)Z", sig := { parameters := [.char], returnType := some .boolean }, accessFlags := 9, code := some k20c1 }
def k20c2 : Code := { maxStack := 4, maxLocals := 1, code := jdk_43_method_46_code, exceptionTable := #[], attributes := #[] }
def k20m2 : Method := { name := "toBytes", desc := "(C)[B", sig := { parameters := [.char], returnType := some (.array .byte) }, accessFlags := 9, code := some k20c2 }
/-- java/lang/StringLatin1 -/
def k20 : Class := { plain "java/lang/StringLatin1" (some 0) with
  accessFlags := 48
  interfaces := #[]
  cf := some (fileOf pool20 14 #[.nestMembers #[390, 221]] #[{ accessFlags := 0, nameIndex := 7, descriptorIndex := 8, attributes := #[] }, { accessFlags := 9, nameIndex := 90, descriptorIndex := 105, attributes := #[] }, { accessFlags := 9, nameIndex := 380, descriptorIndex := 382, attributes := #[] }] 48 4 #[] #[{ accessFlags := 4120, nameIndex := 121, descriptorIndex := 122, attributes := #[] }])
  fields := #[{ name := "$assertionsDisabled", type := .boolean, accessFlags := 4120, slot := 0, constantValue := 0 }]
  methods := #[k20m0, k20m1, k20m2]
  instanceTypes := #[]
  staticTypes := #[.boolean]
  resolved := Array.replicate 395 none
  statics := none }

def pool21 : Array CpInfo := pool [(2, .class_ 4), (1, u "java/lang/Object"), (0, u "<init>"), (0, u "()V"), (17, .class_ 26), (1, u "jdk/internal/util/Preconditions"), (28, .class_ 56), (0, u "jdk/internal/util/Preconditions$4"), (57, .class_ 115), (0, u "jdk/internal/util/Preconditions$1"), (7, u "SIOOBE_FORMATTER"), (0, u "Ljava/util/function/BiFunction;"), (0, .class_ 126), (0, u "jdk/internal/util/Preconditions$2"), (3, u "AIOOBE_FORMATTER"), (0, .class_ 132), (0, u "jdk/internal/util/Preconditions$3"), (3, u "IOOBE_FORMATTER")] 57

def k21m0 : Method := { name := "<init>", desc := "()V", sig := { parameters := [], returnType := none }, accessFlags := 1, code := none }
/-- jdk/internal/util/Preconditions -/
def k21 : Class := { plain "jdk/internal/util/Preconditions" (some 0) with
  accessFlags := 33
  interfaces := #[]
  cf := some (fileOf pool21 24 #[.nestMembers #[55, 131, 125, 114]] #[{ accessFlags := 1, nameIndex := 5, descriptorIndex := 6, attributes := #[] }] 33 2 #[] #[{ accessFlags := 25, nameIndex := 123, descriptorIndex := 124, attributes := #[] }, { accessFlags := 25, nameIndex := 130, descriptorIndex := 124, attributes := #[] }, { accessFlags := 25, nameIndex := 136, descriptorIndex := 124, attributes := #[] }])
  fields := #[{ name := "SIOOBE_FORMATTER", type := (.object "java/util/function/BiFunction"), accessFlags := 25, slot := 0, constantValue := 0 }, { name := "AIOOBE_FORMATTER", type := (.object "java/util/function/BiFunction"), accessFlags := 25, slot := 1, constantValue := 0 }, { name := "IOOBE_FORMATTER", type := (.object "java/util/function/BiFunction"), accessFlags := 25, slot := 2, constantValue := 0 }]
  methods := #[k21m0]
  instanceTypes := #[]
  staticTypes := #[(.object "java/util/function/BiFunction"), (.object "java/util/function/BiFunction"), (.object "java/util/function/BiFunction")]
  resolved := Array.replicate 194 none
  statics := some 2 }

def pool22 : Array CpInfo := pool [(9, u "<init>"), (6, .class_ 18), (1, u "java/lang/Object"), (0, u "()V"), (1, .class_ 23), (1, u "jdk/internal/util/ArraysSupport"), (0, u "LOG2_ARRAY_LONG_INDEX_SCALE"), (0, u "I"), (2, u "U"), (0, u "Ljdk/internal/misc/Unsafe;"), (8, u "BIG_ENDIAN"), (0, u "Z"), (8, u "LOG2_BYTE_BIT_SIZE"), (4, u "LOG2_ARRAY_INT_INDEX_SCALE"), (54, u "JLA"), (0, u "Ljdk/internal/access/JavaLangAccess;"), (11, u "LOG2_ARRAY_BOOLEAN_INDEX_SCALE"), (9, u "LOG2_ARRAY_BYTE_INDEX_SCALE"), (5, u "LOG2_ARRAY_CHAR_INDEX_SCALE"), (5, u "LOG2_ARRAY_SHORT_INDEX_SCALE"), (18, u "LOG2_ARRAY_FLOAT_INDEX_SCALE"), (24, u "LOG2_ARRAY_DOUBLE_INDEX_SCALE"), (89, u "T_BOOLEAN"), (2, u "T_CHAR"), (1, u "T_FLOAT"), (1, u "T_DOUBLE"), (1, u "T_BYTE"), (1, u "T_SHORT"), (1, u "T_INT"), (1, u "T_LONG"), (1, u "SOFT_MAX_ARRAY_LENGTH")] 83

def k22m0 : Method := { name := "<init>", desc := "()V", sig := { parameters := [], returnType := none }, accessFlags := 2, code := none }
/-- jdk/internal/util/ArraysSupport -/
def k22 : Class := { plain "jdk/internal/util/ArraysSupport" (some 0) with
  accessFlags := 33
  interfaces := #[]
  cf := some (fileOf pool22 21 #[] #[{ accessFlags := 2, nameIndex := 9, descriptorIndex := 19, attributes := #[] }] 33 16 #[] #[{ accessFlags := 24, nameIndex := 28, descriptorIndex := 29, attributes := #[] }, { accessFlags := 26, nameIndex := 38, descriptorIndex := 39, attributes := #[] }, { accessFlags := 25, nameIndex := 121, descriptorIndex := 25, attributes := #[] }, { accessFlags := 25, nameIndex := 131, descriptorIndex := 25, attributes := #[] }, { accessFlags := 25, nameIndex := 137, descriptorIndex := 25, attributes := #[] }, { accessFlags := 25, nameIndex := 143, descriptorIndex := 25, attributes := #[] }, { accessFlags := 25, nameIndex := 53, descriptorIndex := 25, attributes := #[] }, { accessFlags := 25, nameIndex := 24, descriptorIndex := 25, attributes := #[] }, { accessFlags := 25, nameIndex := 162, descriptorIndex := 25, attributes := #[] }, { accessFlags := 25, nameIndex := 187, descriptorIndex := 25, attributes := #[] }, { accessFlags := 26, nameIndex := 48, descriptorIndex := 25, attributes := #[] }, { accessFlags := 25, nameIndex := 277, descriptorIndex := 25, attributes := #[] }, { accessFlags := 25, nameIndex := 280, descriptorIndex := 25, attributes := #[] }, { accessFlags := 25, nameIndex := 282, descriptorIndex := 25, attributes := #[] }, { accessFlags := 25, nameIndex := 284, descriptorIndex := 25, attributes := #[] }, { accessFlags := 25, nameIndex := 286, descriptorIndex := 25, attributes := #[] }, { accessFlags := 25, nameIndex := 288, descriptorIndex := 25, attributes := #[] }, { accessFlags := 25, nameIndex := 290, descriptorIndex := 25, attributes := #[] }, { accessFlags := 25, nameIndex := 292, descriptorIndex := 25, attributes := #[] }, { accessFlags := 26, nameIndex := 108, descriptorIndex := 109, attributes := #[] }, { accessFlags := 25, nameIndex := 294, descriptorIndex := 25, attributes := #[] }])
  fields := #[{ name := "U", type := (.object "jdk/internal/misc/Unsafe"), accessFlags := 24, slot := 0, constantValue := 0 }, { name := "BIG_ENDIAN", type := .boolean, accessFlags := 26, slot := 1, constantValue := 0 }, { name := "LOG2_ARRAY_BOOLEAN_INDEX_SCALE", type := .int, accessFlags := 25, slot := 2, constantValue := 0 }, { name := "LOG2_ARRAY_BYTE_INDEX_SCALE", type := .int, accessFlags := 25, slot := 3, constantValue := 0 }, { name := "LOG2_ARRAY_CHAR_INDEX_SCALE", type := .int, accessFlags := 25, slot := 4, constantValue := 0 }, { name := "LOG2_ARRAY_SHORT_INDEX_SCALE", type := .int, accessFlags := 25, slot := 5, constantValue := 0 }, { name := "LOG2_ARRAY_INT_INDEX_SCALE", type := .int, accessFlags := 25, slot := 6, constantValue := 0 }, { name := "LOG2_ARRAY_LONG_INDEX_SCALE", type := .int, accessFlags := 25, slot := 7, constantValue := 0 }, { name := "LOG2_ARRAY_FLOAT_INDEX_SCALE", type := .int, accessFlags := 25, slot := 8, constantValue := 0 }, { name := "LOG2_ARRAY_DOUBLE_INDEX_SCALE", type := .int, accessFlags := 25, slot := 9, constantValue := 0 }, { name := "LOG2_BYTE_BIT_SIZE", type := .int, accessFlags := 26, slot := 10, constantValue := 0 }, { name := "T_BOOLEAN", type := .int, accessFlags := 25, slot := 11, constantValue := 0 }, { name := "T_CHAR", type := .int, accessFlags := 25, slot := 12, constantValue := 0 }, { name := "T_FLOAT", type := .int, accessFlags := 25, slot := 13, constantValue := 0 }, { name := "T_DOUBLE", type := .int, accessFlags := 25, slot := 14, constantValue := 0 }, { name := "T_BYTE", type := .int, accessFlags := 25, slot := 15, constantValue := 0 }, { name := "T_SHORT", type := .int, accessFlags := 25, slot := 16, constantValue := 0 }, { name := "T_INT", type := .int, accessFlags := 25, slot := 17, constantValue := 0 }, { name := "T_LONG", type := .int, accessFlags := 25, slot := 18, constantValue := 0 }, { name := "JLA", type := (.object "jdk/internal/access/JavaLangAccess"), accessFlags := 26, slot := 19, constantValue := 0 }, { name := "SOFT_MAX_ARRAY_LENGTH", type := .int, accessFlags := 25, slot := 20, constantValue := 0 }]
  methods := #[k22m0]
  instanceTypes := #[]
  staticTypes := #[(.object "jdk/internal/misc/Unsafe"), .boolean, .int, .int, .int, .int, .int, .int, .int, .int, .int, .int, .int, .int, .int, .int, .int, .int, .int, (.object "jdk/internal/access/JavaLangAccess"), .int]
  resolved := Array.replicate 378 none
  statics := none }

def pool23 : Array CpInfo := pool [(1, u "java/lang/Cloneable"), (0, .class_ 1), (0, u "java/lang/Object"), (0, .class_ 3)] 3

/-- java/lang/Cloneable -/
def k23 : Class := { plain "java/lang/Cloneable" (some 0) with
  accessFlags := 1537
  interfaces := #[]
  cf := some (fileOf pool23 2 #[] #[] 1537 4 #[] #[])
  fields := #[]
  methods := #[]
  instanceTypes := #[]
  staticTypes := #[]
  resolved := Array.replicate 8 none
  statics := none }

/-- the primitive byte -/
def k24 : Class := { plain "byte" none with kind := .primitive 'B', accessFlags := 0x411 }
/-- [B -/
def k25 : Class := { plain "[B" (some 0) with kind := .array 24 .byte, interfaces := #[23, 2], accessFlags := 1041 }

/-- the primitive char -/
def k26 : Class := { plain "char" none with kind := .primitive 'C', accessFlags := 0x411 }
/-- [C -/
def k27 : Class := { plain "[C" (some 0) with kind := .array 26 .char, interfaces := #[23, 2], accessFlags := 1041 }

/-- the primitive int -/
def k28 : Class := { plain "int" none with kind := .primitive 'I', accessFlags := 0x411 }
/-- [I -/
def k29 : Class := { plain "[I" (some 0) with kind := .array 28 .int, interfaces := #[23, 2], accessFlags := 1041 }

def classes0 : Array Class := #[k0, k1, k2, k3, k4, k5, k6, k7, k8, k9, k10, k11, k12, k13, k14, k15, k16, k17, k18, k19, k20, k21, k22, k23, k24, k25, k26, k27, k28, k29]
/-- the class that the rule has made for the site at 11 of com/example/despatch/despatch/messaging/MailboxQuery.of -/
def k30 : Class := Jvm.LamKit.madeRec { classes := classes0 } "com/example/despatch/despatch/messaging/MailboxQuery" (Jvm.Lambda.Shape.mk "java/util/function/Predicate" "test" (Jvm.ClassFile.MethodDescriptor.mk ([(Jvm.ClassFile.FieldType.object "java/lang/Object")] : List Jvm.ClassFile.FieldType) (Option.some Jvm.ClassFile.FieldType.boolean)) ([] : List Jvm.ClassFile.FieldType) (6 : Nat) "com/example/despatch/despatch/messaging/MailboxQuery" "lambda$of$0" (Jvm.ClassFile.MethodDescriptor.mk ([(Jvm.ClassFile.FieldType.object "java/lang/String")] : List Jvm.ClassFile.FieldType) (Option.some Jvm.ClassFile.FieldType.boolean)) false (Jvm.ClassFile.MethodDescriptor.mk ([(Jvm.ClassFile.FieldType.object "java/lang/String")] : List Jvm.ClassFile.FieldType) (Option.some Jvm.ClassFile.FieldType.boolean))) 30

def heap : Heap := #[{ cls := 7, slots := #[.long 0, .int 1, .null, .int 0, .null, .int 0, .int 0], vm := .statics 7 },
  { cls := 14, slots := #[.null, .long 0, .long 0, .ref 4, .ref 5, .long 0], vm := .statics 14 },
  { cls := 21, slots := #[.null, .null, .null], vm := .statics 21 },
  { cls := 30, slots := #[], vm := .none },
  { cls := 14, slots := #[.long (-31557014167219200), .int 0], vm := .none },
  { cls := 14, slots := #[.long 31556889864403199, .int 999999999], vm := .none }]
def classes : Array Class := #[k0, k1, k2, k3, k4, k5, k6, k7, k8, k9, k10, k11, k12, k13, k14, k15, k16, k17, k18, k19, k20, k21, k22, k23, k24, k25, k26, k27, k28, k29, k30]
def interned : List (Array UInt16 × Addr) := []
def slotsUsed : Nat := 20
def theMethod : MethodId := ⟨1, 2⟩
def args0 : Array Value := #[.int 65, .int 1]
def aboutOver (below : List Frame) : State where
  vm := { classes := classes, interned := interned.toArray }
  heap := heap
  slotsUsed := slotsUsed
  threads := #[{ frames := .invoking theMethod args0 :: below }]
def below0 : List Frame := [.native { method := ⟨0, 0⟩, args := #[] }]
def about1 : State := aboutOver below0
def p0 : Program := .bare "" "" ""
def e0 : Env := launch0.env 0 0 0
theorem w_frames : about1.frames = Frame.invoking theMethod args0 :: below0 := rfl
set_option maxRecDepth 65536 in
theorem w_args : argsFit about1.vm theMethod args0 = true := by decide +kernel
set_option maxRecDepth 65536 in
theorem w_heap : heapFits about1 = true := by decide +kernel
set_option maxRecDepth 65536 in
theorem w_runnable : about1.curStatus? = some .runnable := by decide +kernel
set_option maxRecDepth 65536 in
theorem w_alone : about1.alone = true := by decide +kernel
set_option maxRecDepth 65536 in
theorem w_named : about1.methodNamed? x = some theMethod := by decide +kernel
set_option maxRecDepth 65536 in
theorem w_hears : about1.hears theMethod below0 = true := by decide +kernel
set_option maxRecDepth 65536 in
theorem w_ripe : about1.ripe theMethod args0 below0 = true := by decide +kernel
theorem w_running : about1.status = .running := rfl
set_option maxRecDepth 65536 in
theorem w_room : about1.hasRoom e0.platform room_1 = true :=
  launch0.hasRoom_least _ room_1 (by decide +kernel) (by decide +kernel) (by decide +kernel) (by decide +kernel) (by decide +kernel) (by decide +kernel)
theorem allAtoms_all (ts : List Jvm.Cond) (a : Array Jvm.Value) (st : Jvm.State) : (allAtoms ts).before a st = ts.all (fun c => c.before a st) := by
  induction ts with
  | nil => rfl
  | cons c t ih =>
    show (Jvm.Cond.and c (allAtoms t)).before a st = _
    rw [Jvm.Cond.before_and, ih, List.all_cons]
def words1 : List Jvm.Cond := Jvm.Cond.code x code maxLocals ret :: tables_1
/-- a 'code' word, met by the world's own term for the bytes: nothing is compared byte by byte -/
theorem code_word {y : MethodName} {bytes : ByteArray} {mx : Nat} {rt : Option FieldType} {a : Array Value} {s : State} {m : MethodId} {meth : Method} {c : Code} (h1 : s.methodNamed? y = some m) (h2 : s.vm.method? m = some meth) (h3 : meth.code = some c) (h4 : c.code = bytes)
    (h5 : (c.maxLocals == mx && c.exceptionTable.isEmpty && decide (c.maxStack ≤ mostOperands) && decide (meth.sig.returnType = rt) && !meth.locks && decide (parseMethodDescriptor y.desc = some meth.sig)) = true) : (Jvm.Cond.code y bytes mx rt).before a s = true := by
  simp only [Bool.and_eq_true, beq_iff_eq, Bool.not_eq_true', decide_eq_true_eq] at h5
  obtain ⟨⟨⟨⟨⟨g1, g2⟩, g3⟩, g4⟩, g5⟩, g6⟩ := h5
  simp [Cond.before, Cond.holds, Cond.value, h1, h2, h3, h4, g1, g2, g3, g4, g5, g6]
def isCode : Jvm.Cond → Bool
  | .code _ _ _ _ => true
  | _ => false
theorem all_split {L : List Jvm.Cond} {P : Jvm.Cond → Bool} (h1 : L.all (fun c => isCode c || P c) = true) (h2 : ∀ c ∈ L.filter isCode, P c = true) : L.all P = true := by
  refine List.all_eq_true.mpr fun c hc => ?_
  have h := List.all_eq_true.mp h1 c hc
  rcases Bool.eq_false_or_eq_true (isCode c) with hi | hi
  · exact h2 c (List.mem_filter.mpr ⟨hc, hi⟩)
  · simpa [hi] using h
set_option maxRecDepth 65536 in
theorem w_c0 : (Jvm.Cond.code x code maxLocals ret).before args0 about1 = true := code_word (m := ⟨1, 2⟩) (meth := k1m2) (c := k1c2) (by decide +kernel) rfl rfl rfl (by decide +kernel)
set_option maxRecDepth 65536 in
theorem w_c1 : (Jvm.Cond.code ({ cls := "com/example/despatch/despatch/messaging/MailboxQueryOfPinLaw", name := "draw", desc := "(II)Ljava/lang/String;" } : Jvm.MethodName) method_2_code (6 : Nat) (Option.some (Jvm.ClassFile.FieldType.object "java/lang/String"))).before args0 about1 = true := code_word (m := ⟨1, 1⟩) (meth := k1m1) (c := k1c1) (by decide +kernel) rfl rfl rfl (by decide +kernel)
set_option maxRecDepth 65536 in
theorem w_c2 : (Jvm.Cond.code ({ cls := "java/lang/String", name := "<init>", desc := "([C)V" } : Jvm.MethodName) jdk_42_method_3_code (2 : Nat) (Option.none : Option Jvm.ClassFile.FieldType)).before args0 about1 = true := code_word (m := ⟨7, 1⟩) (meth := k7m1) (c := k7c1) (by decide +kernel) rfl rfl rfl (by decide +kernel)
set_option maxRecDepth 65536 in
theorem w_c3 : (Jvm.Cond.code ({ cls := "java/lang/String", name := "<init>", desc := "([CIILjava/lang/Void;)V" } : Jvm.MethodName) jdk_42_method_149_code (6 : Nat) (Option.none : Option Jvm.ClassFile.FieldType)).before args0 about1 = true := code_word (m := ⟨7, 4⟩) (meth := k7m4) (c := k7c4) (by decide +kernel) rfl rfl rfl (by decide +kernel)
set_option maxRecDepth 65536 in
theorem w_c4 : (Jvm.Cond.code ({ cls := "java/lang/Object", name := "<init>", desc := "()V" } : Jvm.MethodName) object_method_1_code (1 : Nat) (Option.none : Option Jvm.ClassFile.FieldType)).before args0 about1 = true := code_word (m := ⟨0, 0⟩) (meth := k0m0) (c := k0c0) (by decide +kernel) rfl rfl rfl (by decide +kernel)
set_option maxRecDepth 65536 in
theorem w_c5 : (Jvm.Cond.code ({ cls := "java/lang/StringUTF16", name := "compress", desc := "([CII)[B" } : Jvm.MethodName) jdk_52_method_16_code (6 : Nat) (Option.some (Jvm.ClassFile.FieldType.array Jvm.ClassFile.FieldType.byte))).before args0 about1 = true := code_word (m := ⟨8, 2⟩) (meth := k8m2) (c := k8c2) (by decide +kernel) rfl rfl rfl (by decide +kernel)
set_option maxRecDepth 65536 in
theorem w_c6 : (Jvm.Cond.code ({ cls := "java/lang/StringUTF16", name := "compress", desc := "([CI[BII)I" } : Jvm.MethodName) jdk_52_method_21_code (7 : Nat) (Option.some Jvm.ClassFile.FieldType.int)).before args0 about1 = true := code_word (m := ⟨8, 3⟩) (meth := k8m3) (c := k8c3) (by decide +kernel) rfl rfl rfl (by decide +kernel)
set_option maxRecDepth 65536 in
theorem w_c7 : (Jvm.Cond.code ({ cls := "java/lang/StringUTF16", name := "coderFromArrayLen", desc := "([BI)B" } : Jvm.MethodName) jdk_52_method_15_code (2 : Nat) (Option.some Jvm.ClassFile.FieldType.byte)).before args0 about1 = true := code_word (m := ⟨8, 1⟩) (meth := k8m1) (c := k8c1) (by decide +kernel) rfl rfl rfl (by decide +kernel)
set_option maxRecDepth 65536 in
theorem w_c8 : (Jvm.Cond.code ({ cls := "com/example/despatch/despatch/messaging/MailboxQuery", name := "of", desc := "(Ljava/lang/String;)Lcom/example/despatch/despatch/messaging/MailboxQuery;" } : Jvm.MethodName) prog_16_method_2_code (1 : Nat) (Option.some (Jvm.ClassFile.FieldType.object "com/example/despatch/despatch/messaging/MailboxQuery"))).before args0 about1 = true := code_word (m := ⟨10, 1⟩) (meth := k10m1) (c := k10c1) (by decide +kernel) rfl rfl rfl (by decide +kernel)
set_option maxRecDepth 65536 in
theorem w_c9 : (Jvm.Cond.code ({ cls := "com/example/despatch/despatch/messaging/MailboxQuery", name := "<init>", desc := "(Ljava/lang/String;Ljava/time/Instant;Ljava/time/Instant;Ljava/util/function/Predicate;II)V" } : Jvm.MethodName) prog_16_method_1_code (7 : Nat) (Option.none : Option Jvm.ClassFile.FieldType)).before args0 about1 = true := code_word (m := ⟨10, 0⟩) (meth := k10m0) (c := k10c0) (by decide +kernel) rfl rfl rfl (by decide +kernel)
set_option maxRecDepth 65536 in
theorem w_c10 : (Jvm.Cond.code ({ cls := "java/lang/Record", name := "<init>", desc := "()V" } : Jvm.MethodName) jdk_30_method_1_code (1 : Nat) (Option.none : Option Jvm.ClassFile.FieldType)).before args0 about1 = true := code_word (m := ⟨9, 0⟩) (meth := k9m0) (c := k9c0) (by decide +kernel) rfl rfl rfl (by decide +kernel)
set_option maxRecDepth 65536 in
theorem w_c11 : (Jvm.Cond.code ({ cls := "java/util/Objects", name := "requireNonNull", desc := "(Ljava/lang/Object;Ljava/lang/String;)Ljava/lang/Object;" } : Jvm.MethodName) jdk_31_method_11_code (2 : Nat) (Option.some (Jvm.ClassFile.FieldType.object "java/lang/Object"))).before args0 about1 = true := code_word (m := ⟨16, 1⟩) (meth := k16m1) (c := k16c1) (by decide +kernel) rfl rfl rfl (by decide +kernel)
set_option maxRecDepth 65536 in
theorem w_c12 : (Jvm.Cond.code ({ cls := "java/lang/Math", name := "min", desc := "(II)I" } : Jvm.MethodName) jdk_29_method_69_code (2 : Nat) (Option.some Jvm.ClassFile.FieldType.int)).before args0 about1 = true := code_word (m := ⟨17, 1⟩) (meth := k17m1) (c := k17c1) (by decide +kernel) rfl rfl rfl (by decide +kernel)
set_option maxRecDepth 65536 in
theorem w_c13 : (Jvm.Cond.code ({ cls := "com/example/despatch/despatch/messaging/MailboxQuery", name := "destination", desc := "()Ljava/lang/String;" } : Jvm.MethodName) prog_16_method_12_code (1 : Nat) (Option.some (Jvm.ClassFile.FieldType.object "java/lang/String"))).before args0 about1 = true := code_word (m := ⟨10, 4⟩) (meth := k10m4) (c := k10c4) (by decide +kernel) rfl rfl rfl (by decide +kernel)
set_option maxRecDepth 65536 in
theorem w_c14 : (Jvm.Cond.code ({ cls := "java/lang/String", name := "equals", desc := "(Ljava/lang/Object;)Z" } : Jvm.MethodName) jdk_42_method_66_code (3 : Nat) (Option.some Jvm.ClassFile.FieldType.boolean)).before args0 about1 = true := code_word (m := ⟨7, 2⟩) (meth := k7m2) (c := k7c2) (by decide +kernel) rfl rfl rfl (by decide +kernel)
set_option maxRecDepth 65536 in
theorem w_c15 : (Jvm.Cond.code ({ cls := "com/example/despatch/despatch/messaging/MailboxQuery", name := "offset", desc := "()I" } : Jvm.MethodName) prog_16_method_16_code (1 : Nat) (Option.some Jvm.ClassFile.FieldType.int)).before args0 about1 = true := code_word (m := ⟨10, 7⟩) (meth := k10m7) (c := k10c7) (by decide +kernel) rfl rfl rfl (by decide +kernel)
set_option maxRecDepth 65536 in
theorem w_c16 : (Jvm.Cond.code ({ cls := "com/example/despatch/despatch/messaging/MailboxQuery", name := "count", desc := "()I" } : Jvm.MethodName) prog_16_method_17_code (1 : Nat) (Option.some Jvm.ClassFile.FieldType.int)).before args0 about1 = true := code_word (m := ⟨10, 8⟩) (meth := k10m8) (c := k10c8) (by decide +kernel) rfl rfl rfl (by decide +kernel)
set_option maxRecDepth 65536 in
theorem w_c17 : (Jvm.Cond.code ({ cls := "com/example/despatch/despatch/messaging/MailboxQuery", name := "from", desc := "()Ljava/time/Instant;" } : Jvm.MethodName) prog_16_method_13_code (1 : Nat) (Option.some (Jvm.ClassFile.FieldType.object "java/time/Instant"))).before args0 about1 = true := code_word (m := ⟨10, 5⟩) (meth := k10m5) (c := k10c5) (by decide +kernel) rfl rfl rfl (by decide +kernel)
set_option maxRecDepth 65536 in
theorem w_c18 : (Jvm.Cond.code ({ cls := "com/example/despatch/despatch/messaging/MailboxQuery", name := "before", desc := "()Ljava/time/Instant;" } : Jvm.MethodName) prog_16_method_14_code (1 : Nat) (Option.some (Jvm.ClassFile.FieldType.object "java/time/Instant"))).before args0 about1 = true := code_word (m := ⟨10, 6⟩) (meth := k10m6) (c := k10c6) (by decide +kernel) rfl rfl rfl (by decide +kernel)
set_option maxRecDepth 65536 in
theorem w_c19 : (Jvm.Cond.code ({ cls := "com/example/despatch/despatch/messaging/MailboxQuery", name := "keptFrom", desc := "(Ljava/time/Instant;)Lcom/example/despatch/despatch/messaging/MailboxQuery;" } : Jvm.MethodName) prog_16_method_3_code (3 : Nat) (Option.some (Jvm.ClassFile.FieldType.object "com/example/despatch/despatch/messaging/MailboxQuery"))).before args0 about1 = true := code_word (m := ⟨10, 2⟩) (meth := k10m2) (c := k10c2) (by decide +kernel) rfl rfl rfl (by decide +kernel)
set_option maxRecDepth 65536 in
theorem w_c20 : (Jvm.Cond.code ({ cls := "java/time/Instant", name := "isAfter", desc := "(Ljava/time/Instant;)Z" } : Jvm.MethodName) jdk_2320_method_42_code (2 : Nat) (Option.some Jvm.ClassFile.FieldType.boolean)).before args0 about1 = true := code_word (m := ⟨14, 1⟩) (meth := k14m1) (c := k14c1) (by decide +kernel) rfl rfl rfl (by decide +kernel)
set_option maxRecDepth 65536 in
theorem w_c21 : (Jvm.Cond.code ({ cls := "java/time/Instant", name := "compareTo", desc := "(Ljava/time/Instant;)I" } : Jvm.MethodName) jdk_2320_method_41_code (3 : Nat) (Option.some Jvm.ClassFile.FieldType.int)).before args0 about1 = true := code_word (m := ⟨14, 0⟩) (meth := k14m0) (c := k14c0) (by decide +kernel) rfl rfl rfl (by decide +kernel)
set_option maxRecDepth 65536 in
theorem w_c22 : (Jvm.Cond.code ({ cls := "java/lang/Long", name := "compare", desc := "(JJ)I" } : Jvm.MethodName) jdk_35_method_42_code (4 : Nat) (Option.some Jvm.ClassFile.FieldType.int)).before args0 about1 = true := code_word (m := ⟨19, 0⟩) (meth := k19m0) (c := k19c0) (by decide +kernel) rfl rfl rfl (by decide +kernel)
set_option maxRecDepth 65536 in
theorem w_c23 : (Jvm.Cond.code ({ cls := "com/example/despatch/despatch/messaging/MailboxQuery", name := "keptBefore", desc := "(Ljava/time/Instant;)Lcom/example/despatch/despatch/messaging/MailboxQuery;" } : Jvm.MethodName) prog_16_method_4_code (3 : Nat) (Option.some (Jvm.ClassFile.FieldType.object "com/example/despatch/despatch/messaging/MailboxQuery"))).before args0 about1 = true := code_word (m := ⟨10, 3⟩) (meth := k10m3) (c := k10c3) (by decide +kernel) rfl rfl rfl (by decide +kernel)
set_option maxRecDepth 65536 in
theorem w_c24 : (Jvm.Cond.code ({ cls := "java/time/Instant", name := "isBefore", desc := "(Ljava/time/Instant;)Z" } : Jvm.MethodName) jdk_2320_method_43_code (2 : Nat) (Option.some Jvm.ClassFile.FieldType.boolean)).before args0 about1 = true := code_word (m := ⟨14, 2⟩) (meth := k14m2) (c := k14c2) (by decide +kernel) rfl rfl rfl (by decide +kernel)
set_option maxRecDepth 65536 in
theorem w_c25 : (Jvm.Cond.code ({ cls := "java/lang/String", name := "valueOf", desc := "(C)Ljava/lang/String;" } : Jvm.MethodName) jdk_42_method_139_code (1 : Nat) (Option.some (Jvm.ClassFile.FieldType.object "java/lang/String"))).before args0 about1 = true := code_word (m := ⟨7, 3⟩) (meth := k7m3) (c := k7c3) (by decide +kernel) rfl rfl rfl (by decide +kernel)
set_option maxRecDepth 65536 in
theorem w_c26 : (Jvm.Cond.code ({ cls := "java/lang/StringLatin1", name := "canEncode", desc := "(C)Z" } : Jvm.MethodName) jdk_43_method_3_code (1 : Nat) (Option.some Jvm.ClassFile.FieldType.boolean)).before args0 about1 = true := code_word (m := ⟨20, 1⟩) (meth := k20m1) (c := k20c1) (by decide +kernel) rfl rfl rfl (by decide +kernel)
set_option maxRecDepth 65536 in
theorem w_c27 : (Jvm.Cond.code ({ cls := "java/lang/StringLatin1", name := "toBytes", desc := "(C)[B" } : Jvm.MethodName) jdk_43_method_46_code (1 : Nat) (Option.some (Jvm.ClassFile.FieldType.array Jvm.ClassFile.FieldType.byte))).before args0 about1 = true := code_word (m := ⟨20, 2⟩) (meth := k20m2) (c := k20c2) (by decide +kernel) rfl rfl rfl (by decide +kernel)
set_option maxRecDepth 65536 in
theorem w_c28 : (Jvm.Cond.code ({ cls := "java/lang/String", name := "<init>", desc := "([BB)V" } : Jvm.MethodName) jdk_42_method_151_code (3 : Nat) (Option.none : Option Jvm.ClassFile.FieldType)).before args0 about1 = true := code_word (m := ⟨7, 5⟩) (meth := k7m5) (c := k7c5) (by decide +kernel) rfl rfl rfl (by decide +kernel)
def codes1 : List Jvm.Cond := [Jvm.Cond.code x code maxLocals ret, Jvm.Cond.code ({ cls := "com/example/despatch/despatch/messaging/MailboxQueryOfPinLaw", name := "draw", desc := "(II)Ljava/lang/String;" } : Jvm.MethodName) method_2_code (6 : Nat) (Option.some (Jvm.ClassFile.FieldType.object "java/lang/String")), Jvm.Cond.code ({ cls := "java/lang/String", name := "<init>", desc := "([C)V" } : Jvm.MethodName) jdk_42_method_3_code (2 : Nat) (Option.none : Option Jvm.ClassFile.FieldType), Jvm.Cond.code ({ cls := "java/lang/String", name := "<init>", desc := "([CIILjava/lang/Void;)V" } : Jvm.MethodName) jdk_42_method_149_code (6 : Nat) (Option.none : Option Jvm.ClassFile.FieldType), Jvm.Cond.code ({ cls := "java/lang/Object", name := "<init>", desc := "()V" } : Jvm.MethodName) object_method_1_code (1 : Nat) (Option.none : Option Jvm.ClassFile.FieldType), Jvm.Cond.code ({ cls := "java/lang/StringUTF16", name := "compress", desc := "([CII)[B" } : Jvm.MethodName) jdk_52_method_16_code (6 : Nat) (Option.some (Jvm.ClassFile.FieldType.array Jvm.ClassFile.FieldType.byte)), Jvm.Cond.code ({ cls := "java/lang/StringUTF16", name := "compress", desc := "([CI[BII)I" } : Jvm.MethodName) jdk_52_method_21_code (7 : Nat) (Option.some Jvm.ClassFile.FieldType.int), Jvm.Cond.code ({ cls := "java/lang/StringUTF16", name := "coderFromArrayLen", desc := "([BI)B" } : Jvm.MethodName) jdk_52_method_15_code (2 : Nat) (Option.some Jvm.ClassFile.FieldType.byte), Jvm.Cond.code ({ cls := "com/example/despatch/despatch/messaging/MailboxQuery", name := "of", desc := "(Ljava/lang/String;)Lcom/example/despatch/despatch/messaging/MailboxQuery;" } : Jvm.MethodName) prog_16_method_2_code (1 : Nat) (Option.some (Jvm.ClassFile.FieldType.object "com/example/despatch/despatch/messaging/MailboxQuery")), Jvm.Cond.code ({ cls := "com/example/despatch/despatch/messaging/MailboxQuery", name := "<init>", desc := "(Ljava/lang/String;Ljava/time/Instant;Ljava/time/Instant;Ljava/util/function/Predicate;II)V" } : Jvm.MethodName) prog_16_method_1_code (7 : Nat) (Option.none : Option Jvm.ClassFile.FieldType), Jvm.Cond.code ({ cls := "java/lang/Record", name := "<init>", desc := "()V" } : Jvm.MethodName) jdk_30_method_1_code (1 : Nat) (Option.none : Option Jvm.ClassFile.FieldType), Jvm.Cond.code ({ cls := "java/util/Objects", name := "requireNonNull", desc := "(Ljava/lang/Object;Ljava/lang/String;)Ljava/lang/Object;" } : Jvm.MethodName) jdk_31_method_11_code (2 : Nat) (Option.some (Jvm.ClassFile.FieldType.object "java/lang/Object")), Jvm.Cond.code ({ cls := "java/lang/Math", name := "min", desc := "(II)I" } : Jvm.MethodName) jdk_29_method_69_code (2 : Nat) (Option.some Jvm.ClassFile.FieldType.int), Jvm.Cond.code ({ cls := "com/example/despatch/despatch/messaging/MailboxQuery", name := "destination", desc := "()Ljava/lang/String;" } : Jvm.MethodName) prog_16_method_12_code (1 : Nat) (Option.some (Jvm.ClassFile.FieldType.object "java/lang/String")), Jvm.Cond.code ({ cls := "java/lang/String", name := "equals", desc := "(Ljava/lang/Object;)Z" } : Jvm.MethodName) jdk_42_method_66_code (3 : Nat) (Option.some Jvm.ClassFile.FieldType.boolean), Jvm.Cond.code ({ cls := "com/example/despatch/despatch/messaging/MailboxQuery", name := "offset", desc := "()I" } : Jvm.MethodName) prog_16_method_16_code (1 : Nat) (Option.some Jvm.ClassFile.FieldType.int), Jvm.Cond.code ({ cls := "com/example/despatch/despatch/messaging/MailboxQuery", name := "count", desc := "()I" } : Jvm.MethodName) prog_16_method_17_code (1 : Nat) (Option.some Jvm.ClassFile.FieldType.int), Jvm.Cond.code ({ cls := "com/example/despatch/despatch/messaging/MailboxQuery", name := "from", desc := "()Ljava/time/Instant;" } : Jvm.MethodName) prog_16_method_13_code (1 : Nat) (Option.some (Jvm.ClassFile.FieldType.object "java/time/Instant")), Jvm.Cond.code ({ cls := "com/example/despatch/despatch/messaging/MailboxQuery", name := "before", desc := "()Ljava/time/Instant;" } : Jvm.MethodName) prog_16_method_14_code (1 : Nat) (Option.some (Jvm.ClassFile.FieldType.object "java/time/Instant")), Jvm.Cond.code ({ cls := "com/example/despatch/despatch/messaging/MailboxQuery", name := "keptFrom", desc := "(Ljava/time/Instant;)Lcom/example/despatch/despatch/messaging/MailboxQuery;" } : Jvm.MethodName) prog_16_method_3_code (3 : Nat) (Option.some (Jvm.ClassFile.FieldType.object "com/example/despatch/despatch/messaging/MailboxQuery")), Jvm.Cond.code ({ cls := "java/time/Instant", name := "isAfter", desc := "(Ljava/time/Instant;)Z" } : Jvm.MethodName) jdk_2320_method_42_code (2 : Nat) (Option.some Jvm.ClassFile.FieldType.boolean), Jvm.Cond.code ({ cls := "java/time/Instant", name := "compareTo", desc := "(Ljava/time/Instant;)I" } : Jvm.MethodName) jdk_2320_method_41_code (3 : Nat) (Option.some Jvm.ClassFile.FieldType.int), Jvm.Cond.code ({ cls := "java/lang/Long", name := "compare", desc := "(JJ)I" } : Jvm.MethodName) jdk_35_method_42_code (4 : Nat) (Option.some Jvm.ClassFile.FieldType.int), Jvm.Cond.code ({ cls := "com/example/despatch/despatch/messaging/MailboxQuery", name := "keptBefore", desc := "(Ljava/time/Instant;)Lcom/example/despatch/despatch/messaging/MailboxQuery;" } : Jvm.MethodName) prog_16_method_4_code (3 : Nat) (Option.some (Jvm.ClassFile.FieldType.object "com/example/despatch/despatch/messaging/MailboxQuery")), Jvm.Cond.code ({ cls := "java/time/Instant", name := "isBefore", desc := "(Ljava/time/Instant;)Z" } : Jvm.MethodName) jdk_2320_method_43_code (2 : Nat) (Option.some Jvm.ClassFile.FieldType.boolean), Jvm.Cond.code ({ cls := "java/lang/String", name := "valueOf", desc := "(C)Ljava/lang/String;" } : Jvm.MethodName) jdk_42_method_139_code (1 : Nat) (Option.some (Jvm.ClassFile.FieldType.object "java/lang/String")), Jvm.Cond.code ({ cls := "java/lang/StringLatin1", name := "canEncode", desc := "(C)Z" } : Jvm.MethodName) jdk_43_method_3_code (1 : Nat) (Option.some Jvm.ClassFile.FieldType.boolean), Jvm.Cond.code ({ cls := "java/lang/StringLatin1", name := "toBytes", desc := "(C)[B" } : Jvm.MethodName) jdk_43_method_46_code (1 : Nat) (Option.some (Jvm.ClassFile.FieldType.array Jvm.ClassFile.FieldType.byte)), Jvm.Cond.code ({ cls := "java/lang/String", name := "<init>", desc := "([BB)V" } : Jvm.MethodName) jdk_42_method_151_code (3 : Nat) (Option.none : Option Jvm.ClassFile.FieldType)]
set_option maxRecDepth 65536 in
theorem codes_eq : words1.filter isCode = codes1 := rfl
theorem w_codes : ∀ c ∈ words1.filter isCode, c.before args0 about1 = true := by
  rw [codes_eq]
  intro c hc
  simp only [codes1, List.mem_cons, List.not_mem_nil, or_false] at hc
  rcases hc with rfl | rfl | rfl | rfl | rfl | rfl | rfl | rfl | rfl | rfl | rfl | rfl | rfl | rfl | rfl | rfl | rfl | rfl | rfl | rfl | rfl | rfl | rfl | rfl | rfl | rfl | rfl | rfl | rfl
  · exact w_c0
  · exact w_c1
  · exact w_c2
  · exact w_c3
  · exact w_c4
  · exact w_c5
  · exact w_c6
  · exact w_c7
  · exact w_c8
  · exact w_c9
  · exact w_c10
  · exact w_c11
  · exact w_c12
  · exact w_c13
  · exact w_c14
  · exact w_c15
  · exact w_c16
  · exact w_c17
  · exact w_c18
  · exact w_c19
  · exact w_c20
  · exact w_c21
  · exact w_c22
  · exact w_c23
  · exact w_c24
  · exact w_c25
  · exact w_c26
  · exact w_c27
  · exact w_c28
set_option maxRecDepth 65536 in
theorem w_t1 : (words1.take 24).all (fun c => isCode c || c.before args0 about1) = true := by decide +kernel
set_option maxRecDepth 65536 in
theorem w_t2 : ((words1.drop 24).take 24).all (fun c => isCode c || c.before args0 about1) = true := by decide +kernel
set_option maxRecDepth 65536 in
theorem w_t3 : (((words1.drop 24).drop 24).take 24).all (fun c => isCode c || c.before args0 about1) = true := by decide +kernel
set_option maxRecDepth 65536 in
theorem w_t4 : ((((words1.drop 24).drop 24).drop 24).take 24).all (fun c => isCode c || c.before args0 about1) = true := by decide +kernel
set_option maxRecDepth 65536 in
theorem w_t5 : (((((words1.drop 24).drop 24).drop 24).drop 24).take 24).all (fun c => isCode c || c.before args0 about1) = true := by decide +kernel
set_option maxRecDepth 65536 in
theorem w_t6 : ((((((words1.drop 24).drop 24).drop 24).drop 24).drop 24).take 24).all (fun c => isCode c || c.before args0 about1) = true := by decide +kernel
set_option maxRecDepth 65536 in
theorem w_t7 : ((((((words1.drop 24).drop 24).drop 24).drop 24).drop 24).drop 24).all (fun c => isCode c || c.before args0 about1) = true := by decide +kernel
theorem w_tables : (allAtoms (Jvm.Cond.code x code maxLocals ret :: tables_1)).before args0 about1 = true := by
  rw [allAtoms_all]
  show words1.all (fun c => c.before args0 about1) = true
  refine all_split ?_ w_codes
  rw [← List.take_append_drop 24 words1, List.all_append, w_t1, ← List.take_append_drop 24 (words1.drop 24), List.all_append, w_t2, ← List.take_append_drop 24 ((words1.drop 24).drop 24), List.all_append, w_t3, ← List.take_append_drop 24 (((words1.drop 24).drop 24).drop 24), List.all_append, w_t4, ← List.take_append_drop 24 ((((words1.drop 24).drop 24).drop 24).drop 24), List.all_append, w_t5, ← List.take_append_drop 24 (((((words1.drop 24).drop 24).drop 24).drop 24).drop 24), List.all_append, w_t6, w_t7]
  rfl
set_option maxRecDepth 65536 in
theorem w_rest : rest_1_c.before args0 about1 = true := by decide +kernel
set_option maxRecDepth 65536 in
theorem w_case : (Jvm.Cond.and given_1 narrow_1).before args0 about1 = true := by decide +kernel
set_option maxRecDepth 65536 in
theorem w_consts : constsHeld consts_1 about1 := Jvm.Lit.constsHeldB_iff.mp (by decide +kernel)
theorem w_applies : (headSpec (Jvm.Cond.code x code maxLocals ret :: tables_1) room_1).applies x e0.platform about1 = true :=
  (Spec.applies_iff w_frames).mpr ⟨w_running, w_runnable, w_alone, w_named, w_hears, w_ripe, w_room, w_tables⟩
theorem atStart : AtStart classFile x code maxLocals ret World_1 tables_1 room_1 Calls_1 rest_1 Pre_1 launch0 p0 e0 about1 theMethod args0 below0 :=
  ⟨lists_1, trivial, launch0.admits_env _ _ _, launch0.least_env, fairChoices_fair.cas, fairChoices_fair.clock, w_frames, w_args, w_heap, w_applies, ⟨w_consts, trivial⟩, w_rest, w_case⟩
end start1
theorem witness_1 : WitnessClaimed_1 := ⟨start1.p0, start1.e0, start1.about1, start1.theMethod, start1.args0, start1.below0, start1.atStart⟩
end Jvm.Pilot.@@N@@
