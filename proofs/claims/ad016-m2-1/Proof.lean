import JvmDerived
import JvmDerived.Pilot.@@N@@Statement
import JvmDerived.Pilot.@@N@@Code
set_option linter.unusedVariables false
set_option linter.unusedSimpArgs false
namespace Jvm.Pilot.@@N@@
open Jvm Jvm.ClassFile Sem Op Lib Jvm.Free Jvm.Stand Jvm.LawKit Jvm.RoadKit Bundle Jvm.Pilot.@@N@@.Jvm.D
section OwnBase
def Gets (tb : Tables) (e : Env) (below : List Frame) (P : Outcome → State → Prop) (T : State) (g : JFrame) : Prop := ∃ t o, Steps tb e below (T.setTop g) t ∧ t.status = .running ∧ Ended t below o ∧ P o t
theorem Gets.by {tb : Tables} {e : Env} {below : List Frame} {P : Outcome → State → Prop} {T T' : State} {g g' : JFrame} (h : Gets tb e below P T' g') (k : ∀ t, Steps tb e below (T'.setTop g') t → Steps tb e below (T.setTop g) t) : Gets tb e below P T g := by
  obtain ⟨t, o, h1, h2⟩ := h
  exact ⟨t, o, k t h1, h2⟩
theorem g_iloadN {tb : Tables} [Ours tb] {e : Env} {below : List Frame} {T : State} {m : MethodId} {c : Code} {P : Outcome → State → Prop} {pc pc' : Nat} {Ls : Array Slot} {st : List Value} {j : Fin 4} {v : Int32} (H : At T m c below) (hx : tb.exec = Jvm.exec) (hd : decode c.code pc = .ok (.iload_n j, 1)) (hl : Ls[j.val]? = some (.val (.int v))) (hp : pc + 1 = pc')
    (k : Gets tb e below P T (mkF m pc' Ls (.int v :: st))) : Gets tb e below P T (mkF m pc Ls (st)) := by
  subst hp; refine k.by fun t qq => ?_; exact XS.iloadN H hx rfl hd hl qq
theorem g_iload {tb : Tables} [Ours tb] {e : Env} {below : List Frame} {T : State} {m : MethodId} {c : Code} {P : Outcome → State → Prop} {pc pc' : Nat} {Ls : Array Slot} {st : List Value} {j : Nat} {v : Int32} (H : At T m c below) (hx : tb.exec = Jvm.exec) (hd : decode c.code pc = .ok (.iload j, 2)) (hl : Ls[j]? = some (.val (.int v))) (hp : pc + 2 = pc')
    (k : Gets tb e below P T (mkF m pc' Ls (.int v :: st))) : Gets tb e below P T (mkF m pc Ls (st)) := by
  subst hp; refine k.by fun t qq => ?_; exact XS.iload H hx rfl hd hl qq
theorem g_istoreN {tb : Tables} [Ours tb] {e : Env} {below : List Frame} {T : State} {m : MethodId} {c : Code} {P : Outcome → State → Prop} {pc pc' : Nat} {Ls : Array Slot} {st : List Value} {j : Fin 4} {v : Int32} {Ls' : Array Slot} (H : At T m c below) (hx : tb.exec = Jvm.exec) (hd : decode c.code pc = .ok (.istore_n j, 1)) (hl : storeLocals Ls j.val (.int v) = some Ls') (hp : pc + 1 = pc')
    (k : Gets tb e below P T (mkF m pc' Ls' (st))) : Gets tb e below P T (mkF m pc Ls (.int v :: st)) := by
  subst hp; refine k.by fun t qq => ?_; exact XS.istoreN H hx rfl hd rfl hl qq
theorem g_istore {tb : Tables} [Ours tb] {e : Env} {below : List Frame} {T : State} {m : MethodId} {c : Code} {P : Outcome → State → Prop} {pc pc' : Nat} {Ls : Array Slot} {st : List Value} {j : Nat} {v : Int32} {Ls' : Array Slot} (H : At T m c below) (hx : tb.exec = Jvm.exec) (hd : decode c.code pc = .ok (.istore j, 2)) (hl : storeLocals Ls j (.int v) = some Ls') (hp : pc + 2 = pc')
    (k : Gets tb e below P T (mkF m pc' Ls' (st))) : Gets tb e below P T (mkF m pc Ls (.int v :: st)) := by
  subst hp; refine k.by fun t qq => ?_; exact XS.istore H hx rfl hd rfl hl qq
theorem g_lloadN {tb : Tables} [Ours tb] {e : Env} {below : List Frame} {T : State} {m : MethodId} {c : Code} {P : Outcome → State → Prop} {pc pc' : Nat} {Ls : Array Slot} {st : List Value} {j : Fin 4} {v : Int64} (H : At T m c below) (hx : tb.exec = Jvm.exec) (hd : decode c.code pc = .ok (.lload_n j, 1)) (hl : Ls[j.val]? = some (.val (.long v))) (hp : pc + 1 = pc')
    (k : Gets tb e below P T (mkF m pc' Ls (.long v :: st))) : Gets tb e below P T (mkF m pc Ls (st)) := by
  subst hp; refine k.by fun t qq => ?_; exact XS.lloadN H hx rfl hd hl qq
theorem g_lload {tb : Tables} [Ours tb] {e : Env} {below : List Frame} {T : State} {m : MethodId} {c : Code} {P : Outcome → State → Prop} {pc pc' : Nat} {Ls : Array Slot} {st : List Value} {j : Nat} {v : Int64} (H : At T m c below) (hx : tb.exec = Jvm.exec) (hd : decode c.code pc = .ok (.lload j, 2)) (hl : Ls[j]? = some (.val (.long v))) (hp : pc + 2 = pc')
    (k : Gets tb e below P T (mkF m pc' Ls (.long v :: st))) : Gets tb e below P T (mkF m pc Ls (st)) := by
  subst hp; refine k.by fun t qq => ?_; exact XS.lload H hx rfl hd hl qq
theorem g_lstoreN {tb : Tables} [Ours tb] {e : Env} {below : List Frame} {T : State} {m : MethodId} {c : Code} {P : Outcome → State → Prop} {pc pc' : Nat} {Ls : Array Slot} {st : List Value} {j : Fin 4} {v : Int64} {Ls' : Array Slot} (H : At T m c below) (hx : tb.exec = Jvm.exec) (hd : decode c.code pc = .ok (.lstore_n j, 1)) (hl : storeLocals Ls j.val (.long v) = some Ls') (hp : pc + 1 = pc')
    (k : Gets tb e below P T (mkF m pc' Ls' (st))) : Gets tb e below P T (mkF m pc Ls (.long v :: st)) := by
  subst hp; refine k.by fun t qq => ?_; exact XS.lstoreN H hx rfl hd rfl hl qq
theorem g_lstore {tb : Tables} [Ours tb] {e : Env} {below : List Frame} {T : State} {m : MethodId} {c : Code} {P : Outcome → State → Prop} {pc pc' : Nat} {Ls : Array Slot} {st : List Value} {j : Nat} {v : Int64} {Ls' : Array Slot} (H : At T m c below) (hx : tb.exec = Jvm.exec) (hd : decode c.code pc = .ok (.lstore j, 2)) (hl : storeLocals Ls j (.long v) = some Ls') (hp : pc + 2 = pc')
    (k : Gets tb e below P T (mkF m pc' Ls' (st))) : Gets tb e below P T (mkF m pc Ls (.long v :: st)) := by
  subst hp; refine k.by fun t qq => ?_; exact XS.lstore H hx rfl hd rfl hl qq
theorem g_aloadN {tb : Tables} [Ours tb] {e : Env} {below : List Frame} {T : State} {m : MethodId} {c : Code} {P : Outcome → State → Prop} {pc pc' : Nat} {Ls : Array Slot} {st : List Value} {j : Fin 4} {v : Value} (H : At T m c below) (hx : tb.exec = Jvm.exec) (hd : decode c.code pc = .ok (.aload_n j, 1)) (hl : Ls[j.val]? = some (.val v)) (hv : v.isRef = true) (hp : pc + 1 = pc')
    (k : Gets tb e below P T (mkF m pc' Ls (v :: st))) : Gets tb e below P T (mkF m pc Ls (st)) := by
  subst hp; refine k.by fun t qq => ?_; exact XS.aloadN H hx rfl hd hl hv qq
theorem g_aload {tb : Tables} [Ours tb] {e : Env} {below : List Frame} {T : State} {m : MethodId} {c : Code} {P : Outcome → State → Prop} {pc pc' : Nat} {Ls : Array Slot} {st : List Value} {j : Nat} {v : Value} (H : At T m c below) (hx : tb.exec = Jvm.exec) (hd : decode c.code pc = .ok (.aload j, 2)) (hl : Ls[j]? = some (.val v)) (hv : v.isRef = true) (hp : pc + 2 = pc')
    (k : Gets tb e below P T (mkF m pc' Ls (v :: st))) : Gets tb e below P T (mkF m pc Ls (st)) := by
  subst hp; refine k.by fun t qq => ?_; exact XS.aload H hx rfl hd hl hv qq
theorem g_astoreN {tb : Tables} [Ours tb] {e : Env} {below : List Frame} {T : State} {m : MethodId} {c : Code} {P : Outcome → State → Prop} {pc pc' : Nat} {Ls : Array Slot} {st : List Value} {j : Fin 4} {v : Value} {Ls' : Array Slot} (H : At T m c below) (hx : tb.exec = Jvm.exec) (hd : decode c.code pc = .ok (.astore_n j, 1)) (hv : v.isRef = true) (hl : storeLocals Ls j.val v = some Ls') (hp : pc + 1 = pc')
    (k : Gets tb e below P T (mkF m pc' Ls' (st))) : Gets tb e below P T (mkF m pc Ls (v :: st)) := by
  subst hp; refine k.by fun t qq => ?_; exact XS.astoreN H hx rfl hd rfl hv hl qq
theorem g_astore {tb : Tables} [Ours tb] {e : Env} {below : List Frame} {T : State} {m : MethodId} {c : Code} {P : Outcome → State → Prop} {pc pc' : Nat} {Ls : Array Slot} {st : List Value} {j : Nat} {v : Value} {Ls' : Array Slot} (H : At T m c below) (hx : tb.exec = Jvm.exec) (hd : decode c.code pc = .ok (.astore j, 2)) (hv : v.isRef = true) (hl : storeLocals Ls j v = some Ls') (hp : pc + 2 = pc')
    (k : Gets tb e below P T (mkF m pc' Ls' (st))) : Gets tb e below P T (mkF m pc Ls (v :: st)) := by
  subst hp; refine k.by fun t qq => ?_; exact XS.astore H hx rfl hd rfl hv hl qq
theorem g_iconst {tb : Tables} [Ours tb] {e : Env} {below : List Frame} {T : State} {m : MethodId} {c : Code} {P : Outcome → State → Prop} {pc pc' : Nat} {Ls : Array Slot} {st : List Value} {i : Int} (v : Int32) (H : At T m c below) (hx : tb.exec = Jvm.exec) (hd : decode c.code pc = .ok (.iconst i, 1)) (hv : Int32.ofInt i = v) (hp : pc + 1 = pc')
    (k : Gets tb e below P T (mkF m pc' Ls (.int v :: st))) : Gets tb e below P T (mkF m pc Ls st) := by
  subst hp; subst hv; refine k.by fun t qq => ?_; exact XS.iconst H hx rfl hd qq
theorem g_bipush {tb : Tables} [Ours tb] {e : Env} {below : List Frame} {T : State} {m : MethodId} {c : Code} {P : Outcome → State → Prop} {pc pc' : Nat} {Ls : Array Slot} {st : List Value} {i : Int} (v : Int32) (H : At T m c below) (hx : tb.exec = Jvm.exec) (hd : decode c.code pc = .ok (.bipush i, 2)) (hv : (Int8.ofInt i).toInt32 = v) (hp : pc + 2 = pc')
    (k : Gets tb e below P T (mkF m pc' Ls (.int v :: st))) : Gets tb e below P T (mkF m pc Ls st) := by
  subst hp; subst hv; refine k.by fun t qq => ?_; exact XS.bipush H hx rfl hd qq
theorem g_sipush {tb : Tables} [Ours tb] {e : Env} {below : List Frame} {T : State} {m : MethodId} {c : Code} {P : Outcome → State → Prop} {pc pc' : Nat} {Ls : Array Slot} {st : List Value} {i : Int} (v : Int32) (H : At T m c below) (hx : tb.exec = Jvm.exec) (hd : decode c.code pc = .ok (.sipush i, 3)) (hv : (Int16.ofInt i).toInt32 = v) (hp : pc + 3 = pc')
    (k : Gets tb e below P T (mkF m pc' Ls (.int v :: st))) : Gets tb e below P T (mkF m pc Ls st) := by
  subst hp; subst hv; refine k.by fun t qq => ?_; exact XS.sipush H hx rfl hd qq
theorem g_aconstNull {tb : Tables} [Ours tb] {e : Env} {below : List Frame} {T : State} {m : MethodId} {c : Code} {P : Outcome → State → Prop} {pc pc' : Nat} {Ls : Array Slot} {st : List Value}  (H : At T m c below) (hx : tb.exec = Jvm.exec) (hd : decode c.code pc = .ok (.aconst_null, 1))  (hp : pc + 1 = pc')
    (k : Gets tb e below P T (mkF m pc' Ls (.null :: st))) : Gets tb e below P T (mkF m pc Ls (st)) := by
  subst hp; refine k.by fun t qq => ?_; exact XS.aconstNull H hx rfl hd  qq
theorem g_iadd {tb : Tables} [Ours tb] {e : Env} {below : List Frame} {T : State} {m : MethodId} {c : Code} {P : Outcome → State → Prop} {pc pc' : Nat} {Ls : Array Slot} {st : List Value} {x y : Int32} (H : At T m c below) (hx : tb.exec = Jvm.exec) (hd : decode c.code pc = .ok (.iadd, 1))  (hp : pc + 1 = pc')
    (k : Gets tb e below P T (mkF m pc' Ls (.int (x + y) :: st))) : Gets tb e below P T (mkF m pc Ls (.int y :: .int x :: st)) := by
  subst hp; refine k.by fun t qq => ?_; exact XS.iadd H hx rfl hd rfl qq
theorem g_isub {tb : Tables} [Ours tb] {e : Env} {below : List Frame} {T : State} {m : MethodId} {c : Code} {P : Outcome → State → Prop} {pc pc' : Nat} {Ls : Array Slot} {st : List Value} {x y : Int32} (H : At T m c below) (hx : tb.exec = Jvm.exec) (hd : decode c.code pc = .ok (.isub, 1))  (hp : pc + 1 = pc')
    (k : Gets tb e below P T (mkF m pc' Ls (.int (x - y) :: st))) : Gets tb e below P T (mkF m pc Ls (.int y :: .int x :: st)) := by
  subst hp; refine k.by fun t qq => ?_; exact XS.isub H hx rfl hd rfl qq
theorem g_imul {tb : Tables} [Ours tb] {e : Env} {below : List Frame} {T : State} {m : MethodId} {c : Code} {P : Outcome → State → Prop} {pc pc' : Nat} {Ls : Array Slot} {st : List Value} {x y : Int32} (H : At T m c below) (hx : tb.exec = Jvm.exec) (hd : decode c.code pc = .ok (.imul, 1))  (hp : pc + 1 = pc')
    (k : Gets tb e below P T (mkF m pc' Ls (.int (x * y) :: st))) : Gets tb e below P T (mkF m pc Ls (.int y :: .int x :: st)) := by
  subst hp; refine k.by fun t qq => ?_; exact XS.imul H hx rfl hd rfl qq
theorem g_iand {tb : Tables} [Ours tb] {e : Env} {below : List Frame} {T : State} {m : MethodId} {c : Code} {P : Outcome → State → Prop} {pc pc' : Nat} {Ls : Array Slot} {st : List Value} {x y : Int32} (H : At T m c below) (hx : tb.exec = Jvm.exec) (hd : decode c.code pc = .ok (.iand, 1))  (hp : pc + 1 = pc')
    (k : Gets tb e below P T (mkF m pc' Ls (.int (x &&& y) :: st))) : Gets tb e below P T (mkF m pc Ls (.int y :: .int x :: st)) := by
  subst hp; refine k.by fun t qq => ?_; exact XS.iand H hx rfl hd rfl qq
theorem g_ior {tb : Tables} [Ours tb] {e : Env} {below : List Frame} {T : State} {m : MethodId} {c : Code} {P : Outcome → State → Prop} {pc pc' : Nat} {Ls : Array Slot} {st : List Value} {x y : Int32} (H : At T m c below) (hx : tb.exec = Jvm.exec) (hd : decode c.code pc = .ok (.ior, 1))  (hp : pc + 1 = pc')
    (k : Gets tb e below P T (mkF m pc' Ls (.int (x ||| y) :: st))) : Gets tb e below P T (mkF m pc Ls (.int y :: .int x :: st)) := by
  subst hp; refine k.by fun t qq => ?_; exact XS.ior H hx rfl hd rfl qq
theorem g_ixor {tb : Tables} [Ours tb] {e : Env} {below : List Frame} {T : State} {m : MethodId} {c : Code} {P : Outcome → State → Prop} {pc pc' : Nat} {Ls : Array Slot} {st : List Value} {x y : Int32} (H : At T m c below) (hx : tb.exec = Jvm.exec) (hd : decode c.code pc = .ok (.ixor, 1))  (hp : pc + 1 = pc')
    (k : Gets tb e below P T (mkF m pc' Ls (.int (x ^^^ y) :: st))) : Gets tb e below P T (mkF m pc Ls (.int y :: .int x :: st)) := by
  subst hp; refine k.by fun t qq => ?_; exact XS.ixor H hx rfl hd rfl qq
theorem g_ishl {tb : Tables} [Ours tb] {e : Env} {below : List Frame} {T : State} {m : MethodId} {c : Code} {P : Outcome → State → Prop} {pc pc' : Nat} {Ls : Array Slot} {st : List Value} {x y : Int32} (H : At T m c below) (hx : tb.exec = Jvm.exec) (hd : decode c.code pc = .ok (.ishl, 1))  (hp : pc + 1 = pc')
    (k : Gets tb e below P T (mkF m pc' Ls (.int (x <<< (y &&& 31)) :: st))) : Gets tb e below P T (mkF m pc Ls (.int y :: .int x :: st)) := by
  subst hp; refine k.by fun t qq => ?_; exact XS.ishl H hx rfl hd rfl qq
theorem g_ishr {tb : Tables} [Ours tb] {e : Env} {below : List Frame} {T : State} {m : MethodId} {c : Code} {P : Outcome → State → Prop} {pc pc' : Nat} {Ls : Array Slot} {st : List Value} {x y : Int32} (H : At T m c below) (hx : tb.exec = Jvm.exec) (hd : decode c.code pc = .ok (.ishr, 1))  (hp : pc + 1 = pc')
    (k : Gets tb e below P T (mkF m pc' Ls (.int (x >>> (y &&& 31)) :: st))) : Gets tb e below P T (mkF m pc Ls (.int y :: .int x :: st)) := by
  subst hp; refine k.by fun t qq => ?_; exact XS.ishr H hx rfl hd rfl qq
theorem g_iushr {tb : Tables} [Ours tb] {e : Env} {below : List Frame} {T : State} {m : MethodId} {c : Code} {P : Outcome → State → Prop} {pc pc' : Nat} {Ls : Array Slot} {st : List Value} {x y : Int32} (H : At T m c below) (hx : tb.exec = Jvm.exec) (hd : decode c.code pc = .ok (.iushr, 1))  (hp : pc + 1 = pc')
    (k : Gets tb e below P T (mkF m pc' Ls (.int ((x.toUInt32 >>> (y &&& 31).toUInt32).toInt32) :: st))) : Gets tb e below P T (mkF m pc Ls (.int y :: .int x :: st)) := by
  subst hp; refine k.by fun t qq => ?_; exact XS.iushr H hx rfl hd rfl qq
theorem g_ladd {tb : Tables} [Ours tb] {e : Env} {below : List Frame} {T : State} {m : MethodId} {c : Code} {P : Outcome → State → Prop} {pc pc' : Nat} {Ls : Array Slot} {st : List Value} {x y : Int64} (H : At T m c below) (hx : tb.exec = Jvm.exec) (hd : decode c.code pc = .ok (.ladd, 1))  (hp : pc + 1 = pc')
    (k : Gets tb e below P T (mkF m pc' Ls (.long (x + y) :: st))) : Gets tb e below P T (mkF m pc Ls (.long y :: .long x :: st)) := by
  subst hp; refine k.by fun t qq => ?_; exact XS.ladd H hx rfl hd rfl qq
theorem g_lsub {tb : Tables} [Ours tb] {e : Env} {below : List Frame} {T : State} {m : MethodId} {c : Code} {P : Outcome → State → Prop} {pc pc' : Nat} {Ls : Array Slot} {st : List Value} {x y : Int64} (H : At T m c below) (hx : tb.exec = Jvm.exec) (hd : decode c.code pc = .ok (.lsub, 1))  (hp : pc + 1 = pc')
    (k : Gets tb e below P T (mkF m pc' Ls (.long (x - y) :: st))) : Gets tb e below P T (mkF m pc Ls (.long y :: .long x :: st)) := by
  subst hp; refine k.by fun t qq => ?_; exact XS.lsub H hx rfl hd rfl qq
theorem g_lmul {tb : Tables} [Ours tb] {e : Env} {below : List Frame} {T : State} {m : MethodId} {c : Code} {P : Outcome → State → Prop} {pc pc' : Nat} {Ls : Array Slot} {st : List Value} {x y : Int64} (H : At T m c below) (hx : tb.exec = Jvm.exec) (hd : decode c.code pc = .ok (.lmul, 1))  (hp : pc + 1 = pc')
    (k : Gets tb e below P T (mkF m pc' Ls (.long (x * y) :: st))) : Gets tb e below P T (mkF m pc Ls (.long y :: .long x :: st)) := by
  subst hp; refine k.by fun t qq => ?_; exact XS.lmul H hx rfl hd rfl qq
theorem g_land {tb : Tables} [Ours tb] {e : Env} {below : List Frame} {T : State} {m : MethodId} {c : Code} {P : Outcome → State → Prop} {pc pc' : Nat} {Ls : Array Slot} {st : List Value} {x y : Int64} (H : At T m c below) (hx : tb.exec = Jvm.exec) (hd : decode c.code pc = .ok (.land, 1))  (hp : pc + 1 = pc')
    (k : Gets tb e below P T (mkF m pc' Ls (.long (x &&& y) :: st))) : Gets tb e below P T (mkF m pc Ls (.long y :: .long x :: st)) := by
  subst hp; refine k.by fun t qq => ?_; exact XS.land H hx rfl hd rfl qq
theorem g_lor {tb : Tables} [Ours tb] {e : Env} {below : List Frame} {T : State} {m : MethodId} {c : Code} {P : Outcome → State → Prop} {pc pc' : Nat} {Ls : Array Slot} {st : List Value} {x y : Int64} (H : At T m c below) (hx : tb.exec = Jvm.exec) (hd : decode c.code pc = .ok (.lor, 1))  (hp : pc + 1 = pc')
    (k : Gets tb e below P T (mkF m pc' Ls (.long (x ||| y) :: st))) : Gets tb e below P T (mkF m pc Ls (.long y :: .long x :: st)) := by
  subst hp; refine k.by fun t qq => ?_; exact XS.lor H hx rfl hd rfl qq
theorem g_lxor {tb : Tables} [Ours tb] {e : Env} {below : List Frame} {T : State} {m : MethodId} {c : Code} {P : Outcome → State → Prop} {pc pc' : Nat} {Ls : Array Slot} {st : List Value} {x y : Int64} (H : At T m c below) (hx : tb.exec = Jvm.exec) (hd : decode c.code pc = .ok (.lxor, 1))  (hp : pc + 1 = pc')
    (k : Gets tb e below P T (mkF m pc' Ls (.long (x ^^^ y) :: st))) : Gets tb e below P T (mkF m pc Ls (.long y :: .long x :: st)) := by
  subst hp; refine k.by fun t qq => ?_; exact XS.lxor H hx rfl hd rfl qq
theorem g_lshl {tb : Tables} [Ours tb] {e : Env} {below : List Frame} {T : State} {m : MethodId} {c : Code} {P : Outcome → State → Prop} {pc pc' : Nat} {Ls : Array Slot} {st : List Value} {x : Int64} {y : Int32} (H : At T m c below) (hx : tb.exec = Jvm.exec) (hd : decode c.code pc = .ok (.lshl, 1))  (hp : pc + 1 = pc')
    (k : Gets tb e below P T (mkF m pc' Ls (.long (x <<< (y &&& 0x3f).toInt64) :: st))) : Gets tb e below P T (mkF m pc Ls (.int y :: .long x :: st)) := by
  subst hp; refine k.by fun t qq => ?_; exact XS.lshl H hx rfl hd rfl qq
theorem g_lshr {tb : Tables} [Ours tb] {e : Env} {below : List Frame} {T : State} {m : MethodId} {c : Code} {P : Outcome → State → Prop} {pc pc' : Nat} {Ls : Array Slot} {st : List Value} {x : Int64} {y : Int32} (H : At T m c below) (hx : tb.exec = Jvm.exec) (hd : decode c.code pc = .ok (.lshr, 1))  (hp : pc + 1 = pc')
    (k : Gets tb e below P T (mkF m pc' Ls (.long (x >>> (y &&& 0x3f).toInt64) :: st))) : Gets tb e below P T (mkF m pc Ls (.int y :: .long x :: st)) := by
  subst hp; refine k.by fun t qq => ?_; exact XS.lshr H hx rfl hd rfl qq
theorem g_lushr {tb : Tables} [Ours tb] {e : Env} {below : List Frame} {T : State} {m : MethodId} {c : Code} {P : Outcome → State → Prop} {pc pc' : Nat} {Ls : Array Slot} {st : List Value} {x : Int64} {y : Int32} (H : At T m c below) (hx : tb.exec = Jvm.exec) (hd : decode c.code pc = .ok (.lushr, 1))  (hp : pc + 1 = pc')
    (k : Gets tb e below P T (mkF m pc' Ls (.long ((x.toUInt64 >>> (y &&& 0x3f).toInt64.toUInt64).toInt64) :: st))) : Gets tb e below P T (mkF m pc Ls (.int y :: .long x :: st)) := by
  subst hp; refine k.by fun t qq => ?_; exact XS.lushr H hx rfl hd rfl qq
theorem g_lcmp {tb : Tables} [Ours tb] {e : Env} {below : List Frame} {T : State} {m : MethodId} {c : Code} {P : Outcome → State → Prop} {pc pc' : Nat} {Ls : Array Slot} {st : List Value} {x y : Int64} (H : At T m c below) (hx : tb.exec = Jvm.exec) (hd : decode c.code pc = .ok (.lcmp, 1))  (hp : pc + 1 = pc')
    (k : Gets tb e below P T (mkF m pc' Ls (.int (lcmpW x y) :: st))) : Gets tb e below P T (mkF m pc Ls (.long y :: .long x :: st)) := by
  subst hp; refine k.by fun t qq => ?_; exact XS.lcmp H hx rfl hd rfl qq
theorem g_ineg {tb : Tables} [Ours tb] {e : Env} {below : List Frame} {T : State} {m : MethodId} {c : Code} {P : Outcome → State → Prop} {pc pc' : Nat} {Ls : Array Slot} {st : List Value} {x : Int32} (H : At T m c below) (hx : tb.exec = Jvm.exec) (hd : decode c.code pc = .ok (.ineg, 1))  (hp : pc + 1 = pc')
    (k : Gets tb e below P T (mkF m pc' Ls (.int (-x) :: st))) : Gets tb e below P T (mkF m pc Ls (.int x :: st)) := by
  subst hp; refine k.by fun t qq => ?_; exact XS.ineg H hx rfl hd rfl qq
theorem g_i2b {tb : Tables} [Ours tb] {e : Env} {below : List Frame} {T : State} {m : MethodId} {c : Code} {P : Outcome → State → Prop} {pc pc' : Nat} {Ls : Array Slot} {st : List Value} {x : Int32} (H : At T m c below) (hx : tb.exec = Jvm.exec) (hd : decode c.code pc = .ok (.i2b, 1))  (hp : pc + 1 = pc')
    (k : Gets tb e below P T (mkF m pc' Ls (.int (x.toInt8.toInt32) :: st))) : Gets tb e below P T (mkF m pc Ls (.int x :: st)) := by
  subst hp; refine k.by fun t qq => ?_; exact XS.i2b H hx rfl hd rfl qq
theorem g_i2s {tb : Tables} [Ours tb] {e : Env} {below : List Frame} {T : State} {m : MethodId} {c : Code} {P : Outcome → State → Prop} {pc pc' : Nat} {Ls : Array Slot} {st : List Value} {x : Int32} (H : At T m c below) (hx : tb.exec = Jvm.exec) (hd : decode c.code pc = .ok (.i2s, 1))  (hp : pc + 1 = pc')
    (k : Gets tb e below P T (mkF m pc' Ls (.int (x.toInt16.toInt32) :: st))) : Gets tb e below P T (mkF m pc Ls (.int x :: st)) := by
  subst hp; refine k.by fun t qq => ?_; exact XS.i2s H hx rfl hd rfl qq
theorem g_i2c {tb : Tables} [Ours tb] {e : Env} {below : List Frame} {T : State} {m : MethodId} {c : Code} {P : Outcome → State → Prop} {pc pc' : Nat} {Ls : Array Slot} {st : List Value} {x : Int32} (H : At T m c below) (hx : tb.exec = Jvm.exec) (hd : decode c.code pc = .ok (.i2c, 1))  (hp : pc + 1 = pc')
    (k : Gets tb e below P T (mkF m pc' Ls (.int (x.toUInt32.toUInt16.toUInt32.toInt32) :: st))) : Gets tb e below P T (mkF m pc Ls (.int x :: st)) := by
  subst hp; refine k.by fun t qq => ?_; exact XS.i2c H hx rfl hd rfl qq
theorem g_i2l {tb : Tables} [Ours tb] {e : Env} {below : List Frame} {T : State} {m : MethodId} {c : Code} {P : Outcome → State → Prop} {pc pc' : Nat} {Ls : Array Slot} {st : List Value} {x : Int32} (H : At T m c below) (hx : tb.exec = Jvm.exec) (hd : decode c.code pc = .ok (.i2l, 1))  (hp : pc + 1 = pc')
    (k : Gets tb e below P T (mkF m pc' Ls (.long x.toInt64 :: st))) : Gets tb e below P T (mkF m pc Ls (.int x :: st)) := by
  subst hp; refine k.by fun t qq => ?_; exact XS.i2l H hx rfl hd rfl qq
theorem g_l2i {tb : Tables} [Ours tb] {e : Env} {below : List Frame} {T : State} {m : MethodId} {c : Code} {P : Outcome → State → Prop} {pc pc' : Nat} {Ls : Array Slot} {st : List Value} {x : Int64} (H : At T m c below) (hx : tb.exec = Jvm.exec) (hd : decode c.code pc = .ok (.l2i, 1))  (hp : pc + 1 = pc')
    (k : Gets tb e below P T (mkF m pc' Ls (.int x.toInt32 :: st))) : Gets tb e below P T (mkF m pc Ls (.long x :: st)) := by
  subst hp; refine k.by fun t qq => ?_; exact XS.l2i H hx rfl hd rfl qq
theorem g_lneg {tb : Tables} [Ours tb] {e : Env} {below : List Frame} {T : State} {m : MethodId} {c : Code} {P : Outcome → State → Prop} {pc pc' : Nat} {Ls : Array Slot} {st : List Value} {x : Int64} (H : At T m c below) (hx : tb.exec = Jvm.exec) (hd : decode c.code pc = .ok (.lneg, 1))  (hp : pc + 1 = pc')
    (k : Gets tb e below P T (mkF m pc' Ls (.long (-x) :: st))) : Gets tb e below P T (mkF m pc Ls (.long x :: st)) := by
  subst hp; refine k.by fun t qq => ?_; exact XS.lneg H hx rfl hd rfl qq
theorem g_idiv {tb : Tables} [Ours tb] {e : Env} {below : List Frame} {T : State} {m : MethodId} {c : Code} {P : Outcome → State → Prop} {pc pc' : Nat} {Ls : Array Slot} {st : List Value} {x y : Int32} (H : At T m c below) (hx : tb.exec = Jvm.exec) (hd : decode c.code pc = .ok (.idiv, 1)) (hy : y ≠ 0) (hp : pc + 1 = pc')
    (k : Gets tb e below P T (mkF m pc' Ls (.int (x / y) :: st))) : Gets tb e below P T (mkF m pc Ls (.int y :: .int x :: st)) := by
  subst hp; refine k.by fun t qq => ?_; exact XS.idiv H hx rfl hd rfl hy qq
theorem g_dup {tb : Tables} [Ours tb] {e : Env} {below : List Frame} {T : State} {m : MethodId} {c : Code} {P : Outcome → State → Prop} {pc pc' : Nat} {Ls : Array Slot} {st : List Value} {v : Value} (H : At T m c below) (hx : tb.exec = Jvm.exec) (hd : decode c.code pc = .ok (.dup, 1)) (hv : v.category = 1) (hp : pc + 1 = pc')
    (k : Gets tb e below P T (mkF m pc' Ls (v :: v :: st))) : Gets tb e below P T (mkF m pc Ls (v :: st)) := by
  subst hp; refine k.by fun t qq => ?_; exact XS.dup H hx rfl hd rfl hv qq
theorem g_pop {tb : Tables} [Ours tb] {e : Env} {below : List Frame} {T : State} {m : MethodId} {c : Code} {P : Outcome → State → Prop} {pc pc' : Nat} {Ls : Array Slot} {st : List Value} {v : Value} (H : At T m c below) (hx : tb.exec = Jvm.exec) (hd : decode c.code pc = .ok (.pop, 1)) (hv : v.category = 1) (hp : pc + 1 = pc')
    (k : Gets tb e below P T (mkF m pc' Ls (st))) : Gets tb e below P T (mkF m pc Ls (v :: st)) := by
  subst hp; refine k.by fun t qq => ?_; exact XS.pop H hx rfl hd rfl hv qq
theorem g_dupX1 {tb : Tables} [Ours tb] {e : Env} {below : List Frame} {T : State} {m : MethodId} {c : Code} {P : Outcome → State → Prop} {pc pc' : Nat} {Ls : Array Slot} {st : List Value} {v w : Value} (H : At T m c below) (hx : tb.exec = Jvm.exec) (hd : decode c.code pc = .ok (.dup_x1, 1)) (hv : v.category = 1) (hw : w.category = 1) (hp : pc + 1 = pc')
    (k : Gets tb e below P T (mkF m pc' Ls (v :: w :: v :: st))) : Gets tb e below P T (mkF m pc Ls (v :: w :: st)) := by
  subst hp; refine k.by fun t qq => ?_; exact XS.dupX1 H hx rfl hd rfl hv hw qq
theorem g_iinc {tb : Tables} [Ours tb] {e : Env} {below : List Frame} {T : State} {m : MethodId} {c : Code} {P : Outcome → State → Prop} {pc pc' : Nat} {Ls : Array Slot} {st : List Value} {j : Nat} {cst : Int} {x : Int32} {Ls' : Array Slot} (H : At T m c below) (hx : tb.exec = Jvm.exec) (hd : decode c.code pc = .ok (.iinc j cst, 3)) (hl : Ls[j]? = some (.val (.int x))) (hs : storeLocals Ls j (.int (x + Int32.ofInt cst)) = some Ls') (hp : pc + 3 = pc')
    (k : Gets tb e below P T (mkF m pc' Ls' (st))) : Gets tb e below P T (mkF m pc Ls (st)) := by
  subst hp; refine k.by fun t qq => ?_; exact XS.iinc H hx rfl hd hl hs qq
theorem g_lconst {tb : Tables} [Ours tb] {e : Env} {below : List Frame} {T : State} {m : MethodId} {c : Code} {P : Outcome → State → Prop} {pc pc' : Nat} {Ls : Array Slot} {st : List Value} {j : Fin 2} (v : Int64) (H : At T m c below) (hx : tb.exec = Jvm.exec) (hd : decode c.code pc = .ok (.lconst j, 1)) (hv : Int64.ofNat j = v) (hp : pc + 1 = pc')
    (k : Gets tb e below P T (mkF m pc' Ls (.long v :: st))) : Gets tb e below P T (mkF m pc Ls st) := by
  subst hp; subst hv; refine k.by fun t qq => ?_; exact XS.lconst H hx rfl hd qq
theorem g_irem {tb : Tables} [Ours tb] {e : Env} {below : List Frame} {T : State} {m : MethodId} {c : Code} {P : Outcome → State → Prop} {pc pc' : Nat} {Ls : Array Slot} {st : List Value} {x y : Int32} (H : At T m c below) (hx : tb.exec = Jvm.exec) (hd : decode c.code pc = .ok (.irem, 1)) (hy : y ≠ 0) (hp : pc + 1 = pc')
    (k : Gets tb e below P T (mkF m pc' Ls (.int (x % y) :: st))) : Gets tb e below P T (mkF m pc Ls (.int y :: .int x :: st)) := by
  subst hp
  have q : x - x / y * y = x % y := irem_eq_mod x y
  rw [← q] at k
  refine k.by fun t qq => ?_; exact XS.irem H hx rfl hd rfl hy qq
theorem g_goto {tb : Tables} [Ours tb] {e : Env} {below : List Frame} {T : State} {m : MethodId} {c : Code} {P : Outcome → State → Prop} {pc pc' : Nat} {Ls : Array Slot} {st : List Value} {o : Int} (H : At T m c below) (hx : tb.exec = Jvm.exec) (hd : decode c.code pc = .ok (.goto o, 3)) (hp : (pc : Int) + o = (pc' : Int))
    (k : Gets tb e below P T (mkF m pc' Ls st)) : Gets tb e below P T (mkF m pc Ls st) := by
  refine k.by fun t qq => ?_
  exact XS.goto H hx rfl (pc0 := pc) (pc' := pc') rfl hd (by rw [hp]; exact Int.natCast_nonneg _) (by rw [hp]; rfl) qq
theorem g_ifY {tb : Tables} [Ours tb] {e : Env} {below : List Frame} {T : State} {m : MethodId} {c : Code} {P : Outcome → State → Prop} {pc pc' : Nat} {Ls : Array Slot} {st : List Value} {o : Int} {cd : ClassFile.Cond} {x : Int32} (H : At T m c below) (hx : tb.exec = Jvm.exec) (hd : decode c.code pc = .ok (.ifCond cd o, 3)) (hp : (pc : Int) + o = (pc' : Int)) (q : if_icmp.holds cd x 0 = true)
    (k : Gets tb e below P T (mkF m pc' Ls st)) : Gets tb e below P T (mkF m pc Ls (.int x :: st)) := by
  refine k.by fun t qq => ?_
  exact XS.ifYes H hx rfl (pc0 := pc) (pc' := pc') rfl hd rfl ((if0 _ _).trans q) (by rw [hp]; exact Int.natCast_nonneg _) (by rw [hp]; rfl) qq
theorem g_ifN {tb : Tables} [Ours tb] {e : Env} {below : List Frame} {T : State} {m : MethodId} {c : Code} {P : Outcome → State → Prop} {pc pc' : Nat} {Ls : Array Slot} {st : List Value} {o : Int} {cd : ClassFile.Cond} {x : Int32} (H : At T m c below) (hx : tb.exec = Jvm.exec) (hd : decode c.code pc = .ok (.ifCond cd o, 3)) (hp : pc + 3 = pc') (q : if_icmp.holds cd x 0 = false)
    (k : Gets tb e below P T (mkF m pc' Ls st)) : Gets tb e below P T (mkF m pc Ls (.int x :: st)) := by
  subst hp; refine k.by fun t qq => ?_; exact XS.ifNo H hx rfl hd rfl ((if0 _ _).trans q) qq
theorem g_icmpY {tb : Tables} [Ours tb] {e : Env} {below : List Frame} {T : State} {m : MethodId} {c : Code} {P : Outcome → State → Prop} {pc pc' : Nat} {Ls : Array Slot} {st : List Value} {o : Int} {cd : ClassFile.Cond} {x y : Int32} (H : At T m c below) (hx : tb.exec = Jvm.exec) (hd : decode c.code pc = .ok (.if_icmp cd o, 3)) (hp : (pc : Int) + o = (pc' : Int)) (q : if_icmp.holds cd x y = true)
    (k : Gets tb e below P T (mkF m pc' Ls st)) : Gets tb e below P T (mkF m pc Ls (.int y :: .int x :: st)) := by
  refine k.by fun t qq => ?_
  exact XS.icmpYes H hx rfl (pc0 := pc) (pc' := pc') rfl hd rfl q (by rw [hp]; exact Int.natCast_nonneg _) (by rw [hp]; rfl) qq
theorem g_icmpN {tb : Tables} [Ours tb] {e : Env} {below : List Frame} {T : State} {m : MethodId} {c : Code} {P : Outcome → State → Prop} {pc pc' : Nat} {Ls : Array Slot} {st : List Value} {o : Int} {cd : ClassFile.Cond} {x y : Int32} (H : At T m c below) (hx : tb.exec = Jvm.exec) (hd : decode c.code pc = .ok (.if_icmp cd o, 3)) (hp : pc + 3 = pc') (q : if_icmp.holds cd x y = false)
    (k : Gets tb e below P T (mkF m pc' Ls st)) : Gets tb e below P T (mkF m pc Ls (.int y :: .int x :: st)) := by
  subst hp; refine k.by fun t qq => ?_; exact XS.icmpNo H hx rfl hd rfl q qq
theorem g_nullY {tb : Tables} [Ours tb] {e : Env} {below : List Frame} {T : State} {m : MethodId} {c : Code} {P : Outcome → State → Prop} {pc pc' : Nat} {Ls : Array Slot} {st : List Value} {o : Int} (H : At T m c below) (hx : tb.exec = Jvm.exec) (hd : decode c.code pc = .ok (.ifnull o, 3)) (hp : (pc : Int) + o = (pc' : Int))
    (k : Gets tb e below P T (mkF m pc' Ls st)) : Gets tb e below P T (mkF m pc Ls (.null :: st)) := by
  refine k.by fun t qq => ?_
  exact XS.ifnullYes H hx rfl (pc0 := pc) (pc' := pc') rfl hd rfl (by rw [hp]; exact Int.natCast_nonneg _) (by rw [hp]; rfl) qq
theorem g_nullN {tb : Tables} [Ours tb] {e : Env} {below : List Frame} {T : State} {m : MethodId} {c : Code} {P : Outcome → State → Prop} {pc pc' : Nat} {Ls : Array Slot} {st : List Value} {o : Int} {b : Addr} (H : At T m c below) (hx : tb.exec = Jvm.exec) (hd : decode c.code pc = .ok (.ifnull o, 3)) (hp : pc + 3 = pc')
    (k : Gets tb e below P T (mkF m pc' Ls st)) : Gets tb e below P T (mkF m pc Ls (.ref b :: st)) := by
  subst hp; refine k.by fun t qq => ?_; exact XS.ifnullNo H hx rfl hd rfl qq
theorem g_nonnullY {tb : Tables} [Ours tb] {e : Env} {below : List Frame} {T : State} {m : MethodId} {c : Code} {P : Outcome → State → Prop} {pc pc' : Nat} {Ls : Array Slot} {st : List Value} {o : Int} {b : Addr} (H : At T m c below) (hx : tb.exec = Jvm.exec) (hd : decode c.code pc = .ok (.ifnonnull o, 3)) (hp : (pc : Int) + o = (pc' : Int))
    (k : Gets tb e below P T (mkF m pc' Ls st)) : Gets tb e below P T (mkF m pc Ls (.ref b :: st)) := by
  refine k.by fun t qq => ?_
  exact XS.ifnonnullYes H hx rfl (pc0 := pc) (pc' := pc') rfl hd rfl (by rw [hp]; exact Int.natCast_nonneg _) (by rw [hp]; rfl) qq
theorem g_nonnullN {tb : Tables} [Ours tb] {e : Env} {below : List Frame} {T : State} {m : MethodId} {c : Code} {P : Outcome → State → Prop} {pc pc' : Nat} {Ls : Array Slot} {st : List Value} {o : Int} (H : At T m c below) (hx : tb.exec = Jvm.exec) (hd : decode c.code pc = .ok (.ifnonnull o, 3)) (hp : pc + 3 = pc')
    (k : Gets tb e below P T (mkF m pc' Ls st)) : Gets tb e below P T (mkF m pc Ls (.null :: st)) := by
  subst hp; refine k.by fun t qq => ?_; exact XS.ifnonnullNo H hx rfl hd rfl qq
theorem g_tsw {tb : Tables} [Ours tb] {e : Env} {below : List Frame} {T : State} {m : MethodId} {c : Code} {P : Outcome → State → Prop} {pc pc' : Nat} {Ls : Array Slot} {st : List Value} {dflt low high : Int} {offs : Array Int} {len : Nat} {o : Int} {i : Int32} (H : At T m c below) (hx : tb.exec = Jvm.exec) (hd : decode c.code pc = .ok (.tableswitch dflt low high offs, len)) (hin : ¬ (i.toInt < low ∨ i.toInt > high)) (hoff : offs[(i.toInt - low).toNat]? = some o) (hp : (pc : Int) + o = (pc' : Int))
    (k : Gets tb e below P T (mkF m pc' Ls st)) : Gets tb e below P T (mkF m pc Ls (.int i :: st)) := by
  refine k.by fun t qq => ?_
  exact XS.tswIn H hx rfl (pc0 := pc) (pc' := pc') rfl hd rfl hin hoff (by rw [hp]; exact Int.natCast_nonneg _) (by rw [hp]; rfl) qq
theorem g_iincV {tb : Tables} [Ours tb] {e : Env} {below : List Frame} {T : State} {m : MethodId} {c : Code} {P : Outcome → State → Prop} {pc pc' : Nat} {Ls Ls' : Array Slot} {st : List Value} {j : Nat} {cst : Int} {x : Int32} (v : Int32) (H : At T m c below) (hx : tb.exec = Jvm.exec) (hd : decode c.code pc = .ok (.iinc j cst, 3)) (hv : x + Int32.ofInt cst = v) (hl : Ls[j]? = some (.val (.int x))) (hs : storeLocals Ls j (.int v) = some Ls') (hp : pc + 3 = pc')
    (k : Gets tb e below P T (mkF m pc' Ls' st)) : Gets tb e below P T (mkF m pc Ls st) := by
  subst hp; subst hv; refine k.by fun t qq => ?_; exact XS.iinc H hx rfl hd hl hs qq
/-- an array's exact content -/
def Ary (Z : State) (h : Heap) (a : Addr) (ty : FieldType) (vs : List Value) : Prop := ∃ cl : Cell, Arr Z h a cl ty ∧ cl.slots.toList = vs ∧ vs.length < 2 ^ 31 ∧ ∀ v ∈ vs, fits ty v = true
theorem Ary.lt {Z : State} {h : Heap} {a : Addr} {ty : FieldType} {vs : List Value} (F : Ary Z h a ty vs) : a < h.size := by obtain ⟨c, A, -⟩ := F; exact A.lt
theorem Ary.len {Z : State} {h : Heap} {a : Addr} {ty : FieldType} {vs : List Value} (F : Ary Z h a ty vs) : vs.length < 2 ^ 31 := by obtain ⟨c, A, -, q, -⟩ := F; exact q
theorem Ary.keep {Z : State} {h h' : Heap} {a : Addr} {ty : FieldType} {vs : List Value} {ws : List Addr} (F : Ary Z h a ty vs) (K : Keep h h' ws) (q : a ∉ ws) : Ary Z h' a ty vs := by obtain ⟨c, A, r⟩ := F; exact ⟨c, ⟨K.2.1 a c A.1 q, A.2⟩, r⟩
theorem Ary.ext {Z : State} {h h' : Heap} {a : Addr} {ty : FieldType} {vs : List Value} (F : Ary Z h a ty vs) (E : Ext h h') : Ary Z h' a ty vs := by obtain ⟨c, A, r⟩ := F; exact ⟨c, A.ext E, r⟩
theorem Ary.made {Z : State} {h : Heap} {a : Addr} {ty : FieldType} {k : ClassId} {n : Int32} (A : Arr Z h a (newA k ty n) ty) (hn : ¬ n < 0) (hf : fits ty (defaultValue ty) = true) : Ary Z h a ty (List.replicate n.toNatClampNeg (defaultValue ty)) :=
  ⟨_, A, by simp [newA], by rw [List.length_replicate]; exact (back32 hn).2, fun v hv => by rw [(List.mem_replicate.mp hv).2]; exact hf⟩
theorem Ary.of_arv {Z : State} {h : Heap} {a : Addr} {ty : FieldType} {k : ClassId} {z : Int32} {vs : List Value} {d : Value} (F : Arv Z h a k ty z vs d) (hl : z.toNatClampNeg = vs.length) : Ary Z h a ty vs := by
  obtain ⟨c, A, -, sz, hz, H, G⟩ := F
  have e : c.slots.toList = vs := by
    apply List.ext_getElem?
    intro i
    by_cases hi : i < c.slots.size
    · have q := H i hi
      have hi' : i < vs.length := by omega
      rw [Array.getElem?_toList, q]
      simp [List.getD_eq_getElem?_getD, hi']
    · have hi' : vs.length ≤ i := by omega
      rw [Array.getElem?_toList, Array.getElem?_eq_none (by omega), List.getElem?_eq_none hi']
  refine ⟨c, A, e, by rw [← hl]; exact (back32 hz).2, fun v hv => ?_⟩
  obtain ⟨i, hi, rfl⟩ := List.mem_iff_getElem.mp hv
  have q := G i (by omega)
  rwa [List.getD_eq_getElem?_getD, List.getElem?_eq_getElem hi] at q
theorem Ary.wrote {Z : State} {h h' : Heap} {a : Addr} {ty : FieldType} {vs : List Value} {cl : Cell} {v : Value} {i : Nat} (A : Arr Z h a cl ty) (e : cl.slots.toList = vs) (hl : vs.length < 2 ^ 31) (hf : ∀ w ∈ vs, fits ty w = true) (hv : fits ty v = true) (W : Wr h h' a i v) : Ary Z h' a ty (vs.set i v) := by
  refine ⟨cl.setSlot i v, A.same W, ?_, by rw [List.length_set]; exact hl, fun w hw => ?_⟩
  · rw [← e]; simp [Cell.setSlot]
  · rcases List.mem_or_eq_of_mem_set hw with q | q
    · exact hf w q
    · rw [q]; exact hv
theorem size_of_list {cl : Cell} {vs : List Value} (e : cl.slots.toList = vs) : cl.slots.size = vs.length := by rw [← e]; simp
theorem at_of_list {cl : Cell} {vs : List Value} (e : cl.slots.toList = vs) (i : Nat) : cl.slots[i]? = vs[i]? := by rw [← e]; simp
theorem i32_nat {n : Nat} (h : n < 2 ^ 31) : n.toInt32.toNatClampNeg = n := by simp only [Int32.toNatClampNeg, len_toInt h]; rfl
end OwnBase
section OwnWalk
variable {p : Program} {l : Launch} {e : Env} {R : Room} {s : State} {m : MethodId} {args : Array Value} {below : List Frame} {meth : Method} {c : Code} {T : State} {Z : State} {a0 : Array Value} {h : Heap} {EL : List (String × Nat)} {own : String} {cells slots : Nat} {ws nw : List Addr} {P : Outcome → State → Prop} {pc pc' : Nat} {Ls : Array Slot} {st : List Value}
/-- where a walk stands -/
def Wk (p : Program) (l : Launch) (e : Env) (R : Room) (s : State) (m : MethodId) (args : Array Value) (below : List Frame) (meth : Method) (c : Code) (Z : State) (EL : List (String × Nat)) (own : String) (ws nw : List Addr) (T : State) (h : Heap) (cells slots : Nat) : Prop :=
  ∃ (locs : List Loc), Stand p l e R s m args below meth c T locs cells slots ∧ T.heap = h ∧ Z.Warmed39 s.vm ∧ s.vm.findClass own = some m.cls ∧ Fr Z.heap.size locs ∧ Ext Z.heap h ∧ Keep s.heap h ws ∧
    (∀ x : Nat, x ∈ ws → Z.heap.size ≤ x ∧ x < h.size) ∧ (∀ x : Nat, x ∈ nw → s.heap.size ≤ x ∧ Z.heap.size ≤ x ∧ x < h.size)
theorem Wk.here (W : Wk p l e R s m args below meth c Z EL own ws nw T h cells slots) : At T m c below := by obtain ⟨_, X, -⟩ := W; exact X.here
theorem Wk.old (W : Wk p l e R s m args below meth c Z EL own ws nw T h cells slots) : Ext Z.heap h := by obtain ⟨_, -, -, -, -, -, E, -⟩ := W; exact E
theorem Wk.lt (W : Wk p l e R s m args below meth c Z EL own ws nw T h cells slots) {x : Nat} (q : x ∈ nw) : x < h.size := by obtain ⟨_, -, -, -, -, -, -, -, -, n⟩ := W; exact (n x q).2.2
theorem Wk.kept (W : Wk p l e R s m args below meth c Z EL own ws nw T h cells slots) : Keep s.heap h ws := by obtain ⟨_, -, -, -, -, -, -, K, -⟩ := W; exact K
/-- a callee's contract: from the arguments as' and the heap h0 it returns a value v and a heap h' with Q v h'; of the cells of h0 at the most those at ws are written -/
def ConL (wl : List Cond) (l : Launch) (Z : State) (EL : List (String × Nat)) (y : MethodName) (bytes : ByteArray) (maxL : Nat) (ret : Option FieldType) (rm : Room) (as' : Array Value) (h0 : Heap) (ws : List Addr) (Q : Option Value → Heap → Prop) : Prop :=
  MetFree l y (head1 (Cond.code y bytes maxL ret :: wl) rm) (fun a U => a = as' ∧ Z.Warmed39 U.vm ∧ U.heap = h0) (fun _ _ _ _ _ => True)
    (fun _ U o U' => ∃ v L, o = .returned v ∧ (Q v U'.heap ∧ Fr Z.heap.size L ∧ Keep h0 U'.heap ws ∧ Ext Z.heap U'.heap) ∧ FrameEnd U o U' L rm.cells rm.slots)
abbrev Con := ConL []
/-- what a contract's body is to come to -/
def Post (s : State) (Z : State) (EL : List (String × Nat)) (rm : Room) (h0 : Heap) (ws : List Addr) (Q : Option Value → Heap → Prop) (o : Outcome) (t : State) : Prop :=
  ∃ v L, o = .returned v ∧ (Q v t.heap ∧ Fr Z.heap.size L ∧ Keep h0 t.heap ws ∧ Ext Z.heap t.heap) ∧ FrameEnd s o t L rm.cells rm.slots
theorem Con.of {wl : List Cond} {y : MethodName} {bytes : ByteArray} {maxL : Nat} {ret : Option FieldType} {rm : Room} {as' : Array Value} {h0 : Heap} {Q : Option Value → Heap → Prop} (Ls : Array Slot)
    (hy : plainFor y = true) (hE : EW Z a0 EL) (O : Ext Z.heap h0) (hws : ∀ x : Nat, x ∈ ws → Z.heap.size ≤ x ∧ x < h0.size) (hent : ∀ m, entryFrame m as' maxL = mkF m 0 Ls [])
    (body : ∀ (p : Program) (e : Env) (s : State) (m : MethodId) (below : List Frame) (meth : Method) (c : Code) (T : State), p.tables.exec = Jvm.exec → c.code = bytes → c.maxLocals = maxL → meth.name = y.name → meth.sig.returnType = ret → meth.locks = false → s.heap = h0 →
      Wk p l e rm s m as' below meth c Z EL y.cls ws [] T h0 0 0 → Gets p.tables e below (Post s Z EL rm h0 ws Q) T (mkF m 0 Ls [])) :
    ConL wl l Z EL y bytes maxL ret rm as' h0 ws Q := by
  refine MetFree.of_bodySF hy hisR ?_
  intro p e s m args below meth c s₁ Bd hml0 hP hK
  obtain ⟨rfl, hZ, hh⟩ := hP
  have hh' : s.heap = h0 := hh
  have hl : meth.locks = false := Bd.notSynchronized
  have e0 : s₁.heap = h0 := by rw [← hh, Bd.state]; rfl
  have X0 : Stand p l e rm s m args below meth c s₁ [] 0 0 := Stand.of_body Bd
  have W : Wk p l e rm s m args below meth c Z EL y.cls ws [] s₁ h0 0 0 :=
    ⟨[], X0, e0, hZ, findClass_of_methodNamed Bd.named, Fr.nil _, O, by rw [hh']; exact Keep.refl _ _, fun x hx => ⟨(hws x hx).1, (hws x hx).2⟩, fun x hx => (nomatch hx)⟩
  obtain ⟨t, o, h1, h2, h3, h4⟩ := body p e s m below meth c s₁ Bd.exec Bd.bytes hml0 (name_of_methodNamed Bd.named Bd.method).1 Bd.returns hl hh' W
  exact ⟨t, o, by rw [hent m]; exact h1, h2, h3, h4⟩
/-! ends -/
theorem w_end {rm : Room} {h0 : Heap} {Q : Option Value → Heap → Prop} (W : Wk p l e R s m args below meth c Z EL own ws nw T h cells slots) (hh : s.heap = h0) {v : Option Value} {g : JFrame} (hl : meth.locks = false) (hv : meth.sig.returnType = none → v = none)
    (st : ∀ {locs : List Loc} {fs : List Frame}, Stand p l e R s m args below meth c T locs cells slots → (∀ (f : JFrame) (acts : List Action), f.method = m → f.locked = none → f.entered = [] → (doReturn e (T.setTop f) acts v).1 = T.setFrames fs) → Steps p.tables e below (T.setTop g) (T.setFrames fs))
    (hc : cells ≤ rm.cells) (hs : slots ≤ rm.slots) (q : Q v h) : Gets p.tables e below (Post s Z EL rm h0 ws Q) T g := by
  obtain ⟨locs, X, eT, hZ, hown, hF, hO, hK, -, -⟩ := W
  obtain ⟨fs, h1, h2, h3, r1, r2⟩ := X.leave hv hl
  subst hh
  refine ⟨_, _, st X h1, h2, h3, v, locs, rfl, ⟨?_, hF, ?_, ?_⟩, ⟨_, rfl⟩, r1, r2.mono hc hs⟩
  · show Q v T.heap; rw [eT]; exact q
  · show Keep _ T.heap _; rw [eT]; exact hK
  · show Ext _ T.heap; rw [eT]; exact hO
theorem w_retI {rm : Room} {h0 : Heap} {Q : Option Value → Heap → Prop} {z : Int32} (W : Wk p l e R s m args below meth c Z EL own ws nw T h cells slots) (hx : p.tables.exec = Jvm.exec) (hh : s.heap = h0) (hl : meth.locks = false) (hret : meth.sig.returnType = some .int) (hd : decode c.code pc = .ok (.ireturn, 1)) (hc : cells ≤ rm.cells) (hs : slots ≤ rm.slots) (q : Q (some (.int z)) h) :
    Gets p.tables e below (Post s Z EL rm h0 ws Q) T (mkF m pc Ls (.int z :: st)) :=
  w_end W hh hl (fun q => by rw [hret] at q; cases q) (fun X hr => retOut X hx hret rfl (Or.inl ⟨rfl, Or.inl rfl, z, rfl⟩) hd hr) hc hs q
theorem w_retN {rm : Room} {h0 : Heap} {Q : Option Value → Heap → Prop} {z : Int32} {t : FieldType} (W : Wk p l e R s m args below meth c Z EL own ws nw T h cells slots) (hx : p.tables.exec = Jvm.exec) (hh : s.heap = h0) (hl : meth.locks = false) (hret : meth.sig.returnType = some t) (ht : t = .boolean ∨ t = .byte ∨ t = .char ∨ t = .short) (hd : decode c.code pc = .ok (.ireturn, 1)) (hc : cells ≤ rm.cells) (hs : slots ≤ rm.slots) (q : Q (some (.int (nar t z))) h) :
    Gets p.tables e below (Post s Z EL rm h0 ws Q) T (mkF m pc Ls (.int z :: st)) :=
  w_end W hh hl (fun q => by rw [hret] at q; cases q) (fun X hr => retN X hx hret ht hd hr) hc hs q
theorem w_retJ {rm : Room} {h0 : Heap} {Q : Option Value → Heap → Prop} {z : Int64} (W : Wk p l e R s m args below meth c Z EL own ws nw T h cells slots) (hx : p.tables.exec = Jvm.exec) (hh : s.heap = h0) (hl : meth.locks = false) (hret : meth.sig.returnType = some .long) (hd : decode c.code pc = .ok (.lreturn, 1)) (hc : cells ≤ rm.cells) (hs : slots ≤ rm.slots) (q : Q (some (.long z)) h) :
    Gets p.tables e below (Post s Z EL rm h0 ws Q) T (mkF m pc Ls (.long z :: st)) :=
  w_end W hh hl (fun q => by rw [hret] at q; cases q) (fun X hr => retOut X hx hret rfl (Or.inr (Or.inl ⟨rfl, rfl, z, rfl⟩)) hd hr) hc hs q
theorem w_retA {rm : Room} {h0 : Heap} {Q : Option Value → Heap → Prop} {w : Value} {t : FieldType} (W : Wk p l e R s m args below meth c Z EL own ws nw T h cells slots) (hx : p.tables.exec = Jvm.exec) (hh : s.heap = h0) (hl : meth.locks = false) (hret : meth.sig.returnType = some t) (ht : t.isReference = true) (hw : w.isRef = true) (hd : decode c.code pc = .ok (.areturn, 1)) (hc : cells ≤ rm.cells) (hs : slots ≤ rm.slots) (q : Q (some w) h) :
    Gets p.tables e below (Post s Z EL rm h0 ws Q) T (mkF m pc Ls (w :: st)) :=
  w_end W hh hl (fun q => by rw [hret] at q; cases q) (fun X hr => retOut X hx hret (by cases t <;> cases w <;> simp [FieldType.isReference, Value.isRef, narrow] at ht hw ⊢) (Or.inr (Or.inr (Or.inr (Or.inr ⟨rfl, ht, hw⟩)))) hd hr) hc hs q
theorem w_retV {rm : Room} {h0 : Heap} {Q : Option Value → Heap → Prop} (W : Wk p l e R s m args below meth c Z EL own ws nw T h cells slots) (hx : p.tables.exec = Jvm.exec) (hh : s.heap = h0) (hl : meth.locks = false) (hret : meth.sig.returnType = none) (hd : decode c.code pc = .ok (.return_, 1)) (hc : cells ≤ rm.cells) (hs : slots ≤ rm.slots) (q : Q none h) :
    Gets p.tables e below (Post s Z EL rm h0 ws Q) T (mkF m pc Ls []) :=
  w_end W hh hl (fun _ => rfl) (fun X hr => X.returnOut hx hret hd hr) hc hs q
/-! steps that leave the heap as it is -/
theorem w_get (W : Wk p l e R s m args below meth c Z EL own ws nw T h cells slots) (hx : p.tables.exec = Jvm.exec) {R0 O n d : String} {index : Nat} (w : (Cond.fieldLink own index R0 n d).before a0 Z = true) (via : Via Z R0 O n d) {a : Nat} {v : Value} (F : Fld Z h a O n d v) (hd : decode c.code pc = .ok (.getfield index, 3)) (hp : pc + 3 = pc')
    (k : ∀ T', Wk p l e R s m args below meth c Z EL own ws nw T' h cells slots → Gets p.tables e below P T' (mkF m pc' Ls (v :: st))) : Gets p.tables e below P T (mkF m pc Ls (.ref a :: st)) := by
  subst hp
  obtain ⟨locs, X, eT, hZ, hown, r⟩ := W
  obtain ⟨T', X', e', stp⟩ := getF X hx hZ hown (host := "") (Or.inl w) via eT F (g := mkF m pc Ls (.ref a :: st)) rfl rfl hd
  exact (k T' ⟨locs, X', e', hZ, hown, r⟩).by stp
theorem w_getS (W : Wk p l e R s m args below meth c Z EL own ws nw T h cells slots) (hx : p.tables.exec = Jvm.exec) {R0 O n d : String} {index : Nat} (w : (Cond.fieldLink own index R0 n d).before a0 Z = true) (via : Via Z R0 O n d) {v : Value} (F : Sta Z Z.heap O n d v) (hd : decode c.code pc = .ok (.getstatic index, 3)) (hp : pc + 3 = pc')
    (k : ∀ T', Wk p l e R s m args below meth c Z EL own ws nw T' h cells slots → Gets p.tables e below P T' (mkF m pc' Ls (v :: st))) : Gets p.tables e below P T (mkF m pc Ls st) := by
  subst hp
  have O := W.old
  obtain ⟨locs, X, eT, hZ, hown, r⟩ := W
  obtain ⟨T', X', e', stp⟩ := getS X hx hZ hown (host := "") w via eT (F.ext O) (g := mkF m pc Ls st) rfl hd
  exact (k T' ⟨locs, X', e', hZ, hown, r⟩).by stp
theorem w_ldcI (W : Wk p l e R s m args below meth c Z EL own ws nw T h cells slots) (hx : p.tables.exec = Jvm.exec) {index : Nat} {v : Int32} (w : (Cond.constant own index v).before a0 Z = true) (hd : decode c.code pc = .ok (.ldc index, 2)) (hp : pc + 2 = pc')
    (k : Gets p.tables e below P T (mkF m pc' Ls (.int v :: st))) : Gets p.tables e below P T (mkF m pc Ls st) := by
  subst hp
  obtain ⟨locs, X, eT, hZ, hown, r⟩ := W
  exact k.by fun t q => Jvm.Stand.ldcI X hx hown (mv hZ w) (g := mkF m pc Ls st) rfl hd q
theorem w_ldc2J (W : Wk p l e R s m args below meth c Z EL own ws nw T h cells slots) (hx : p.tables.exec = Jvm.exec) {index : Nat} {v : Int64} (w : (Cond.constantLong own index v).before a0 Z = true) (hd : decode c.code pc = .ok (.ldc2_w index, 3)) (hp : pc + 3 = pc')
    (k : Gets p.tables e below P T (mkF m pc' Ls (.long v :: st))) : Gets p.tables e below P T (mkF m pc Ls st) := by
  subst hp
  obtain ⟨locs, X, eT, hZ, hown, r⟩ := W
  exact k.by fun t q => Jvm.Stand.ldc2J X hx hown (mv hZ w) (g := mkF m pc Ls st) rfl hd q
theorem w_acmp (W : Wk p l e R s m args below meth c Z EL own ws nw T h cells slots) (hx : p.tables.exec = Jvm.exec) {cd : ACond} {x y : Value} {o : Int} (h1 : x.isRef = true) (h2 : y.isRef = true) (same : Bool) (hd : decode c.code pc = .ok (.if_acmp cd o, 3)) (hq : decide (x = y) = same) (ho : 0 ≤ (pc : Int) + o) (hp : pc' = if acV cd same = true then ((pc : Int) + o).toNat else pc + 3)
    (k : Gets p.tables e below P T (mkF m pc' Ls st)) : Gets p.tables e below P T (mkF m pc Ls (y :: x :: st)) := by
  obtain ⟨locs, X, r⟩ := W
  exact k.by fun t q => Jvm.RoadKit.acmp (g := mkF m pc Ls (y :: x :: st)) X hx rfl h1 h2 (pc0 := pc) (pc' := pc') rfl hd rfl hq ho hp q
theorem w_cast (W : Wk p l e R s m args below meth c Z EL own ws nw T h cells slots) (hx : p.tables.exec = Jvm.exec) {K : String} {index : Nat} (w : (Cond.classLink own index K).before a0 Z = true) {a : Nat} (F : Ins Z h a K true) (hd : decode c.code pc = .ok (.checkcast index, 3)) (hp : pc + 3 = pc')
    (k : ∀ T', Wk p l e R s m args below meth c Z EL own ws nw T' h cells slots → Gets p.tables e below P T' (mkF m pc' Ls (.ref a :: st))) : Gets p.tables e below P T (mkF m pc Ls (.ref a :: st)) := by
  subst hp
  obtain ⟨locs, X, eT, hZ, hown, r⟩ := W
  obtain ⟨T', X', e', stp⟩ := castY X hx hZ hown w eT F (g := mkF m pc Ls (.ref a :: st)) rfl rfl hd
  exact (k T' ⟨locs, X', e', hZ, hown, r⟩).by stp
theorem w_inst (W : Wk p l e R s m args below meth c Z EL own ws nw T h cells slots) (hx : p.tables.exec = Jvm.exec) {K : String} {index : Nat} (w : (Cond.classLink own index K).before a0 Z = true) {a : Nat} (F : Ins Z h a K true) (hd : decode c.code pc = .ok (.instanceof index, 3)) (hp : pc + 3 = pc')
    (k : ∀ T', Wk p l e R s m args below meth c Z EL own ws nw T' h cells slots → Gets p.tables e below P T' (mkF m pc' Ls (.int 1 :: st))) : Gets p.tables e below P T (mkF m pc Ls (.ref a :: st)) := by
  subst hp
  obtain ⟨locs, X, eT, hZ, hown, r⟩ := W
  obtain ⟨T', X', e', stp⟩ := instY X hx hZ hown w eT F (g := mkF m pc Ls (.ref a :: st)) rfl rfl hd
  exact (k T' ⟨locs, X', e', hZ, hown, r⟩).by stp
theorem w_len (W : Wk p l e R s m args below meth c Z EL own ws nw T h cells slots) (hx : p.tables.exec = Jvm.exec) {a : Nat} {ty : FieldType} {vs : List Value} (F : Ary Z h a ty vs) (hd : decode c.code pc = .ok (.arraylength, 1)) (hp : pc + 1 = pc')
    (k : Gets p.tables e below P T (mkF m pc' Ls (.int vs.length.toInt32 :: st))) : Gets p.tables e below P T (mkF m pc Ls (.ref a :: st)) := by
  subst hp
  obtain ⟨locs, X, eT, hZ, hown, r⟩ := W
  obtain ⟨cl, A, e1, -, -⟩ := F
  refine k.by fun t q => X.arraylength hx (by rw [eT]; exact A.1) (State.isArrayOf_alike hZ.alike A.2.1) (g := mkF m pc Ls (.ref a :: st)) rfl rfl hd t ?_
  rw [size_of_list e1]; exact q
theorem in_of {cl : Cell} {vs : List Value} {j : Int32} {v : Value} (e : cl.slots.toList = vs) (hj : ¬ j < 0) (hv : vs[j.toNatClampNeg]? = some v) : ¬ (j < 0 ∨ cl.slots.size ≤ j.toNatClampNeg) ∧ cl.slots[j.toNatClampNeg]? = some v := by
  refine ⟨fun q => q.elim hj fun q => ?_, by rw [at_of_list e]; exact hv⟩
  have := (List.getElem?_eq_some_iff.mp hv).1
  rw [size_of_list e] at q; omega
theorem w_caload (W : Wk p l e R s m args below meth c Z EL own ws nw T h cells slots) (hx : p.tables.exec = Jvm.exec) {a : Nat} {vs : List Value} {j : Int32} {v : Value} (F : Ary Z h a .char vs) (hj : ¬ j < 0) (hv : vs[j.toNatClampNeg]? = some v) (hd : decode c.code pc = .ok (.caload, 1)) (hp : pc + 1 = pc')
    (k : Gets p.tables e below P T (mkF m pc' Ls (v :: st))) : Gets p.tables e below P T (mkF m pc Ls (.int j :: .ref a :: st)) := by
  subst hp
  obtain ⟨locs, X, eT, hZ, hown, r⟩ := W
  obtain ⟨cl, A, e1, -, -⟩ := F
  obtain ⟨q1, q2⟩ := in_of e1 hj hv
  exact k.by fun t q => X.caload hx (by rw [eT]; exact A.1) (State.isArrayOf_alike hZ.alike A.2.1) A.2.2 q1 q2 (g := mkF m pc Ls (.int j :: .ref a :: st)) rfl rfl hd t q
theorem w_baload (W : Wk p l e R s m args below meth c Z EL own ws nw T h cells slots) (hx : p.tables.exec = Jvm.exec) {a : Nat} {vs : List Value} {j : Int32} {v : Value} (F : Ary Z h a .byte vs) (hj : ¬ j < 0) (hv : vs[j.toNatClampNeg]? = some v) (hd : decode c.code pc = .ok (.baload, 1)) (hp : pc + 1 = pc')
    (k : Gets p.tables e below P T (mkF m pc' Ls (v :: st))) : Gets p.tables e below P T (mkF m pc Ls (.int j :: .ref a :: st)) := by
  subst hp
  obtain ⟨locs, X, eT, hZ, hown, r⟩ := W
  obtain ⟨cl, A, e1, -, -⟩ := F
  obtain ⟨q1, q2⟩ := in_of e1 hj hv
  exact k.by fun t q => X.baloadBytes hx (by rw [eT]; exact A.1) (State.isArrayOf_alike hZ.alike A.2.1) A.2.2 q1 q2 (g := mkF m pc Ls (.int j :: .ref a :: st)) rfl rfl hd t q
theorem w_iaload (W : Wk p l e R s m args below meth c Z EL own ws nw T h cells slots) (hx : p.tables.exec = Jvm.exec) {a : Nat} {vs : List Value} {j : Int32} {v : Value} (F : Ary Z h a .int vs) (hj : ¬ j < 0) (hv : vs[j.toNatClampNeg]? = some v) (hd : decode c.code pc = .ok (.iaload, 1)) (hp : pc + 1 = pc')
    (k : Gets p.tables e below P T (mkF m pc' Ls (v :: st))) : Gets p.tables e below P T (mkF m pc Ls (.int j :: .ref a :: st)) := by
  subst hp
  obtain ⟨locs, X, eT, hZ, hown, r⟩ := W
  obtain ⟨cl, A, e1, -, -⟩ := F
  obtain ⟨q1, q2⟩ := in_of e1 hj hv
  exact k.by fun t q => X.iaload hx (by rw [eT]; exact A.1) (State.isArrayOf_alike hZ.alike A.2.1) A.2.2 q1 q2 (g := mkF m pc Ls (.int j :: .ref a :: st)) rfl rfl hd t q
theorem w_aaload (W : Wk p l e R s m args below meth c Z EL own ws nw T h cells slots) (hx : p.tables.exec = Jvm.exec) {a : Nat} {ty : FieldType} {vs : List Value} {j : Int32} {v : Value} (F : Ary Z h a ty vs) (hty : ty.isReference = true) (hj : ¬ j < 0) (hv : vs[j.toNatClampNeg]? = some v) (hd : decode c.code pc = .ok (.aaload, 1)) (hp : pc + 1 = pc')
    (k : Gets p.tables e below P T (mkF m pc' Ls (v :: st))) : Gets p.tables e below P T (mkF m pc Ls (.int j :: .ref a :: st)) := by
  subst hp
  obtain ⟨locs, X, eT, hZ, hown, r⟩ := W
  obtain ⟨cl, A, e1, -, -⟩ := F
  obtain ⟨q1, q2⟩ := in_of e1 hj hv
  exact k.by fun t q => X.aaload hx (by rw [eT]; exact A.1) (State.isArrayOf_alike hZ.alike A.2.1) hty A.2.2 q1 q2 (g := mkF m pc Ls (.int j :: .ref a :: st)) rfl rfl hd t q
theorem w_aaloadA (W : Wk p l e R s m args below meth c Z EL own ws nw T h cells slots) (hx : p.tables.exec = Jvm.exec) {a : Nat} {ty : FieldType} {cl : Cell} {j : Int32} {v : Value} (A : Arr Z h a cl ty) (hty : ty.isReference = true) (hin : ¬ (j < 0 ∨ cl.slots.size ≤ j.toNatClampNeg)) (hv : cl.slots[j.toNatClampNeg]? = some v) (hd : decode c.code pc = .ok (.aaload, 1)) (hp : pc + 1 = pc')
    (k : Gets p.tables e below P T (mkF m pc' Ls (v :: st))) : Gets p.tables e below P T (mkF m pc Ls (.int j :: .ref a :: st)) := by
  subst hp
  obtain ⟨locs, X, eT, hZ, hown, r⟩ := W
  exact k.by fun t q => X.aaload hx (by rw [eT]; exact A.1) (State.isArrayOf_alike hZ.alike A.2.1) hty A.2.2 hin hv (g := mkF m pc Ls (.int j :: .ref a :: st)) rfl rfl hd t q
theorem w_initO (W : Wk p l e R s m args below meth c Z EL own ws nw T h cells slots) (hx : p.tables.exec = Jvm.exec) {idx : Nat} (w1 : (Cond.methodLink own idx Lib.objectInit).before a0 Z = true) (w2 : (Cond.instanceMethod Lib.objectInit).before a0 Z = true) (w3 : (Cond.code Lib.objectInit ⟨#[0xb1]⟩ 1 none).before a0 Z = true) {a : Nat} (hsz : Ls.size = c.maxLocals) (hd : decode c.code pc = .ok (.invokespecial idx, 3)) (hf : 1 ≤ R.frames) (hW : (st.map fun v => v.category).sum + 12 ≤ R.locals) (hp : pc + 3 = pc')
    (k : ∀ T', Wk p l e R s m args below meth c Z EL own ws nw T' h cells slots → Gets p.tables e below P T' (mkF m pc' Ls st)) : Gets p.tables e below P T (mkF m pc Ls (.ref a :: st)) := by
  subst hp
  obtain ⟨locs, X, eT, hZ, hown, r⟩ := W
  obtain ⟨T', X', e', stp⟩ := initO X hx hZ hown w1 w2 w3 eT (g := mkF m pc Ls (.ref a :: st)) rfl hsz rfl hd hf (W := (st.map fun v => v.category).sum) (by show 2 * 0 + _ ≤ _; omega) hW
  exact (k T' ⟨locs, X', e', hZ, hown, r⟩).by stp
/-! steps that move the heap -/
theorem w_new (W : Wk p l e R s m args below meth c Z EL own ws nw T h cells slots) (hx : p.tables.exec = Jvm.exec) {C : String} {index n : Nat} (w : (Cond.classLink own index C).before a0 Z = true) (wi : (Cond.instantiable C n).before a0 Z = true) (wz : (Cond.initialized C).before a0 Z = true) (hd : decode c.code pc = .ok (.new index, 3)) (hc : cells + 1 ≤ R.cells) (hl : slots + n ≤ R.slots) (hp : pc + 3 = pc')
    (k : ∀ (T' : State) (h' : Heap) (b : Nat), b = h.size → Wk p l e R s m args below meth c Z EL own ws (b :: nw) T' h' (cells + 1) (slots + n) → Keep h h' [] → Exa Z h' b C → (∀ {O nm d : String} {ty : FieldType}, Laid Z a0 C O nm d → parseFieldDescriptor d = some ty → Fld Z h' b O nm d (defaultValue ty)) → Gets p.tables e below P T' (mkF m pc' Ls (.ref b :: st))) : Gets p.tables e below P T (mkF m pc Ls st) := by
  subst hp
  obtain ⟨locs, X, eT, hZ, hown, hF, hO, hK, n1, n2⟩ := W
  obtain ⟨T', h', X', e', E, A, D, -, stp⟩ := newO X hx hZ hown w wi wz eT (g := mkF m pc Ls st) rfl hd hc hl
  have hn : h.size < h'.size := A.lt
  have hs : s.heap.size ≤ h.size := hK.1
  refine (k T' h' h.size rfl ⟨locs, X', e', hZ, hown, hF, ⟨Nat.le_trans hO.1 E.1, fun a c q => E.2 a c (hO.2 a c q)⟩, hK.ext E, fun x hx => ?_, fun x hx => ?_⟩ ((Keep.refl h []).ext E) A D).by stp
  · obtain ⟨a, b⟩ := n1 x hx
    exact ⟨a, Nat.lt_of_lt_of_le b E.1⟩
  · rcases List.mem_cons.mp hx with rfl | hx
    · exact ⟨hs, hO.1, hn⟩
    · obtain ⟨a, b, c⟩ := n2 x hx
      exact ⟨a, b, Nat.lt_of_lt_of_le c E.1⟩
theorem w_newarr (W : Wk p l e R s m args below meth c Z EL own ws nw T h cells slots) (hx : p.tables.exec = Jvm.exec) {aty : ArrayType} (w : (Cond.arrayClass (newarray.typeOf aty)).before a0 Z = true) {n : Int32} (hd : decode c.code pc = .ok (.newarray aty, 2)) (hn : ¬ n < 0) {cap : Nat} (hcap : n.toNatClampNeg ≤ cap) (hb : cap * 8 ≤ 536870912) (hc : cells + 1 ≤ R.cells) (hl : slots + cap ≤ R.slots) (hf : fits (newarray.typeOf aty) (defaultValue (newarray.typeOf aty)) = true) (hp : pc + 2 = pc')
    (k : ∀ (T' : State) (h' : Heap) (b : Nat), b = h.size → Wk p l e R s m args below meth c Z EL own ws (b :: nw) T' h' (cells + 1) (slots + cap) → Keep h h' [] → Ary Z h' b (newarray.typeOf aty) (List.replicate n.toNatClampNeg (defaultValue (newarray.typeOf aty))) → Gets p.tables e below P T' (mkF m pc' Ls (.ref b :: st))) : Gets p.tables e below P T (mkF m pc Ls (.int n :: st)) := by
  subst hp
  obtain ⟨locs, X, eT, hZ, hown, hF, hO, hK, n1, n2⟩ := W
  obtain ⟨T', h', cA, X', e', E, A, stp⟩ := newP X hx hZ w eT (g := mkF m pc Ls (.int n :: st)) rfl hd rfl hn hcap hb hc hl
  have hn' : h.size < h'.size := A.lt
  have hs : s.heap.size ≤ h.size := hK.1
  refine (k T' h' h.size rfl ⟨locs, X', e', hZ, hown, hF, ⟨Nat.le_trans hO.1 E.1, fun a c q => E.2 a c (hO.2 a c q)⟩, hK.ext E, fun x hx => ?_, fun x hx => ?_⟩ ((Keep.refl h []).ext E) (Ary.made A hn hf)).by stp
  · obtain ⟨a, b⟩ := n1 x hx
    exact ⟨a, Nat.lt_of_lt_of_le b E.1⟩
  · rcases List.mem_cons.mp hx with rfl | hx
    · exact ⟨hs, hO.1, hn'⟩
    · obtain ⟨a, b, c⟩ := n2 x hx
      exact ⟨a, b, Nat.lt_of_lt_of_le c E.1⟩
theorem Wk.wrote {locs : List Loc} {T' : State} {h' : Heap} {a : Nat} {sl : Nat} {v : Value} (ha : a ∈ ws ++ nw) (WW : Wr h h' a sl v) (X' : Stand p l e R s m args below meth c T' (locs ++ [⟨a, sl⟩]) cells slots) (e' : T'.heap = h')
    (r : Z.Warmed39 s.vm ∧ s.vm.findClass own = some m.cls ∧ Fr Z.heap.size locs ∧ Ext Z.heap h ∧ Keep s.heap h ws ∧ (∀ x : Nat, x ∈ ws → Z.heap.size ≤ x ∧ x < h.size) ∧ (∀ x : Nat, x ∈ nw → s.heap.size ≤ x ∧ Z.heap.size ≤ x ∧ x < h.size)) :
    Wk p l e R s m args below meth c Z EL own ws nw T' h' cells slots := by
  obtain ⟨hZ, hown, hF, hO, hK, n1, n2⟩ := r
  have sz := WW.size
  have key : Z.heap.size ≤ a ∧ (a ∈ ws ∨ s.heap.size ≤ a) := by
    rcases List.mem_append.mp ha with q | q
    · exact ⟨(n1 a q).1, Or.inl q⟩
    · exact ⟨(n2 a q).2.1, Or.inr (n2 a q).1⟩
  have K1 : Keep h h' [a] := Keep.of_wr WW
  refine ⟨locs ++ [⟨a, sl⟩], X', e', hZ, hown, Fr.snoc X' hF key.1, ⟨by have := hO.1; omega, fun x cc q => K1.2.1 x cc (hO.2 x cc q) fun z => ?_⟩, hK.wr WW key.2, fun x hx => ?_, fun x hx => ?_⟩
  · cases List.mem_singleton.mp z
    have := (Array.getElem?_eq_some_iff.mp q).1
    omega
  · obtain ⟨q1, q2⟩ := n1 x hx
    exact ⟨q1, by omega⟩
  · obtain ⟨q1, q2, q3⟩ := n2 x hx
    exact ⟨q1, q2, by omega⟩
theorem w_put (W : Wk p l e R s m args below meth c Z EL own ws nw T h cells slots) (hx : p.tables.exec = Jvm.exec) {R0 O n d C : String} {index kk : Nat} {ty : FieldType} (w : (Cond.fieldLink own index R0 n d).before a0 Z = true) (via : Via Z R0 O n d) {a : Nat} {v old : Value} (F : Fld Z h a O n d old) (E : Exa Z h a C) (L : (Cond.lays C O n d).before a0 Z = true ∨ ((Cond.laysFinal C O n d).before a0 Z = true ∧ own = O ∧ meth.name = "<init>")) (wi : (Cond.instantiable C kk).before a0 Z = true)
    (hty : parseFieldDescriptor d = some ty) (hn : narrow ty v = v) (hf : fits ty v = true) (ha : a ∈ ws ++ nw) (hd : decode c.code pc = .ok (.putfield index, 3)) (hp : pc + 3 = pc')
    (k : ∀ T' h', Wk p l e R s m args below meth c Z EL own ws nw T' h' cells slots → Keep h h' [a] → Wr h h' a (Jvm.RoadKit.slotOf Z O n d) v → Fld Z h' a O n d v → Exa Z h' a C → Gets p.tables e below P T' (mkF m pc' Ls st)) : Gets p.tables e below P T (mkF m pc Ls (v :: .ref a :: st)) := by
  subst hp
  obtain ⟨locs, X, eT, r⟩ := W
  obtain ⟨T', h', X', e', WW, stp⟩ := putF X hx r.1 r.2.1 (host := "") (Or.inl w) via eT F E L wi hty hn hf (g := mkF m pc Ls (v :: .ref a :: st)) rfl rfl hd
  exact (k T' h' (Wk.wrote ha WW X' e' r) (Keep.of_wr WW) WW (F.same WW) (E.wr WW)).by stp
theorem w_putN (W : Wk p l e R s m args below meth c Z EL own ws nw T h cells slots) (hx : p.tables.exec = Jvm.exec) {R0 O n d C : String} {index kk : Nat} {ty : FieldType} (w : (Cond.fieldLink own index R0 n d).before a0 Z = true) (via : Via Z R0 O n d) {a : Nat} {v v' old : Value} (F : Fld Z h a O n d old) (E : Exa Z h a C) (L : (Cond.lays C O n d).before a0 Z = true ∨ ((Cond.laysFinal C O n d).before a0 Z = true ∧ own = O ∧ meth.name = "<init>")) (wi : (Cond.instantiable C kk).before a0 Z = true)
    (hty : parseFieldDescriptor d = some ty) (hn : narrow ty v = v') (hf : fits ty v' = true) (ha : a ∈ ws ++ nw) (hd : decode c.code pc = .ok (.putfield index, 3)) (hp : pc + 3 = pc')
    (k : ∀ T' h', Wk p l e R s m args below meth c Z EL own ws nw T' h' cells slots → Keep h h' [a] → Wr h h' a (Jvm.RoadKit.slotOf Z O n d) v' → Fld Z h' a O n d v' → Exa Z h' a C → Gets p.tables e below P T' (mkF m pc' Ls st)) : Gets p.tables e below P T (mkF m pc Ls (v :: .ref a :: st)) := by
  subst hp
  obtain ⟨locs, X, eT, r⟩ := W
  obtain ⟨T', h', X', e', WW, stp⟩ := putFN X hx r.1 r.2.1 w via eT F E L wi hty hn hf (g := mkF m pc Ls (v :: .ref a :: st)) rfl rfl hd
  exact (k T' h' (Wk.wrote ha WW X' e' r) (Keep.of_wr WW) WW (F.same WW) (E.wr WW)).by stp
theorem w_castore (W : Wk p l e R s m args below meth c Z EL own ws nw T h cells slots) (hx : p.tables.exec = Jvm.exec) {a : Nat} {vs : List Value} {j x : Int32} (F : Ary Z h a .char vs) (hj : ¬ j < 0) (hi : j.toNatClampNeg < vs.length) (ha : a ∈ ws ++ nw) {x' : Int32} (hq : nar .char x = x') (hd : decode c.code pc = .ok (.castore, 1)) (hp : pc + 1 = pc')
    (k : ∀ T' h', Wk p l e R s m args below meth c Z EL own ws nw T' h' cells slots → Keep h h' [a] → Ary Z h' a .char (vs.set j.toNatClampNeg (.int x')) → Gets p.tables e below P T' (mkF m pc' Ls st)) : Gets p.tables e below P T (mkF m pc Ls (.int x :: .int j :: .ref a :: st)) := by
  subst hp; subst hq
  obtain ⟨locs, X, eT, r⟩ := W
  obtain ⟨cl, A, e1, e2, e3⟩ := F
  obtain ⟨T', h', X', e', WW, stp⟩ := stC X hx r.1 eT A (j := j) (x := x) (fun q => q.elim hj fun q => by rw [size_of_list e1] at q; omega) (g := mkF m pc Ls (.int x :: .int j :: .ref a :: st)) rfl rfl hd
  exact (k T' h' (Wk.wrote ha WW X' e' r) (Keep.of_wr WW) (Ary.wrote A e1 e2 e3 (fits_nar_char x) WW)).by stp
theorem w_bastore (W : Wk p l e R s m args below meth c Z EL own ws nw T h cells slots) (hx : p.tables.exec = Jvm.exec) {a : Nat} {vs : List Value} {j x : Int32} (F : Ary Z h a .byte vs) (hj : ¬ j < 0) (hi : j.toNatClampNeg < vs.length) (ha : a ∈ ws ++ nw) {x' : Int32} (hq : x.toInt8.toInt32 = x') (hd : decode c.code pc = .ok (.bastore, 1)) (hp : pc + 1 = pc')
    (k : ∀ T' h', Wk p l e R s m args below meth c Z EL own ws nw T' h' cells slots → Keep h h' [a] → Ary Z h' a .byte (vs.set j.toNatClampNeg (.int x')) → Gets p.tables e below P T' (mkF m pc' Ls st)) : Gets p.tables e below P T (mkF m pc Ls (.int x :: .int j :: .ref a :: st)) := by
  subst hp; subst hq
  obtain ⟨locs, X, eT, r⟩ := W
  obtain ⟨cl, A, e1, e2, e3⟩ := F
  obtain ⟨T', h', X', e', WW, stp⟩ := stB X hx r.1 eT A (j := j) (x := x) (fun q => q.elim hj fun q => by rw [size_of_list e1] at q; omega) (g := mkF m pc Ls (.int x :: .int j :: .ref a :: st)) rfl rfl hd
  exact (k T' h' (Wk.wrote ha WW X' e' r) (Keep.of_wr WW) (Ary.wrote A e1 e2 e3 (fits_nar_byte x) WW)).by stp
theorem w_iastore (W : Wk p l e R s m args below meth c Z EL own ws nw T h cells slots) (hx : p.tables.exec = Jvm.exec) {a : Nat} {vs : List Value} {j x : Int32} (F : Ary Z h a .int vs) (hj : ¬ j < 0) (hi : j.toNatClampNeg < vs.length) (ha : a ∈ ws ++ nw) (hd : decode c.code pc = .ok (.iastore, 1)) (hp : pc + 1 = pc')
    (k : ∀ T' h', Wk p l e R s m args below meth c Z EL own ws nw T' h' cells slots → Keep h h' [a] → Ary Z h' a .int (vs.set j.toNatClampNeg (.int x)) → Gets p.tables e below P T' (mkF m pc' Ls st)) : Gets p.tables e below P T (mkF m pc Ls (.int x :: .int j :: .ref a :: st)) := by
  subst hp
  obtain ⟨locs, X, eT, r⟩ := W
  obtain ⟨cl, A, e1, e2, e3⟩ := F
  obtain ⟨T', h', X', e', WW, stp⟩ := stI X hx r.1 eT A (j := j) (x := x) (fun q => q.elim hj fun q => by rw [size_of_list e1] at q; omega) (g := mkF m pc Ls (.int x :: .int j :: .ref a :: st)) rfl rfl hd
  exact (k T' h' (Wk.wrote ha WW X' e' r) (Keep.of_wr WW) (Ary.wrote A e1 e2 e3 rfl WW)).by stp
/-! calls -/
theorem backC {y : MethodName} {bytes : ByteArray} {maxL : Nat} {ret : Option FieldType} {rm : Room} {len W : Nat} {as' : Array Value} {Q : Option Value → Heap → Prop} {wsc : List Addr}
    (hM : Con l Z EL y bytes maxL ret rm as' h wsc Q) (hZ : Z.Warmed39 s.vm) (wc : (Cond.code y bytes maxL ret).before a0 Z = true) (wz : (Cond.initialized y.cls).before a0 Z = true) (hf : rm.frames + 1 ≤ R.frames) (hl : W + (maxL + 11) + rm.locals ≤ R.locals) :
    Back l R p e below s args y len W (fun A a => a = as' ∧ A.U.heap = h ∧ A.cells + rm.cells ≤ R.cells ∧ A.slots + rm.slots ≤ R.slots)
      (fun A _ v B => ∃ L, (Q v B.U.heap ∧ Fr Z.heap.size L ∧ Keep h B.U.heap wsc ∧ Ext Z.heap B.U.heap) ∧ B.locs = A.locs ++ L ∧ B.cells = A.cells + rm.cells ∧ B.slots = A.slots + rm.slots) :=
  backOf (Q := fun v h' L => Q v h' ∧ Fr Z.heap.size L ∧ Keep h h' wsc ∧ Ext Z.heap h') hM hZ wc wz hf hl
theorem Wk.called {locs L : List Loc} {T' : State} {h' : Heap} {wsc : List Addr} {c' s' : Nat} (hw : ∀ x ∈ wsc, x ∈ ws ++ nw) (X' : Stand p l e R s m args below meth c T' (locs ++ L) c' s') (e' : T'.heap = h') (F : Fr Z.heap.size L) (K : Keep h h' wsc) (O' : Ext Z.heap h')
    (r : Z.Warmed39 s.vm ∧ s.vm.findClass own = some m.cls ∧ Fr Z.heap.size locs ∧ Ext Z.heap h ∧ Keep s.heap h ws ∧ (∀ x : Nat, x ∈ ws → Z.heap.size ≤ x ∧ x < h.size) ∧ (∀ x : Nat, x ∈ nw → s.heap.size ≤ x ∧ Z.heap.size ≤ x ∧ x < h.size)) :
    Wk p l e R s m args below meth c Z EL own ws nw T' h' c' s' := by
  obtain ⟨hZ, hown, hF, hO, hK, n1, n2⟩ := r
  have sz := K.1
  refine ⟨locs ++ L, X', e', hZ, hown, Fr.app hF F, O', hK.trans K (fun x hx => ?_), fun x hx => ?_, fun x hx => ?_⟩
  · rcases List.mem_append.mp (hw x hx) with q | q
    · exact Or.inl q
    · exact Or.inr (n2 x q).1
  · obtain ⟨q1, q2⟩ := n1 x hx
    exact ⟨q1, by omega⟩
  · obtain ⟨q1, q2, q3⟩ := n2 x hx
    exact ⟨q1, q2, by omega⟩
theorem w_callS (W : Wk p l e R s m args below meth c Z EL own ws nw T h cells slots) (hx : p.tables.exec = Jvm.exec) {index : Nat} {y : MethodName} {bytes : ByteArray} {maxL : Nat} {ret : Option FieldType} {rm : Room} {Q : Option Value → Heap → Prop} {wsc : List Addr} (argsL : List Value)
    (w1 : (Cond.methodLink own index y).before a0 Z = true) (w2 : (Cond.static y).before a0 Z = true) (w3 : (Cond.initialized y.cls).before a0 Z = true) (w4 : (Cond.code y bytes maxL ret).before a0 Z = true) (hy : y.cls ≠ "java/lang/invoke/MethodHandle" ∧ y.cls ≠ "java/lang/invoke/VarHandle")
    (H : Con l Z EL y bytes maxL ret rm argsL.toArray h wsc Q) (hwc : ∀ x ∈ wsc, x ∈ ws ++ nw) (hsz : Ls.size = c.maxLocals) (hlen : ∀ sig, parseMethodDescriptor y.desc = some sig → argsL.length = sig.parameters.length) {stk : List Value} (hstk : stk = argsL.reverse ++ st) (hd : decode c.code pc = .ok (.invokestatic index, 3))
    (hf : rm.frames + 1 ≤ R.frames) (hl : (st.map fun v => v.category).sum + (maxL + 11) + rm.locals ≤ R.locals) (hc : cells + rm.cells ≤ R.cells) (hs : slots + rm.slots ≤ R.slots) (hp : pc + 3 = pc')
    (k : ∀ v T' h', Wk p l e R s m args below meth c Z EL own ws nw T' h' (cells + rm.cells) (slots + rm.slots) → Keep h h' wsc → Q v h' → Gets p.tables e below P T' (mkF m pc' Ls (v.toList ++ st))) : Gets p.tables e below P T (mkF m pc Ls stk) := by
  subst hp
  obtain ⟨locs, X, eT, r⟩ := W
  obtain ⟨hZ, hown, hF, hO, hK, n1, n2⟩ := id r
  obtain ⟨v, vm1, ⟨T', L', c', s'⟩, -, X', ⟨L, ⟨q1, q2, q3, q4⟩, l1, l2, l3⟩, stp⟩ := Jvm.LawKit.callS X hx (y := y) hown (mv hZ w1) (mv hZ w2) (mv hZ w3) (mv hZ w4) hy (backC (W := (st.map fun v => v.category).sum) H hZ w4 w3 hf hl) (g := mkF m pc Ls stk) rfl hsz (argsL := argsL) (rest := st) hlen hstk (by show 2 * 0 + _ ≤ _; omega) hd (fun _ _ => ⟨rfl, eT, hc, hs⟩)
  dsimp only [Pt.U, Pt.locs, Pt.cells, Pt.slots] at X' q1 q3 q4 l1 l2 l3 stp
  subst l1 l2 l3
  exact (k v T' _ (Wk.called (h' := T'.heap) hwc X' rfl q2 q3 q4 r) q3 q1).by fun t q => stp t q
theorem w_special (W : Wk p l e R s m args below meth c Z EL own ws nw T h cells slots) (hx : p.tables.exec = Jvm.exec) {index : Nat} {y : MethodName} {bytes : ByteArray} {maxL : Nat} {rm : Room} {Q : Option Value → Heap → Prop} {wsc : List Addr} {a : Nat} (argsL : List Value) (hy1 : y.name = "<init>")
    (w1 : (Cond.methodLink own index y).before a0 Z = true) (w2 : (Cond.instanceMethod y).before a0 Z = true) (w3 : (Cond.initialized y.cls).before a0 Z = true) (w4 : (Cond.code y bytes maxL none).before a0 Z = true) (hy : y.cls ≠ "java/lang/invoke/MethodHandle" ∧ y.cls ≠ "java/lang/invoke/VarHandle")
    (H : Con l Z EL y bytes maxL none rm (.ref a :: argsL).toArray h wsc Q) (hwc : ∀ x ∈ wsc, x ∈ ws ++ nw) (hsz : Ls.size = c.maxLocals) (hlen : ∀ sig, parseMethodDescriptor y.desc = some sig → argsL.length = sig.parameters.length) {stk : List Value} (hstk : stk = argsL.reverse ++ .ref a :: st) (hd : decode c.code pc = .ok (.invokespecial index, 3))
    (hf : rm.frames + 1 ≤ R.frames) (hl : (st.map fun v => v.category).sum + (maxL + 11) + rm.locals ≤ R.locals) (hc : cells + rm.cells ≤ R.cells) (hs : slots + rm.slots ≤ R.slots) (hp : pc + 3 = pc')
    (k : ∀ v T' h', Wk p l e R s m args below meth c Z EL own ws nw T' h' (cells + rm.cells) (slots + rm.slots) → Keep h h' wsc → Q v h' → Gets p.tables e below P T' (mkF m pc' Ls (v.toList ++ st))) : Gets p.tables e below P T (mkF m pc Ls stk) := by
  subst hp
  obtain ⟨locs, X, eT, r⟩ := W
  obtain ⟨hZ, hown, hF, hO, hK, n1, n2⟩ := id r
  obtain ⟨v, vm1, ⟨T', L', c', s'⟩, -, X', ⟨L, ⟨q1, q2, q3, q4⟩, l1, l2, l3⟩, stp⟩ := X.specialBack hx (y := y) hy1 hown (mv hZ w1) (mv hZ w2) (mv hZ w4) hy (backC (W := (st.map fun v => v.category).sum) H hZ w4 w3 hf hl) (g := mkF m pc Ls stk) rfl hsz (Steps.refl _) (a := a) (argsL := argsL) (rest := st) hlen hstk (by show 2 * 0 + _ ≤ _; omega) hd (fun _ _ => ⟨rfl, eT, hc, hs⟩)
  dsimp only [Pt.U, Pt.locs, Pt.cells, Pt.slots] at X' q1 q3 q4 l1 l2 l3 stp
  subst l1 l2 l3
  exact (k v T' _ (Wk.called (h' := T'.heap) hwc X' rfl q2 q3 q4 r) q3 q1).by fun t q => stp.trans q
theorem w_virtual (W : Wk p l e R s m args below meth c Z EL own ws nw T h cells slots) (hx : p.tables.exec = Jvm.exec) {index : Nat} {y z : MethodName} {C : String} {bytes : ByteArray} {maxL : Nat} {ret : Option FieldType} {rm : Room} {Q : Option Value → Heap → Prop} {wsc : List Addr} {a : Nat} (argsL : List Value)
    (w1 : (Cond.methodLink own index y).before a0 Z = true) (w2 : (Cond.declares y).before a0 Z = true) (hnf : ∀ {U : State}, Z.Warmed39 U.vm → NotFace U y) (w3 : (Cond.selects C y z).before a0 Z = true) (w5 : (Cond.instanceMethod z).before a0 Z = true) (w6 : (Cond.initialized z.cls).before a0 Z = true) (w4 : (Cond.code z bytes maxL ret).before a0 Z = true) (hy : y.cls ≠ "java/lang/invoke/MethodHandle" ∧ y.cls ≠ "java/lang/invoke/VarHandle")
    (H : Con l Z EL z bytes maxL ret rm (.ref a :: argsL).toArray h wsc Q) (E : Exa Z h a C) (hwc : ∀ x ∈ wsc, x ∈ ws ++ nw) (hsz : Ls.size = c.maxLocals) (hlen : ∀ sig, parseMethodDescriptor y.desc = some sig → argsL.length = sig.parameters.length) {stk : List Value} (hstk : stk = argsL.reverse ++ .ref a :: st) (hd : decode c.code pc = .ok (.invokevirtual index, 3))
    (hf : rm.frames + 1 ≤ R.frames) (hl : (st.map fun v => v.category).sum + (maxL + 11) + rm.locals ≤ R.locals) (hc : cells + rm.cells ≤ R.cells) (hs : slots + rm.slots ≤ R.slots) (hp : pc + 3 = pc')
    (k : ∀ v T' h', Wk p l e R s m args below meth c Z EL own ws nw T' h' (cells + rm.cells) (slots + rm.slots) → Keep h h' wsc → Q v h' → Gets p.tables e below P T' (mkF m pc' Ls (v.toList ++ st))) : Gets p.tables e below P T (mkF m pc Ls stk) := by
  subst hp
  obtain ⟨locs, X, eT, r⟩ := W
  obtain ⟨hZ, hown, hF, hO, hK, n1, n2⟩ := id r
  obtain ⟨cq, kq, qa, qb, qc⟩ := isOf hZ eT E
  obtain ⟨v, vm1, ⟨T', L', c', s'⟩, -, X', ⟨L, ⟨q1, q2, q3, q4⟩, l1, l2, l3⟩, stp⟩ := X.virtualBack hx (y := y) (z := z) hown (mv hZ w1) (mv hZ w2) (hnf (U := s) hZ) (mv hZ w3) (mv hZ w5) hy (backC (W := (st.map fun v => v.category).sum) H hZ w4 w6 hf hl) qa qc (g := mkF m pc Ls stk) rfl hsz (Steps.refl _) (argsL := argsL) (rest := st) hlen hstk (by show 2 * 0 + _ ≤ _; omega) hd (fun _ _ => ⟨rfl, eT, hc, hs⟩)
  dsimp only [Pt.U, Pt.locs, Pt.cells, Pt.slots] at X' q1 q3 q4 l1 l2 l3 stp
  subst l1 l2 l3
  exact (k v T' _ (Wk.called (h' := T'.heap) hwc X' rfl q2 q3 q4 r) q3 q1).by fun t q => stp.trans q
theorem w_virtualUp (W : Wk p l e R s m args below meth c Z EL own ws nw T h cells slots) (hx : p.tables.exec = Jvm.exec) {index : Nat} {y z : MethodName} {C owner : String} {bytes : ByteArray} {maxL : Nat} {ret : Option FieldType} {rm : Room} {Q : Option Value → Heap → Prop} {wsc : List Addr} {a : Nat} (argsL : List Value)
    (w1 : (Cond.methodLink own index y).before a0 Z = true) (w7 : (Cond.sameMethod y.cls owner y.name y.desc).before a0 Z = true) (w2 : (Cond.declares ⟨owner, y.name, y.desc⟩).before a0 Z = true) (w3 : (Cond.selects C y z).before a0 Z = true) (w5 : (Cond.instanceMethod z).before a0 Z = true) (w6 : (Cond.initialized z.cls).before a0 Z = true) (w4 : (Cond.code z bytes maxL ret).before a0 Z = true) (hy : owner ≠ "java/lang/invoke/MethodHandle" ∧ owner ≠ "java/lang/invoke/VarHandle")
    (H : Con l Z EL z bytes maxL ret rm (.ref a :: argsL).toArray h wsc Q) (E : Exa Z h a C) (hwc : ∀ x ∈ wsc, x ∈ ws ++ nw) (hsz : Ls.size = c.maxLocals) (hlen : ∀ sig, parseMethodDescriptor y.desc = some sig → argsL.length = sig.parameters.length) {stk : List Value} (hstk : stk = argsL.reverse ++ .ref a :: st) (hd : decode c.code pc = .ok (.invokevirtual index, 3))
    (hf : rm.frames + 1 ≤ R.frames) (hl : (st.map fun v => v.category).sum + (maxL + 11) + rm.locals ≤ R.locals) (hc : cells + rm.cells ≤ R.cells) (hs : slots + rm.slots ≤ R.slots) (hp : pc + 3 = pc')
    (k : ∀ v T' h', Wk p l e R s m args below meth c Z EL own ws nw T' h' (cells + rm.cells) (slots + rm.slots) → Keep h h' wsc → Q v h' → Gets p.tables e below P T' (mkF m pc' Ls (v.toList ++ st))) : Gets p.tables e below P T (mkF m pc Ls stk) := by
  subst hp
  obtain ⟨locs, X, eT, r⟩ := W
  obtain ⟨hZ, hown, hF, hO, hK, n1, n2⟩ := id r
  obtain ⟨cq, kq, qa, qb, qc⟩ := isOf hZ eT E
  obtain ⟨v, vm1, ⟨T', L', c', s'⟩, -, X', ⟨L, ⟨q1, q2, q3, q4⟩, l1, l2, l3⟩, stp⟩ := X.virtualBackUp hx (x := y) (y := z) hown (mv hZ w1) (mv hZ w7) (mv hZ w2) hy (mv hZ w3) (mv hZ w5) (backC (W := (st.map fun v => v.category).sum) H hZ w4 w6 hf hl) qa qc (g := mkF m pc Ls stk) rfl hsz (Steps.refl _) (argsL := argsL) (rest := st) hlen hstk (by show 2 * 0 + _ ≤ _; omega) hd (fun _ _ => ⟨rfl, eT, hc, hs⟩)
  dsimp only [Pt.U, Pt.locs, Pt.cells, Pt.slots] at X' q1 q3 q4 l1 l2 l3 stp
  subst l1 l2 l3
  exact (k v T' _ (Wk.called (h' := T'.heap) hwc X' rfl q2 q3 q4 r) q3 q1).by fun t q => stp.trans q
theorem nfS {y z : MethodName} {C : String} (w : (Cond.selects C y y).before a0 Z = true) {U : State} (hZ : Z.Warmed39 U.vm) : NotFace U y := notFace_of_selects (args := #[]) (mv hZ w)
theorem w_iface (W : Wk p l e R s m args below meth c Z EL own ws nw T h cells slots) (hx : p.tables.exec = Jvm.exec) {index count : Nat} {y z : MethodName} {C : String} {bytes : ByteArray} {maxL : Nat} {ret : Option FieldType} {rm : Room} {Q : Option Value → Heap → Prop} {wsc : List Addr} {a : Nat} (argsL : List Value)
    (w1 : (Cond.methodLink own index y).before a0 Z = true) (w2 : (Cond.declares y).before a0 Z = true) (w7 : (Cond.interfaceMethod y.cls y.cls y.name y.desc).before a0 Z = true) (w3 : (Cond.selects C y z).before a0 Z = true) (w5 : (Cond.instanceMethod z).before a0 Z = true) (w8 : (Cond.publicMethod z).before a0 Z = true) (w9 : (Cond.unhidden C y.name y.desc).before a0 Z = true) (w10 : (Cond.castable C y.cls).before a0 Z = true) (w6 : (Cond.initialized z.cls).before a0 Z = true) (w4 : (Cond.code z bytes maxL ret).before a0 Z = true) (hy : y.cls ≠ "java/lang/invoke/MethodHandle" ∧ y.cls ≠ "java/lang/invoke/VarHandle")
    (H : Con l Z EL z bytes maxL ret rm (.ref a :: argsL).toArray h wsc Q) (E : Exa Z h a C) (hwc : ∀ x ∈ wsc, x ∈ ws ++ nw) (hsz : Ls.size = c.maxLocals) (hlen : ∀ sig, parseMethodDescriptor y.desc = some sig → argsL.length = sig.parameters.length) {stk : List Value} (hstk : stk = argsL.reverse ++ .ref a :: st) (hd : decode c.code pc = .ok (.invokeinterface index count, 5))
    (hf : rm.frames + 1 ≤ R.frames) (hl : (st.map fun v => v.category).sum + (maxL + 11) + rm.locals ≤ R.locals) (hc : cells + rm.cells ≤ R.cells) (hs : slots + rm.slots ≤ R.slots) (hp : pc + 5 = pc')
    (k : ∀ v T' h', Wk p l e R s m args below meth c Z EL own ws nw T' h' (cells + rm.cells) (slots + rm.slots) → Keep h h' wsc → Q v h' → Gets p.tables e below P T' (mkF m pc' Ls (v.toList ++ st))) : Gets p.tables e below P T (mkF m pc Ls stk) := by
  subst hp
  obtain ⟨locs, X, eT, r⟩ := W
  obtain ⟨hZ, hown, hF, hO, hK, n1, n2⟩ := id r
  obtain ⟨cq, kq, qa, qb, qc⟩ := isOf hZ eT E
  obtain ⟨v, vm1, ⟨T', L', c', s'⟩, -, X', ⟨L, ⟨q1, q2, q3, q4⟩, l1, l2, l3⟩, stp⟩ := X.interfaceBack hx (xi := y) (y := z) hown (mv hZ w1) (mv hZ w2) (mv hZ w7 (by simp [Cond.onTables, Cond.keepsFace, Cond.keeps, Cond.steady, Cond.faceAtom, hy.1, hy.2])) (mv hZ w3) (mv hZ w5) (mv hZ w8) (mv hZ w9) (mv hZ w10) hy (backC (W := (st.map fun v => v.category).sum) H hZ w4 w6 hf hl) qa qb qc (g := mkF m pc Ls stk) rfl hsz (Steps.refl _) (argsL := argsL) (rest := st) hlen hstk (by show 2 * 0 + _ ≤ _; omega) hd (fun _ _ => ⟨rfl, eT, hc, hs⟩)
  dsimp only [Pt.U, Pt.locs, Pt.cells, Pt.slots] at X' q1 q3 q4 l1 l2 l3 stp
  subst l1 l2 l3
  exact (k v T' _ (Wk.called (h' := T'.heap) hwc X' rfl q2 q3 q4 r) q3 q1).by fun t q => stp.trans q
end OwnWalk
section OwnPure
variable {p : Program} {l : Launch} {e : Env} {R : Room} {s : State} {m : MethodId} {args : Array Value} {below : List Frame} {meth : Method} {c : Code} {T : State} {Z : State} {a0 : Array Value} {h : Heap} {EL : List (String × Nat)} {own : String} {cells slots : Nat} {ws nw : List Addr} {P : Outcome → State → Prop} {pc pc' : Nat} {Ls : Array Slot} {st : List Value}
/-- it returns r and leaves the heap as it was -/
def pureQ (r : Option Value) (h : Heap) : Option Value → Heap → Prop := fun v h' => v = r ∧ h' = h
theorem w_callSp (W : Wk p l e R s m args below meth c Z EL own ws nw T h cells slots) (hx : p.tables.exec = Jvm.exec) {index : Nat} {y : MethodName} {bytes : ByteArray} {maxL : Nat} {ret : Option FieldType} {rm : Room} {r : Option Value} (argsL : List Value)
    (w1 : (Cond.methodLink own index y).before a0 Z = true) (w2 : (Cond.static y).before a0 Z = true) (w3 : (Cond.initialized y.cls).before a0 Z = true) (w4 : (Cond.code y bytes maxL ret).before a0 Z = true) (hy : y.cls ≠ "java/lang/invoke/MethodHandle" ∧ y.cls ≠ "java/lang/invoke/VarHandle")
    (H : Con l Z EL y bytes maxL ret rm argsL.toArray h [] (pureQ r h)) (hsz : Ls.size = c.maxLocals) (hlen : ∀ sig, parseMethodDescriptor y.desc = some sig → argsL.length = sig.parameters.length) {stk : List Value} (hstk : stk = argsL.reverse ++ st) (hd : decode c.code pc = .ok (.invokestatic index, 3))
    (hf : rm.frames + 1 ≤ R.frames) (hl : (st.map fun v => v.category).sum + (maxL + 11) + rm.locals ≤ R.locals) (hc : rm.cells = 0) (hs : rm.slots = 0) (hc' : cells ≤ R.cells) (hs' : slots ≤ R.slots) (hp : pc + 3 = pc')
    (k : ∀ T', Wk p l e R s m args below meth c Z EL own ws nw T' h cells slots → Gets p.tables e below P T' (mkF m pc' Ls (r.toList ++ st))) : Gets p.tables e below P T (mkF m pc Ls stk) :=
  w_callS W hx argsL w1 w2 w3 w4 hy H all0 hsz hlen hstk hd hf hl (by rw [hc]; exact hc') (by rw [hs]; exact hs') hp fun v T' h' W' K q => by
    obtain ⟨e1, e2⟩ := q
    subst e1; rw [e2] at W'; rw [hc, hs] at W'; exact k T' W'
theorem w_virtualp (W : Wk p l e R s m args below meth c Z EL own ws nw T h cells slots) (hx : p.tables.exec = Jvm.exec) {index : Nat} {y z : MethodName} {C : String} {bytes : ByteArray} {maxL : Nat} {ret : Option FieldType} {rm : Room} {r : Option Value} {a : Nat} (argsL : List Value)
    (w1 : (Cond.methodLink own index y).before a0 Z = true) (w2 : (Cond.declares y).before a0 Z = true) (hnf : ∀ {U : State}, Z.Warmed39 U.vm → NotFace U y) (w3 : (Cond.selects C y z).before a0 Z = true) (w5 : (Cond.instanceMethod z).before a0 Z = true) (w6 : (Cond.initialized z.cls).before a0 Z = true) (w4 : (Cond.code z bytes maxL ret).before a0 Z = true) (hy : y.cls ≠ "java/lang/invoke/MethodHandle" ∧ y.cls ≠ "java/lang/invoke/VarHandle")
    (H : Con l Z EL z bytes maxL ret rm (.ref a :: argsL).toArray h [] (pureQ r h)) (E : Exa Z h a C) (hsz : Ls.size = c.maxLocals) (hlen : ∀ sig, parseMethodDescriptor y.desc = some sig → argsL.length = sig.parameters.length) {stk : List Value} (hstk : stk = argsL.reverse ++ .ref a :: st) (hd : decode c.code pc = .ok (.invokevirtual index, 3))
    (hf : rm.frames + 1 ≤ R.frames) (hl : (st.map fun v => v.category).sum + (maxL + 11) + rm.locals ≤ R.locals) (hc : rm.cells = 0) (hs : rm.slots = 0) (hc' : cells ≤ R.cells) (hs' : slots ≤ R.slots) (hp : pc + 3 = pc')
    (k : ∀ T', Wk p l e R s m args below meth c Z EL own ws nw T' h cells slots → Gets p.tables e below P T' (mkF m pc' Ls (r.toList ++ st))) : Gets p.tables e below P T (mkF m pc Ls stk) :=
  w_virtual W hx argsL w1 w2 hnf w3 w5 w6 w4 hy H E all0 hsz hlen hstk hd hf hl (by rw [hc]; exact hc') (by rw [hs]; exact hs') hp fun v T' h' W' K q => by
    obtain ⟨e1, e2⟩ := q
    subst e1; rw [e2] at W'; rw [hc, hs] at W'; exact k T' W'
theorem w_virtualUpp (W : Wk p l e R s m args below meth c Z EL own ws nw T h cells slots) (hx : p.tables.exec = Jvm.exec) {index : Nat} {y z : MethodName} {C owner : String} {bytes : ByteArray} {maxL : Nat} {ret : Option FieldType} {rm : Room} {r : Option Value} {a : Nat} (argsL : List Value)
    (w1 : (Cond.methodLink own index y).before a0 Z = true) (w7 : (Cond.sameMethod y.cls owner y.name y.desc).before a0 Z = true) (w2 : (Cond.declares ⟨owner, y.name, y.desc⟩).before a0 Z = true) (w3 : (Cond.selects C y z).before a0 Z = true) (w5 : (Cond.instanceMethod z).before a0 Z = true) (w6 : (Cond.initialized z.cls).before a0 Z = true) (w4 : (Cond.code z bytes maxL ret).before a0 Z = true) (hy : owner ≠ "java/lang/invoke/MethodHandle" ∧ owner ≠ "java/lang/invoke/VarHandle")
    (H : Con l Z EL z bytes maxL ret rm (.ref a :: argsL).toArray h [] (pureQ r h)) (E : Exa Z h a C) (hsz : Ls.size = c.maxLocals) (hlen : ∀ sig, parseMethodDescriptor y.desc = some sig → argsL.length = sig.parameters.length) {stk : List Value} (hstk : stk = argsL.reverse ++ .ref a :: st) (hd : decode c.code pc = .ok (.invokevirtual index, 3))
    (hf : rm.frames + 1 ≤ R.frames) (hl : (st.map fun v => v.category).sum + (maxL + 11) + rm.locals ≤ R.locals) (hc : rm.cells = 0) (hs : rm.slots = 0) (hc' : cells ≤ R.cells) (hs' : slots ≤ R.slots) (hp : pc + 3 = pc')
    (k : ∀ T', Wk p l e R s m args below meth c Z EL own ws nw T' h cells slots → Gets p.tables e below P T' (mkF m pc' Ls (r.toList ++ st))) : Gets p.tables e below P T (mkF m pc Ls stk) :=
  w_virtualUp W hx argsL w1 w7 w2 w3 w5 w6 w4 hy H E all0 hsz hlen hstk hd hf hl (by rw [hc]; exact hc') (by rw [hs]; exact hs') hp fun v T' h' W' K q => by
    obtain ⟨e1, e2⟩ := q
    subst e1; rw [e2] at W'; rw [hc, hs] at W'; exact k T' W'
theorem w_ifacep (W : Wk p l e R s m args below meth c Z EL own ws nw T h cells slots) (hx : p.tables.exec = Jvm.exec) {index count : Nat} {y z : MethodName} {C : String} {bytes : ByteArray} {maxL : Nat} {ret : Option FieldType} {rm : Room} {r : Option Value} {a : Nat} (argsL : List Value)
    (w1 : (Cond.methodLink own index y).before a0 Z = true) (w2 : (Cond.declares y).before a0 Z = true) (w7 : (Cond.interfaceMethod y.cls y.cls y.name y.desc).before a0 Z = true) (w3 : (Cond.selects C y z).before a0 Z = true) (w5 : (Cond.instanceMethod z).before a0 Z = true) (w8 : (Cond.publicMethod z).before a0 Z = true) (w9 : (Cond.unhidden C y.name y.desc).before a0 Z = true) (w10 : (Cond.castable C y.cls).before a0 Z = true) (w6 : (Cond.initialized z.cls).before a0 Z = true) (w4 : (Cond.code z bytes maxL ret).before a0 Z = true) (hy : y.cls ≠ "java/lang/invoke/MethodHandle" ∧ y.cls ≠ "java/lang/invoke/VarHandle")
    (H : Con l Z EL z bytes maxL ret rm (.ref a :: argsL).toArray h [] (pureQ r h)) (E : Exa Z h a C) (hsz : Ls.size = c.maxLocals) (hlen : ∀ sig, parseMethodDescriptor y.desc = some sig → argsL.length = sig.parameters.length) {stk : List Value} (hstk : stk = argsL.reverse ++ .ref a :: st) (hd : decode c.code pc = .ok (.invokeinterface index count, 5))
    (hf : rm.frames + 1 ≤ R.frames) (hl : (st.map fun v => v.category).sum + (maxL + 11) + rm.locals ≤ R.locals) (hc : rm.cells = 0) (hs : rm.slots = 0) (hc' : cells ≤ R.cells) (hs' : slots ≤ R.slots) (hp : pc + 5 = pc')
    (k : ∀ T', Wk p l e R s m args below meth c Z EL own ws nw T' h cells slots → Gets p.tables e below P T' (mkF m pc' Ls (r.toList ++ st))) : Gets p.tables e below P T (mkF m pc Ls stk) :=
  w_iface W hx argsL w1 w2 w7 w3 w5 w8 w9 w10 w6 w4 hy H E all0 hsz hlen hstk hd hf hl (by rw [hc]; exact hc') (by rw [hs]; exact hs') hp fun v T' h' W' K q => by
    obtain ⟨e1, e2⟩ := q
    subst e1; rw [e2] at W'; rw [hc, hs] at W'; exact k T' W'
theorem g_name {tb : Tables} {v w : Value} (q : w = v) (k : Gets tb e below P T (mkF m pc Ls (w :: st))) : Gets tb e below P T (mkF m pc Ls (v :: st)) := q ▸ k
end OwnPure
section OwnFresh
variable {p : Program} {l : Launch} {e : Env} {R : Room} {s : State} {m : MethodId} {args : Array Value} {below : List Frame} {meth : Method} {c : Code} {T : State} {Z : State} {a0 : Array Value} {h : Heap} {EL : List (String × Nat)} {own : String} {cells slots : Nat} {ws nw : List Addr} {P : Outcome → State → Prop} {pc pc' : Nat} {Ls : Array Slot} {st : List Value}
def ConF (l : Launch) (Z : State) (EL : List (String × Nat)) (y : MethodName) (bytes : ByteArray) (maxL : Nat) (ret : Option FieldType) (rm : Room) (as' : Array Value) (h0 : Heap) (ws : List Addr) (Q : List Addr → Option Value → Heap → Prop) : Prop :=
  MetFree l y (head1 [Cond.code y bytes maxL ret] rm) (fun a U => a = as' ∧ Z.Warmed39 U.vm ∧ U.heap = h0) (fun _ _ _ _ _ => True)
    (fun _ U o U' => ∃ v L N, o = .returned v ∧ (Q N v U'.heap ∧ Fr Z.heap.size L ∧ Keep h0 U'.heap ws ∧ Ext Z.heap U'.heap ∧ ∀ x : Nat, x ∈ N → h0.size ≤ x ∧ x < U'.heap.size) ∧ FrameEnd U o U' L rm.cells rm.slots)
def PostF (s : State) (Z : State) (EL : List (String × Nat)) (rm : Room) (h0 : Heap) (ws : List Addr) (Q : List Addr → Option Value → Heap → Prop) (o : Outcome) (t : State) : Prop :=
  ∃ v L N, o = .returned v ∧ (Q N v t.heap ∧ Fr Z.heap.size L ∧ Keep h0 t.heap ws ∧ Ext Z.heap t.heap ∧ ∀ x : Nat, x ∈ N → h0.size ≤ x ∧ x < t.heap.size) ∧ FrameEnd s o t L rm.cells rm.slots
theorem ConF.of {y : MethodName} {bytes : ByteArray} {maxL : Nat} {ret : Option FieldType} {rm : Room} {as' : Array Value} {h0 : Heap} {Q : List Addr → Option Value → Heap → Prop} (Ls : Array Slot)
    (hy : plainFor y = true) (hE : EW Z a0 EL) (O : Ext Z.heap h0) (hws : ∀ x : Nat, x ∈ ws → Z.heap.size ≤ x ∧ x < h0.size) (hent : ∀ m, entryFrame m as' maxL = mkF m 0 Ls [])
    (body : ∀ (p : Program) (e : Env) (s : State) (m : MethodId) (below : List Frame) (meth : Method) (c : Code) (T : State), p.tables.exec = Jvm.exec → c.code = bytes → c.maxLocals = maxL → meth.name = y.name → meth.sig.returnType = ret → meth.locks = false → s.heap = h0 →
      Wk p l e rm s m as' below meth c Z EL y.cls ws [] T h0 0 0 → Gets p.tables e below (PostF s Z EL rm h0 ws Q) T (mkF m 0 Ls [])) :
    ConF l Z EL y bytes maxL ret rm as' h0 ws Q := by
  refine MetFree.of_bodySF hy hisR ?_
  intro p e s m args below meth c s₁ Bd hml0 hP hK
  obtain ⟨rfl, hZ, hh⟩ := hP
  have hh' : s.heap = h0 := hh
  have hl : meth.locks = false := Bd.notSynchronized
  have e0 : s₁.heap = h0 := by rw [← hh, Bd.state]; rfl
  have X0 : Stand p l e rm s m args below meth c s₁ [] 0 0 := Stand.of_body Bd
  have W : Wk p l e rm s m args below meth c Z EL y.cls ws [] s₁ h0 0 0 :=
    ⟨[], X0, e0, hZ, findClass_of_methodNamed Bd.named, Fr.nil _, O, by rw [hh']; exact Keep.refl _ _, fun x hx => ⟨(hws x hx).1, (hws x hx).2⟩, fun x hx => (nomatch hx)⟩
  obtain ⟨t, o, h1, h2, h3, h4⟩ := body p e s m below meth c s₁ Bd.exec Bd.bytes hml0 (name_of_methodNamed Bd.named Bd.method).1 Bd.returns hl hh' W
  exact ⟨t, o, by rw [hent m]; exact h1, h2, h3, h4⟩
theorem w_endF {rm : Room} {h0 : Heap} {Q : List Addr → Option Value → Heap → Prop} (W : Wk p l e R s m args below meth c Z EL own ws nw T h cells slots) (hh : s.heap = h0) {v : Option Value} {g : JFrame} (hl : meth.locks = false) (hv : meth.sig.returnType = none → v = none)
    (st : ∀ {locs : List Loc} {fs : List Frame}, Stand p l e R s m args below meth c T locs cells slots → (∀ (f : JFrame) (acts : List Action), f.method = m → f.locked = none → f.entered = [] → (doReturn e (T.setTop f) acts v).1 = T.setFrames fs) → Steps p.tables e below (T.setTop g) (T.setFrames fs))
    (hc : cells ≤ rm.cells) (hs : slots ≤ rm.slots) (N : List Addr) (hN : ∀ x ∈ N, x ∈ nw) (q : Q N v h) : Gets p.tables e below (PostF s Z EL rm h0 ws Q) T g := by
  obtain ⟨locs, X, eT, hZ, hown, hF, hO, hK, -, n2⟩ := W
  obtain ⟨fs, h1, h2, h3, r1, r2⟩ := X.leave hv hl
  subst hh
  refine ⟨_, _, st X h1, h2, h3, v, locs, N, rfl, ⟨?_, hF, ?_, ?_, ?_⟩, ⟨_, rfl⟩, r1, r2.mono hc hs⟩
  · show Q N v T.heap; rw [eT]; exact q
  · show Keep _ T.heap _; rw [eT]; exact hK
  · show Ext _ T.heap; rw [eT]; exact hO
  · intro x hx
    obtain ⟨q1, q2, q3⟩ := n2 x (hN x hx)
    exact ⟨q1, by show x < T.heap.size; rw [eT]; exact q3⟩
theorem w_retAF {rm : Room} {h0 : Heap} {Q : List Addr → Option Value → Heap → Prop} {w : Value} {t : FieldType} (W : Wk p l e R s m args below meth c Z EL own ws nw T h cells slots) (hx : p.tables.exec = Jvm.exec) (hh : s.heap = h0) (hl : meth.locks = false) (hret : meth.sig.returnType = some t) (ht : t.isReference = true) (hw : w.isRef = true) (hd : decode c.code pc = .ok (.areturn, 1)) (hc : cells ≤ rm.cells) (hs : slots ≤ rm.slots) (N : List Addr) (hN : ∀ x ∈ N, x ∈ nw) (q : Q N (some w) h) :
    Gets p.tables e below (PostF s Z EL rm h0 ws Q) T (mkF m pc Ls (w :: st)) :=
  w_endF W hh hl (fun q => by rw [hret] at q; cases q) (fun X hr => retOut X hx hret (by cases t <;> cases w <;> simp [FieldType.isReference, Value.isRef, narrow] at ht hw ⊢) (Or.inr (Or.inr (Or.inr (Or.inr ⟨rfl, ht, hw⟩)))) hd hr) hc hs N hN q
theorem w_retVF {rm : Room} {h0 : Heap} {Q : List Addr → Option Value → Heap → Prop} (W : Wk p l e R s m args below meth c Z EL own ws nw T h cells slots) (hx : p.tables.exec = Jvm.exec) (hh : s.heap = h0) (hl : meth.locks = false) (hret : meth.sig.returnType = none) (hd : decode c.code pc = .ok (.return_, 1)) (hc : cells ≤ rm.cells) (hs : slots ≤ rm.slots) (N : List Addr) (hN : ∀ x ∈ N, x ∈ nw) (q : Q N none h) :
    Gets p.tables e below (PostF s Z EL rm h0 ws Q) T (mkF m pc Ls []) :=
  w_endF W hh hl (fun _ => rfl) (fun X hr => X.returnOut hx hret hd hr) hc hs N hN q
theorem w_retIF {rm : Room} {h0 : Heap} {Q : List Addr → Option Value → Heap → Prop} {z : Int32} (W : Wk p l e R s m args below meth c Z EL own ws nw T h cells slots) (hx : p.tables.exec = Jvm.exec) (hh : s.heap = h0) (hl : meth.locks = false) (hret : meth.sig.returnType = some .int) (hd : decode c.code pc = .ok (.ireturn, 1)) (hc : cells ≤ rm.cells) (hs : slots ≤ rm.slots) (N : List Addr) (hN : ∀ x ∈ N, x ∈ nw) (q : Q N (some (.int z)) h) :
    Gets p.tables e below (PostF s Z EL rm h0 ws Q) T (mkF m pc Ls (.int z :: st)) :=
  w_endF W hh hl (fun q => by rw [hret] at q; cases q) (fun X hr => retOut X hx hret rfl (Or.inl ⟨rfl, Or.inl rfl, z, rfl⟩) hd hr) hc hs N hN q
theorem backCF {y : MethodName} {bytes : ByteArray} {maxL : Nat} {ret : Option FieldType} {rm : Room} {len W : Nat} {as' : Array Value} {Q : List Addr → Option Value → Heap → Prop} {wsc : List Addr}
    (hM : ConF l Z EL y bytes maxL ret rm as' h wsc Q) (hZ : Z.Warmed39 s.vm) (wc : (Cond.code y bytes maxL ret).before a0 Z = true) (wz : (Cond.initialized y.cls).before a0 Z = true) (hf : rm.frames + 1 ≤ R.frames) (hl : W + (maxL + 11) + rm.locals ≤ R.locals) :
    Back l R p e below s args y len W (fun A a => a = as' ∧ A.U.heap = h ∧ A.cells + rm.cells ≤ R.cells ∧ A.slots + rm.slots ≤ R.slots)
      (fun A _ v B => ∃ L, (∃ N, Q N v B.U.heap ∧ Fr Z.heap.size L ∧ Keep h B.U.heap wsc ∧ Ext Z.heap B.U.heap ∧ ∀ x : Nat, x ∈ N → h.size ≤ x ∧ x < B.U.heap.size) ∧ B.locs = A.locs ++ L ∧ B.cells = A.cells + rm.cells ∧ B.slots = A.slots + rm.slots) :=
  backOf (Q := fun v h' L => ∃ N, Q N v h' ∧ Fr Z.heap.size L ∧ Keep h h' wsc ∧ Ext Z.heap h' ∧ ∀ x : Nat, x ∈ N → h.size ≤ x ∧ x < h'.size) (MetFree.mono hM (fun _ _ q => q) (fun _ _ _ _ _ q => q) (fun _ _ _ _ _ ⟨v, L, N, h1, h2, h3⟩ => ⟨v, L, h1, ⟨N, h2⟩, h3⟩)) hZ wc wz hf hl
theorem Wk.calledF {locs L : List Loc} {T' : State} {h' : Heap} {wsc N : List Addr} {c' s' : Nat} (hw : ∀ x ∈ wsc, x ∈ ws ++ nw) (X' : Stand p l e R s m args below meth c T' (locs ++ L) c' s') (e' : T'.heap = h') (F : Fr Z.heap.size L) (K : Keep h h' wsc) (O' : Ext Z.heap h') (hN : ∀ x : Nat, x ∈ N → h.size ≤ x ∧ x < h'.size)
    (r : Z.Warmed39 s.vm ∧ s.vm.findClass own = some m.cls ∧ Fr Z.heap.size locs ∧ Ext Z.heap h ∧ Keep s.heap h ws ∧ (∀ x : Nat, x ∈ ws → Z.heap.size ≤ x ∧ x < h.size) ∧ (∀ x : Nat, x ∈ nw → s.heap.size ≤ x ∧ Z.heap.size ≤ x ∧ x < h.size)) :
    Wk p l e R s m args below meth c Z EL own ws (N ++ nw) T' h' c' s' := by
  obtain ⟨hZ, hown, hF, hO, hK, n1, n2⟩ := r
  have sz := K.1
  refine ⟨locs ++ L, X', e', hZ, hown, Fr.app hF F, O', hK.trans K (fun x hx => ?_), fun x hx => ?_, fun x hx => ?_⟩
  · rcases List.mem_append.mp (hw x hx) with q | q
    · exact Or.inl q
    · exact Or.inr (n2 x q).1
  · obtain ⟨q1, q2⟩ := n1 x hx
    exact ⟨q1, by omega⟩
  · have ks := hK.1
    have os := hO.1
    rcases List.mem_append.mp hx with hx | hx
    · obtain ⟨q1, q2⟩ := hN x hx
      exact ⟨by omega, by omega, q2⟩
    · obtain ⟨q1, q2, q3⟩ := n2 x hx
      exact ⟨q1, q2, by omega⟩
theorem w_callSF (W : Wk p l e R s m args below meth c Z EL own ws nw T h cells slots) (hx : p.tables.exec = Jvm.exec) {index : Nat} {y : MethodName} {bytes : ByteArray} {maxL : Nat} {ret : Option FieldType} {rm : Room} {Q : List Addr → Option Value → Heap → Prop} {wsc : List Addr} (argsL : List Value)
    (w1 : (Cond.methodLink own index y).before a0 Z = true) (w2 : (Cond.static y).before a0 Z = true) (w3 : (Cond.initialized y.cls).before a0 Z = true) (w4 : (Cond.code y bytes maxL ret).before a0 Z = true) (hy : y.cls ≠ "java/lang/invoke/MethodHandle" ∧ y.cls ≠ "java/lang/invoke/VarHandle")
    (H : ConF l Z EL y bytes maxL ret rm argsL.toArray h wsc Q) (hwc : ∀ x ∈ wsc, x ∈ ws ++ nw) (hsz : Ls.size = c.maxLocals) (hlen : ∀ sig, parseMethodDescriptor y.desc = some sig → argsL.length = sig.parameters.length) {stk : List Value} (hstk : stk = argsL.reverse ++ st) (hd : decode c.code pc = .ok (.invokestatic index, 3))
    (hf : rm.frames + 1 ≤ R.frames) (hl : (st.map fun v => v.category).sum + (maxL + 11) + rm.locals ≤ R.locals) (hc : cells + rm.cells ≤ R.cells) (hs : slots + rm.slots ≤ R.slots) (hp : pc + 3 = pc')
    (k : ∀ N v T' h', Wk p l e R s m args below meth c Z EL own ws (N ++ nw) T' h' (cells + rm.cells) (slots + rm.slots) → Keep h h' wsc → (∀ x : Nat, x ∈ N → h.size ≤ x ∧ x < h'.size) → Q N v h' → Gets p.tables e below P T' (mkF m pc' Ls (v.toList ++ st))) : Gets p.tables e below P T (mkF m pc Ls stk) := by
  subst hp
  obtain ⟨locs, X, eT, r⟩ := W
  obtain ⟨hZ, hown, hF, hO, hK, n1, n2⟩ := id r
  obtain ⟨v, vm1, ⟨T', L', c', s'⟩, -, X', ⟨L, ⟨N, q1, q2, q3, q4, q5⟩, l1, l2, l3⟩, stp⟩ := Jvm.LawKit.callS X hx (y := y) hown (mv hZ w1) (mv hZ w2) (mv hZ w3) (mv hZ w4) hy (backCF (W := (st.map fun v => v.category).sum) H hZ w4 w3 hf hl) (g := mkF m pc Ls stk) rfl hsz (argsL := argsL) (rest := st) hlen hstk (by show 2 * 0 + _ ≤ _; omega) hd (fun _ _ => ⟨rfl, eT, hc, hs⟩)
  dsimp only [Pt.U, Pt.locs, Pt.cells, Pt.slots] at X' q1 q3 q4 q5 l1 l2 l3 stp
  subst l1 l2 l3
  exact (k N v T' _ (Wk.calledF (h' := T'.heap) hwc X' rfl q2 q3 q4 q5 r) q3 q5 q1).by fun t q => stp t q
theorem w_specialF (W : Wk p l e R s m args below meth c Z EL own ws nw T h cells slots) (hx : p.tables.exec = Jvm.exec) {index : Nat} {y : MethodName} {bytes : ByteArray} {maxL : Nat} {rm : Room} {Q : List Addr → Option Value → Heap → Prop} {wsc : List Addr} {a : Nat} (argsL : List Value) (hy1 : y.name = "<init>")
    (w1 : (Cond.methodLink own index y).before a0 Z = true) (w2 : (Cond.instanceMethod y).before a0 Z = true) (w3 : (Cond.initialized y.cls).before a0 Z = true) (w4 : (Cond.code y bytes maxL none).before a0 Z = true) (hy : y.cls ≠ "java/lang/invoke/MethodHandle" ∧ y.cls ≠ "java/lang/invoke/VarHandle")
    (H : ConF l Z EL y bytes maxL none rm (.ref a :: argsL).toArray h wsc Q) (hwc : ∀ x ∈ wsc, x ∈ ws ++ nw) (hsz : Ls.size = c.maxLocals) (hlen : ∀ sig, parseMethodDescriptor y.desc = some sig → argsL.length = sig.parameters.length) {stk : List Value} (hstk : stk = argsL.reverse ++ .ref a :: st) (hd : decode c.code pc = .ok (.invokespecial index, 3))
    (hf : rm.frames + 1 ≤ R.frames) (hl : (st.map fun v => v.category).sum + (maxL + 11) + rm.locals ≤ R.locals) (hc : cells + rm.cells ≤ R.cells) (hs : slots + rm.slots ≤ R.slots) (hp : pc + 3 = pc')
    (k : ∀ N v T' h', Wk p l e R s m args below meth c Z EL own ws (N ++ nw) T' h' (cells + rm.cells) (slots + rm.slots) → Keep h h' wsc → (∀ x : Nat, x ∈ N → h.size ≤ x ∧ x < h'.size) → Q N v h' → Gets p.tables e below P T' (mkF m pc' Ls (v.toList ++ st))) : Gets p.tables e below P T (mkF m pc Ls stk) := by
  subst hp
  obtain ⟨locs, X, eT, r⟩ := W
  obtain ⟨hZ, hown, hF, hO, hK, n1, n2⟩ := id r
  obtain ⟨v, vm1, ⟨T', L', c', s'⟩, -, X', ⟨L, ⟨N, q1, q2, q3, q4, q5⟩, l1, l2, l3⟩, stp⟩ := X.specialBack hx (y := y) hy1 hown (mv hZ w1) (mv hZ w2) (mv hZ w4) hy (backCF (W := (st.map fun v => v.category).sum) H hZ w4 w3 hf hl) (g := mkF m pc Ls stk) rfl hsz (Steps.refl _) (a := a) (argsL := argsL) (rest := st) hlen hstk (by show 2 * 0 + _ ≤ _; omega) hd (fun _ _ => ⟨rfl, eT, hc, hs⟩)
  dsimp only [Pt.U, Pt.locs, Pt.cells, Pt.slots] at X' q1 q3 q4 q5 l1 l2 l3 stp
  subst l1 l2 l3
  exact (k N v T' _ (Wk.calledF (h' := T'.heap) hwc X' rfl q2 q3 q4 q5 r) q3 q5 q1).by fun t q => stp.trans q
theorem w_virtualF (W : Wk p l e R s m args below meth c Z EL own ws nw T h cells slots) (hx : p.tables.exec = Jvm.exec) {index : Nat} {y z : MethodName} {C : String} {bytes : ByteArray} {maxL : Nat} {ret : Option FieldType} {rm : Room} {Q : List Addr → Option Value → Heap → Prop} {wsc : List Addr} {a : Nat} (argsL : List Value)
    (w1 : (Cond.methodLink own index y).before a0 Z = true) (w2 : (Cond.declares y).before a0 Z = true) (hnf : ∀ {U : State}, Z.Warmed39 U.vm → NotFace U y) (w3 : (Cond.selects C y z).before a0 Z = true) (w5 : (Cond.instanceMethod z).before a0 Z = true) (w6 : (Cond.initialized z.cls).before a0 Z = true) (w4 : (Cond.code z bytes maxL ret).before a0 Z = true) (hy : y.cls ≠ "java/lang/invoke/MethodHandle" ∧ y.cls ≠ "java/lang/invoke/VarHandle")
    (H : ConF l Z EL z bytes maxL ret rm (.ref a :: argsL).toArray h wsc Q) (E : Exa Z h a C) (hwc : ∀ x ∈ wsc, x ∈ ws ++ nw) (hsz : Ls.size = c.maxLocals) (hlen : ∀ sig, parseMethodDescriptor y.desc = some sig → argsL.length = sig.parameters.length) {stk : List Value} (hstk : stk = argsL.reverse ++ .ref a :: st) (hd : decode c.code pc = .ok (.invokevirtual index, 3))
    (hf : rm.frames + 1 ≤ R.frames) (hl : (st.map fun v => v.category).sum + (maxL + 11) + rm.locals ≤ R.locals) (hc : cells + rm.cells ≤ R.cells) (hs : slots + rm.slots ≤ R.slots) (hp : pc + 3 = pc')
    (k : ∀ N v T' h', Wk p l e R s m args below meth c Z EL own ws (N ++ nw) T' h' (cells + rm.cells) (slots + rm.slots) → Keep h h' wsc → (∀ x : Nat, x ∈ N → h.size ≤ x ∧ x < h'.size) → Q N v h' → Gets p.tables e below P T' (mkF m pc' Ls (v.toList ++ st))) : Gets p.tables e below P T (mkF m pc Ls stk) := by
  subst hp
  obtain ⟨locs, X, eT, r⟩ := W
  obtain ⟨hZ, hown, hF, hO, hK, n1, n2⟩ := id r
  obtain ⟨cq, kq, qa, qb, qc⟩ := isOf hZ eT E
  obtain ⟨v, vm1, ⟨T', L', c', s'⟩, -, X', ⟨L, ⟨N, q1, q2, q3, q4, q5⟩, l1, l2, l3⟩, stp⟩ := X.virtualBack hx (y := y) (z := z) hown (mv hZ w1) (mv hZ w2) (hnf (U := s) hZ) (mv hZ w3) (mv hZ w5) hy (backCF (W := (st.map fun v => v.category).sum) H hZ w4 w6 hf hl) qa qc (g := mkF m pc Ls stk) rfl hsz (Steps.refl _) (argsL := argsL) (rest := st) hlen hstk (by show 2 * 0 + _ ≤ _; omega) hd (fun _ _ => ⟨rfl, eT, hc, hs⟩)
  dsimp only [Pt.U, Pt.locs, Pt.cells, Pt.slots] at X' q1 q3 q4 q5 l1 l2 l3 stp
  subst l1 l2 l3
  exact (k N v T' _ (Wk.calledF (h' := T'.heap) hwc X' rfl q2 q3 q4 q5 r) q3 q5 q1).by fun t q => stp.trans q
theorem w_virtualUpF (W : Wk p l e R s m args below meth c Z EL own ws nw T h cells slots) (hx : p.tables.exec = Jvm.exec) {index : Nat} {y z : MethodName} {C owner : String} {bytes : ByteArray} {maxL : Nat} {ret : Option FieldType} {rm : Room} {Q : List Addr → Option Value → Heap → Prop} {wsc : List Addr} {a : Nat} (argsL : List Value)
    (w1 : (Cond.methodLink own index y).before a0 Z = true) (w7 : (Cond.sameMethod y.cls owner y.name y.desc).before a0 Z = true) (w2 : (Cond.declares ⟨owner, y.name, y.desc⟩).before a0 Z = true) (w3 : (Cond.selects C y z).before a0 Z = true) (w5 : (Cond.instanceMethod z).before a0 Z = true) (w6 : (Cond.initialized z.cls).before a0 Z = true) (w4 : (Cond.code z bytes maxL ret).before a0 Z = true) (hy : owner ≠ "java/lang/invoke/MethodHandle" ∧ owner ≠ "java/lang/invoke/VarHandle")
    (H : ConF l Z EL z bytes maxL ret rm (.ref a :: argsL).toArray h wsc Q) (E : Exa Z h a C) (hwc : ∀ x ∈ wsc, x ∈ ws ++ nw) (hsz : Ls.size = c.maxLocals) (hlen : ∀ sig, parseMethodDescriptor y.desc = some sig → argsL.length = sig.parameters.length) {stk : List Value} (hstk : stk = argsL.reverse ++ .ref a :: st) (hd : decode c.code pc = .ok (.invokevirtual index, 3))
    (hf : rm.frames + 1 ≤ R.frames) (hl : (st.map fun v => v.category).sum + (maxL + 11) + rm.locals ≤ R.locals) (hc : cells + rm.cells ≤ R.cells) (hs : slots + rm.slots ≤ R.slots) (hp : pc + 3 = pc')
    (k : ∀ N v T' h', Wk p l e R s m args below meth c Z EL own ws (N ++ nw) T' h' (cells + rm.cells) (slots + rm.slots) → Keep h h' wsc → (∀ x : Nat, x ∈ N → h.size ≤ x ∧ x < h'.size) → Q N v h' → Gets p.tables e below P T' (mkF m pc' Ls (v.toList ++ st))) : Gets p.tables e below P T (mkF m pc Ls stk) := by
  subst hp
  obtain ⟨locs, X, eT, r⟩ := W
  obtain ⟨hZ, hown, hF, hO, hK, n1, n2⟩ := id r
  obtain ⟨cq, kq, qa, qb, qc⟩ := isOf hZ eT E
  obtain ⟨v, vm1, ⟨T', L', c', s'⟩, -, X', ⟨L, ⟨N, q1, q2, q3, q4, q5⟩, l1, l2, l3⟩, stp⟩ := X.virtualBackUp hx (x := y) (y := z) hown (mv hZ w1) (mv hZ w7) (mv hZ w2) hy (mv hZ w3) (mv hZ w5) (backCF (W := (st.map fun v => v.category).sum) H hZ w4 w6 hf hl) qa qc (g := mkF m pc Ls stk) rfl hsz (Steps.refl _) (argsL := argsL) (rest := st) hlen hstk (by show 2 * 0 + _ ≤ _; omega) hd (fun _ _ => ⟨rfl, eT, hc, hs⟩)
  dsimp only [Pt.U, Pt.locs, Pt.cells, Pt.slots] at X' q1 q3 q4 q5 l1 l2 l3 stp
  subst l1 l2 l3
  exact (k N v T' _ (Wk.calledF (h' := T'.heap) hwc X' rfl q2 q3 q4 q5 r) q3 q5 q1).by fun t q => stp.trans q
theorem w_ifaceF (W : Wk p l e R s m args below meth c Z EL own ws nw T h cells slots) (hx : p.tables.exec = Jvm.exec) {index count : Nat} {y z : MethodName} {C : String} {bytes : ByteArray} {maxL : Nat} {ret : Option FieldType} {rm : Room} {Q : List Addr → Option Value → Heap → Prop} {wsc : List Addr} {a : Nat} (argsL : List Value)
    (w1 : (Cond.methodLink own index y).before a0 Z = true) (w2 : (Cond.declares y).before a0 Z = true) (w7 : (Cond.interfaceMethod y.cls y.cls y.name y.desc).before a0 Z = true) (w3 : (Cond.selects C y z).before a0 Z = true) (w5 : (Cond.instanceMethod z).before a0 Z = true) (w8 : (Cond.publicMethod z).before a0 Z = true) (w9 : (Cond.unhidden C y.name y.desc).before a0 Z = true) (w10 : (Cond.castable C y.cls).before a0 Z = true) (w6 : (Cond.initialized z.cls).before a0 Z = true) (w4 : (Cond.code z bytes maxL ret).before a0 Z = true) (hy : y.cls ≠ "java/lang/invoke/MethodHandle" ∧ y.cls ≠ "java/lang/invoke/VarHandle")
    (H : ConF l Z EL z bytes maxL ret rm (.ref a :: argsL).toArray h wsc Q) (E : Exa Z h a C) (hwc : ∀ x ∈ wsc, x ∈ ws ++ nw) (hsz : Ls.size = c.maxLocals) (hlen : ∀ sig, parseMethodDescriptor y.desc = some sig → argsL.length = sig.parameters.length) {stk : List Value} (hstk : stk = argsL.reverse ++ .ref a :: st) (hd : decode c.code pc = .ok (.invokeinterface index count, 5))
    (hf : rm.frames + 1 ≤ R.frames) (hl : (st.map fun v => v.category).sum + (maxL + 11) + rm.locals ≤ R.locals) (hc : cells + rm.cells ≤ R.cells) (hs : slots + rm.slots ≤ R.slots) (hp : pc + 5 = pc')
    (k : ∀ N v T' h', Wk p l e R s m args below meth c Z EL own ws (N ++ nw) T' h' (cells + rm.cells) (slots + rm.slots) → Keep h h' wsc → (∀ x : Nat, x ∈ N → h.size ≤ x ∧ x < h'.size) → Q N v h' → Gets p.tables e below P T' (mkF m pc' Ls (v.toList ++ st))) : Gets p.tables e below P T (mkF m pc Ls stk) := by
  subst hp
  obtain ⟨locs, X, eT, r⟩ := W
  obtain ⟨hZ, hown, hF, hO, hK, n1, n2⟩ := id r
  obtain ⟨cq, kq, qa, qb, qc⟩ := isOf hZ eT E
  obtain ⟨v, vm1, ⟨T', L', c', s'⟩, -, X', ⟨L, ⟨N, q1, q2, q3, q4, q5⟩, l1, l2, l3⟩, stp⟩ := X.interfaceBack hx (xi := y) (y := z) hown (mv hZ w1) (mv hZ w2) (mv hZ w7 (by simp [Cond.onTables, Cond.keepsFace, Cond.keeps, Cond.steady, Cond.faceAtom, hy.1, hy.2])) (mv hZ w3) (mv hZ w5) (mv hZ w8) (mv hZ w9) (mv hZ w10) hy (backCF (W := (st.map fun v => v.category).sum) H hZ w4 w6 hf hl) qa qb qc (g := mkF m pc Ls stk) rfl hsz (Steps.refl _) (argsL := argsL) (rest := st) hlen hstk (by show 2 * 0 + _ ≤ _; omega) hd (fun _ _ => ⟨rfl, eT, hc, hs⟩)
  dsimp only [Pt.U, Pt.locs, Pt.cells, Pt.slots] at X' q1 q3 q4 q5 l1 l2 l3 stp
  subst l1 l2 l3
  exact (k N v T' _ (Wk.calledF (h' := T'.heap) hwc X' rfl q2 q3 q4 q5 r) q3 q5 q1).by fun t q => stp.trans q
end OwnFresh
theorem w_0 : tables_1[0]? = some (Jvm.Cond.arrayClass Jvm.ClassFile.FieldType.char) := rfl
theorem w_1 : tables_1[1]? = some (Jvm.Cond.classLink "com/example/updatable_views/updatableviews/SqlTokenIsSymbolPinLaw" (34 : Nat) "java/lang/String") := rfl
theorem w_2 : tables_1[2]? = some (Jvm.Cond.instantiable "java/lang/String" (4 : Nat)) := rfl
theorem w_3 : tables_1[3]? = some (Jvm.Cond.initialized "java/lang/String") := rfl
theorem w_4 : tables_1[4]? = some (Jvm.Cond.methodLink "com/example/updatable_views/updatableviews/SqlTokenIsSymbolPinLaw" (36 : Nat) ({ cls := "java/lang/String", name := "<init>", desc := "([C)V" } : Jvm.MethodName)) := rfl
theorem w_5 : tables_1[5]? = some (Jvm.Cond.instanceMethod ({ cls := "java/lang/String", name := "<init>", desc := "([C)V" } : Jvm.MethodName)) := rfl
theorem w_6 : tables_1[6]? = some (Jvm.Cond.code ({ cls := "java/lang/String", name := "<init>", desc := "([C)V" } : Jvm.MethodName) jdk_42_method_3_code (2 : Nat) (Option.none : Option Jvm.ClassFile.FieldType)) := rfl
theorem w_7 : tables_1[7]? = some (Jvm.Cond.methodLink "java/lang/String" (27 : Nat) ({ cls := "java/lang/String", name := "<init>", desc := "([CIILjava/lang/Void;)V" } : Jvm.MethodName)) := rfl
theorem w_8 : tables_1[8]? = some (Jvm.Cond.instanceMethod ({ cls := "java/lang/String", name := "<init>", desc := "([CIILjava/lang/Void;)V" } : Jvm.MethodName)) := rfl
theorem w_10 : tables_1[10]? = some (Jvm.Cond.code ({ cls := "java/lang/String", name := "<init>", desc := "([CIILjava/lang/Void;)V" } : Jvm.MethodName) jdk_42_method_149_code (6 : Nat) (Option.none : Option Jvm.ClassFile.FieldType)) := rfl
theorem w_11 : tables_1[11]? = some (Jvm.Cond.methodLink "java/lang/String" (1 : Nat) ({ cls := "java/lang/Object", name := "<init>", desc := "()V" } : Jvm.MethodName)) := rfl
theorem w_12 : tables_1[12]? = some (Jvm.Cond.instanceMethod ({ cls := "java/lang/Object", name := "<init>", desc := "()V" } : Jvm.MethodName)) := rfl
theorem w_13 : tables_1[13]? = some (Jvm.Cond.code ({ cls := "java/lang/Object", name := "<init>", desc := "()V" } : Jvm.MethodName) object_method_1_code (1 : Nat) (Option.none : Option Jvm.ClassFile.FieldType)) := rfl
theorem w_14 : tables_1[14]? = some (Jvm.Cond.fieldLink "java/lang/String" (38 : Nat) "java/lang/String" "COMPACT_STRINGS" "Z") := rfl
theorem w_15 : tables_1[15]? = some (Jvm.Cond.methodLink "java/lang/String" (177 : Nat) ({ cls := "java/lang/StringUTF16", name := "compress", desc := "([CII)[B" } : Jvm.MethodName)) := rfl
theorem w_16 : tables_1[16]? = some (Jvm.Cond.static ({ cls := "java/lang/StringUTF16", name := "compress", desc := "([CII)[B" } : Jvm.MethodName)) := rfl
theorem w_17 : tables_1[17]? = some (Jvm.Cond.initialized "java/lang/StringUTF16") := rfl
theorem w_18 : tables_1[18]? = some (Jvm.Cond.code ({ cls := "java/lang/StringUTF16", name := "compress", desc := "([CII)[B" } : Jvm.MethodName) jdk_52_method_16_code (6 : Nat) (Option.some (Jvm.ClassFile.FieldType.array Jvm.ClassFile.FieldType.byte))) := rfl
theorem w_19 : tables_1[19]? = some (Jvm.Cond.arrayClass Jvm.ClassFile.FieldType.byte) := rfl
theorem w_20 : tables_1[20]? = some (Jvm.Cond.methodLink "java/lang/StringUTF16" (115 : Nat) ({ cls := "java/lang/StringUTF16", name := "compress", desc := "([CI[BII)I" } : Jvm.MethodName)) := rfl
theorem w_21 : tables_1[21]? = some (Jvm.Cond.static ({ cls := "java/lang/StringUTF16", name := "compress", desc := "([CI[BII)I" } : Jvm.MethodName)) := rfl
theorem w_22 : tables_1[22]? = some (Jvm.Cond.code ({ cls := "java/lang/StringUTF16", name := "compress", desc := "([CI[BII)I" } : Jvm.MethodName) jdk_52_method_21_code (7 : Nat) (Option.some Jvm.ClassFile.FieldType.int)) := rfl
theorem w_23 : tables_1[23]? = some (Jvm.Cond.methodLink "java/lang/String" (47 : Nat) ({ cls := "java/lang/StringUTF16", name := "coderFromArrayLen", desc := "([BI)B" } : Jvm.MethodName)) := rfl
theorem w_24 : tables_1[24]? = some (Jvm.Cond.static ({ cls := "java/lang/StringUTF16", name := "coderFromArrayLen", desc := "([BI)B" } : Jvm.MethodName)) := rfl
theorem w_25 : tables_1[25]? = some (Jvm.Cond.code ({ cls := "java/lang/StringUTF16", name := "coderFromArrayLen", desc := "([BI)B" } : Jvm.MethodName) jdk_52_method_15_code (2 : Nat) (Option.some Jvm.ClassFile.FieldType.byte)) := rfl
theorem w_26 : tables_1[26]? = some (Jvm.Cond.fieldLink "java/lang/String" (15 : Nat) "java/lang/String" "coder" "B") := rfl
theorem w_27 : tables_1[27]? = some (Jvm.Cond.laysFinal "java/lang/String" "java/lang/String" "coder" "B") := rfl
theorem w_28 : tables_1[28]? = some (Jvm.Cond.fieldLink "java/lang/String" (9 : Nat) "java/lang/String" "value" "[B") := rfl
theorem w_29 : tables_1[29]? = some (Jvm.Cond.laysFinal "java/lang/String" "java/lang/String" "value" "[B") := rfl
theorem w_30 : tables_1[30]? = some (Jvm.Cond.constant "com/example/updatable_views/updatableviews/SqlTokenIsSymbolPinLaw" (39 : Nat) (2147483647 : Int32)) := rfl
theorem w_31 : tables_1[31]? = some (Jvm.Cond.methodLink "com/example/updatable_views/updatableviews/SqlTokenIsSymbolPinLaw" (40 : Nat) ({ cls := "java/lang/Math", name := "min", desc := "(II)I" } : Jvm.MethodName)) := rfl
theorem w_32 : tables_1[32]? = some (Jvm.Cond.static ({ cls := "java/lang/Math", name := "min", desc := "(II)I" } : Jvm.MethodName)) := rfl
theorem w_33 : tables_1[33]? = some (Jvm.Cond.initialized "java/lang/Math") := rfl
theorem w_34 : tables_1[34]? = some (Jvm.Cond.code ({ cls := "java/lang/Math", name := "min", desc := "(II)I" } : Jvm.MethodName) jdk_29_method_69_code (2 : Nat) (Option.some Jvm.ClassFile.FieldType.int)) := rfl
theorem w_35 : tables_1[35]? = some (Jvm.Cond.classLink "com/example/updatable_views/updatableviews/SqlTokenIsSymbolPinLaw" (46 : Nat) "com/example/updatable_views/updatableviews/SqlToken") := rfl
theorem w_36 : tables_1[36]? = some (Jvm.Cond.instantiable "com/example/updatable_views/updatableviews/SqlToken" (3 : Nat)) := rfl
theorem w_37 : tables_1[37]? = some (Jvm.Cond.initialized "com/example/updatable_views/updatableviews/SqlToken") := rfl
theorem w_38 : tables_1[38]? = some (Jvm.Cond.methodLink "com/example/updatable_views/updatableviews/SqlTokenIsSymbolPinLaw" (48 : Nat) ({ cls := "com/example/updatable_views/updatableviews/SqlTokenIsSymbolPinLaw", name := "kindOf", desc := "(I)Lcom/example/updatable_views/updatableviews/SqlToken$Kind;" } : Jvm.MethodName)) := rfl
theorem w_39 : tables_1[39]? = some (Jvm.Cond.static ({ cls := "com/example/updatable_views/updatableviews/SqlTokenIsSymbolPinLaw", name := "kindOf", desc := "(I)Lcom/example/updatable_views/updatableviews/SqlToken$Kind;" } : Jvm.MethodName)) := rfl
theorem w_40 : tables_1[40]? = some (Jvm.Cond.initialized "com/example/updatable_views/updatableviews/SqlTokenIsSymbolPinLaw") := rfl
theorem w_41 : tables_1[41]? = some (Jvm.Cond.code ({ cls := "com/example/updatable_views/updatableviews/SqlTokenIsSymbolPinLaw", name := "kindOf", desc := "(I)Lcom/example/updatable_views/updatableviews/SqlToken$Kind;" } : Jvm.MethodName) method_2_code (1 : Nat) (Option.some (Jvm.ClassFile.FieldType.object "com/example/updatable_views/updatableviews/SqlToken$Kind"))) := rfl
theorem w_42 : tables_1[42]? = some (Jvm.Cond.fieldLink "com/example/updatable_views/updatableviews/SqlTokenIsSymbolPinLaw" (7 : Nat) "com/example/updatable_views/updatableviews/SqlToken$Kind" "WORD" "Lcom/example/updatable_views/updatableviews/SqlToken$Kind;") := rfl
theorem w_43 : tables_1[43]? = some (Jvm.Cond.initialized "com/example/updatable_views/updatableviews/SqlToken$Kind") := rfl
theorem w_44 : tables_1[44]? = some (Jvm.Cond.laysStatic "com/example/updatable_views/updatableviews/SqlToken$Kind" "WORD" "Lcom/example/updatable_views/updatableviews/SqlToken$Kind;") := rfl
theorem w_45 : tables_1[45]? = some (Jvm.Cond.methodLink "com/example/updatable_views/updatableviews/SqlTokenIsSymbolPinLaw" (54 : Nat) ({ cls := "com/example/updatable_views/updatableviews/SqlToken", name := "<init>", desc := "(Lcom/example/updatable_views/updatableviews/SqlToken$Kind;II)V" } : Jvm.MethodName)) := rfl
theorem w_46 : tables_1[46]? = some (Jvm.Cond.instanceMethod ({ cls := "com/example/updatable_views/updatableviews/SqlToken", name := "<init>", desc := "(Lcom/example/updatable_views/updatableviews/SqlToken$Kind;II)V" } : Jvm.MethodName)) := rfl
theorem w_47 : tables_1[47]? = some (Jvm.Cond.code ({ cls := "com/example/updatable_views/updatableviews/SqlToken", name := "<init>", desc := "(Lcom/example/updatable_views/updatableviews/SqlToken$Kind;II)V" } : Jvm.MethodName) prog_10_method_1_code (4 : Nat) (Option.none : Option Jvm.ClassFile.FieldType)) := rfl
theorem w_48 : tables_1[48]? = some (Jvm.Cond.methodLink "com/example/updatable_views/updatableviews/SqlToken" (1 : Nat) ({ cls := "java/lang/Object", name := "<init>", desc := "()V" } : Jvm.MethodName)) := rfl
theorem w_49 : tables_1[49]? = some (Jvm.Cond.fieldLink "com/example/updatable_views/updatableviews/SqlToken" (7 : Nat) "com/example/updatable_views/updatableviews/SqlToken" "kind" "Lcom/example/updatable_views/updatableviews/SqlToken$Kind;") := rfl
theorem w_50 : tables_1[50]? = some (Jvm.Cond.laysFinal "com/example/updatable_views/updatableviews/SqlToken" "com/example/updatable_views/updatableviews/SqlToken" "kind" "Lcom/example/updatable_views/updatableviews/SqlToken$Kind;") := rfl
theorem w_51 : tables_1[51]? = some (Jvm.Cond.fieldLink "com/example/updatable_views/updatableviews/SqlToken" (13 : Nat) "com/example/updatable_views/updatableviews/SqlToken" "start" "I") := rfl
theorem w_52 : tables_1[52]? = some (Jvm.Cond.laysFinal "com/example/updatable_views/updatableviews/SqlToken" "com/example/updatable_views/updatableviews/SqlToken" "start" "I") := rfl
theorem w_53 : tables_1[53]? = some (Jvm.Cond.fieldLink "com/example/updatable_views/updatableviews/SqlToken" (17 : Nat) "com/example/updatable_views/updatableviews/SqlToken" "end" "I") := rfl
theorem w_54 : tables_1[54]? = some (Jvm.Cond.laysFinal "com/example/updatable_views/updatableviews/SqlToken" "com/example/updatable_views/updatableviews/SqlToken" "end" "I") := rfl
theorem w_55 : tables_1[55]? = some (Jvm.Cond.methodLink "com/example/updatable_views/updatableviews/SqlTokenIsSymbolPinLaw" (57 : Nat) ({ cls := "com/example/updatable_views/updatableviews/SqlToken", name := "isSymbol", desc := "(Ljava/lang/CharSequence;C)Z" } : Jvm.MethodName)) := rfl
theorem w_56 : tables_1[56]? = some (Jvm.Cond.declares ({ cls := "com/example/updatable_views/updatableviews/SqlToken", name := "isSymbol", desc := "(Ljava/lang/CharSequence;C)Z" } : Jvm.MethodName)) := rfl
theorem w_57 : tables_1[57]? = some (Jvm.Cond.instanceMethod ({ cls := "com/example/updatable_views/updatableviews/SqlToken", name := "isSymbol", desc := "(Ljava/lang/CharSequence;C)Z" } : Jvm.MethodName)) := rfl
theorem w_58 : tables_1[58]? = some (Jvm.Cond.selects "com/example/updatable_views/updatableviews/SqlToken" ({ cls := "com/example/updatable_views/updatableviews/SqlToken", name := "isSymbol", desc := "(Ljava/lang/CharSequence;C)Z" } : Jvm.MethodName) ({ cls := "com/example/updatable_views/updatableviews/SqlToken", name := "isSymbol", desc := "(Ljava/lang/CharSequence;C)Z" } : Jvm.MethodName)) := rfl
theorem w_59 : tables_1[59]? = some (Jvm.Cond.code ({ cls := "com/example/updatable_views/updatableviews/SqlToken", name := "isSymbol", desc := "(Ljava/lang/CharSequence;C)Z" } : Jvm.MethodName) prog_10_method_6_code (3 : Nat) (Option.some Jvm.ClassFile.FieldType.boolean)) := rfl
theorem w_60 : tables_1[60]? = some (Jvm.Cond.fieldLink "com/example/updatable_views/updatableviews/SqlToken" (38 : Nat) "com/example/updatable_views/updatableviews/SqlToken$Kind" "SYMBOL" "Lcom/example/updatable_views/updatableviews/SqlToken$Kind;") := rfl
theorem w_61 : tables_1[61]? = some (Jvm.Cond.laysStatic "com/example/updatable_views/updatableviews/SqlToken$Kind" "SYMBOL" "Lcom/example/updatable_views/updatableviews/SqlToken$Kind;") := rfl
theorem w_62 : tables_1[62]? = some (Jvm.Cond.fieldLink "com/example/updatable_views/updatableviews/SqlTokenIsSymbolPinLaw" (22 : Nat) "com/example/updatable_views/updatableviews/SqlToken$Kind" "QUOTED_NAME" "Lcom/example/updatable_views/updatableviews/SqlToken$Kind;") := rfl
theorem w_63 : tables_1[63]? = some (Jvm.Cond.laysStatic "com/example/updatable_views/updatableviews/SqlToken$Kind" "QUOTED_NAME" "Lcom/example/updatable_views/updatableviews/SqlToken$Kind;") := rfl
theorem w_64 : tables_1[64]? = some (Jvm.Cond.fieldLink "com/example/updatable_views/updatableviews/SqlTokenIsSymbolPinLaw" (25 : Nat) "com/example/updatable_views/updatableviews/SqlToken$Kind" "PARAMETER" "Lcom/example/updatable_views/updatableviews/SqlToken$Kind;") := rfl
theorem w_65 : tables_1[65]? = some (Jvm.Cond.laysStatic "com/example/updatable_views/updatableviews/SqlToken$Kind" "PARAMETER" "Lcom/example/updatable_views/updatableviews/SqlToken$Kind;") := rfl
theorem w_66 : tables_1[66]? = some (Jvm.Cond.methodLink "java/lang/StringUTF16" (119 : Nat) ({ cls := "java/lang/StringUTF16", name := "toBytes", desc := "([CII)[B" } : Jvm.MethodName)) := rfl
theorem w_67 : tables_1[67]? = some (Jvm.Cond.static ({ cls := "java/lang/StringUTF16", name := "toBytes", desc := "([CII)[B" } : Jvm.MethodName)) := rfl
theorem w_68 : tables_1[68]? = some (Jvm.Cond.code ({ cls := "java/lang/StringUTF16", name := "toBytes", desc := "([CII)[B" } : Jvm.MethodName) jdk_52_method_14_code (5 : Nat) (Option.some (Jvm.ClassFile.FieldType.array Jvm.ClassFile.FieldType.byte))) := rfl
theorem w_69 : tables_1[69]? = some (Jvm.Cond.methodLink "java/lang/StringUTF16" (107 : Nat) ({ cls := "java/lang/StringUTF16", name := "newBytesFor", desc := "(I)[B" } : Jvm.MethodName)) := rfl
theorem w_70 : tables_1[70]? = some (Jvm.Cond.static ({ cls := "java/lang/StringUTF16", name := "newBytesFor", desc := "(I)[B" } : Jvm.MethodName)) := rfl
theorem w_71 : tables_1[71]? = some (Jvm.Cond.code ({ cls := "java/lang/StringUTF16", name := "newBytesFor", desc := "(I)[B" } : Jvm.MethodName) jdk_52_method_2_code (1 : Nat) (Option.some (Jvm.ClassFile.FieldType.array Jvm.ClassFile.FieldType.byte))) := rfl
theorem w_72 : tables_1[72]? = some (Jvm.Cond.methodLink "java/lang/StringUTF16" (11 : Nat) ({ cls := "java/lang/StringUTF16", name := "newBytesLength", desc := "(I)I" } : Jvm.MethodName)) := rfl
theorem w_73 : tables_1[73]? = some (Jvm.Cond.static ({ cls := "java/lang/StringUTF16", name := "newBytesLength", desc := "(I)I" } : Jvm.MethodName)) := rfl
theorem w_74 : tables_1[74]? = some (Jvm.Cond.code ({ cls := "java/lang/StringUTF16", name := "newBytesLength", desc := "(I)I" } : Jvm.MethodName) jdk_52_method_3_code (1 : Nat) (Option.some Jvm.ClassFile.FieldType.int)) := rfl
theorem w_75 : tables_1[75]? = some (Jvm.Cond.constant "java/lang/StringUTF16" (20 : Nat) (1073741823 : Int32)) := rfl
theorem w_76 : tables_1[76]? = some (Jvm.Cond.methodLink "java/lang/StringUTF16" (111 : Nat) ({ cls := "java/lang/StringUTF16", name := "putChar", desc := "([BII)V" } : Jvm.MethodName)) := rfl
theorem w_77 : tables_1[77]? = some (Jvm.Cond.static ({ cls := "java/lang/StringUTF16", name := "putChar", desc := "([BII)V" } : Jvm.MethodName)) := rfl
theorem w_78 : tables_1[78]? = some (Jvm.Cond.code ({ cls := "java/lang/StringUTF16", name := "putChar", desc := "([BII)V" } : Jvm.MethodName) jdk_52_method_4_code (3 : Nat) (Option.none : Option Jvm.ClassFile.FieldType)) := rfl
theorem w_79 : tables_1[79]? = some (Jvm.Cond.fieldLink "java/lang/StringUTF16" (44 : Nat) "java/lang/StringUTF16" "$assertionsDisabled" "Z") := rfl
theorem w_80 : tables_1[80]? = some (Jvm.Cond.fieldLink "java/lang/StringUTF16" (59 : Nat) "java/lang/StringUTF16" "HI_BYTE_SHIFT" "I") := rfl
theorem w_81 : tables_1[81]? = some (Jvm.Cond.fieldLink "java/lang/StringUTF16" (63 : Nat) "java/lang/StringUTF16" "LO_BYTE_SHIFT" "I") := rfl
theorem w_82 : tables_1[82]? = some (Jvm.Cond.methodLink "java/lang/StringUTF16" (71 : Nat) ({ cls := "java/lang/StringUTF16", name := "getChar", desc := "([BI)C" } : Jvm.MethodName)) := rfl
theorem w_83 : tables_1[83]? = some (Jvm.Cond.static ({ cls := "java/lang/StringUTF16", name := "getChar", desc := "([BI)C" } : Jvm.MethodName)) := rfl
theorem w_84 : tables_1[84]? = some (Jvm.Cond.code ({ cls := "java/lang/StringUTF16", name := "getChar", desc := "([BI)C" } : Jvm.MethodName) jdk_52_method_5_code (2 : Nat) (Option.some Jvm.ClassFile.FieldType.char)) := rfl
theorem w_85 : tables_1[85]? = some (Jvm.Cond.fieldLink "com/example/updatable_views/updatableviews/SqlTokenIsSymbolPinLaw" (31 : Nat) "com/example/updatable_views/updatableviews/SqlToken$Kind" "SYMBOL" "Lcom/example/updatable_views/updatableviews/SqlToken$Kind;") := rfl
theorem w_86 : tables_1[86]? = some (Jvm.Cond.methodLink "com/example/updatable_views/updatableviews/SqlToken" (31 : Nat) ({ cls := "java/lang/CharSequence", name := "charAt", desc := "(I)C" } : Jvm.MethodName)) := rfl
theorem w_87 : tables_1[87]? = some (Jvm.Cond.declares ({ cls := "java/lang/CharSequence", name := "charAt", desc := "(I)C" } : Jvm.MethodName)) := rfl
theorem w_88 : tables_1[88]? = some (Jvm.Cond.interfaceMethod "java/lang/CharSequence" "java/lang/CharSequence" "charAt" "(I)C") := rfl
theorem w_89 : tables_1[89]? = some (Jvm.Cond.selects "java/lang/String" ({ cls := "java/lang/CharSequence", name := "charAt", desc := "(I)C" } : Jvm.MethodName) ({ cls := "java/lang/String", name := "charAt", desc := "(I)C" } : Jvm.MethodName)) := rfl
theorem w_90 : tables_1[90]? = some (Jvm.Cond.instanceMethod ({ cls := "java/lang/String", name := "charAt", desc := "(I)C" } : Jvm.MethodName)) := rfl
theorem w_91 : tables_1[91]? = some (Jvm.Cond.publicMethod ({ cls := "java/lang/String", name := "charAt", desc := "(I)C" } : Jvm.MethodName)) := rfl
theorem w_92 : tables_1[92]? = some (Jvm.Cond.unhidden "java/lang/String" "charAt" "(I)C") := rfl
theorem w_93 : tables_1[93]? = some (Jvm.Cond.castable "java/lang/String" "java/lang/CharSequence") := rfl
theorem w_94 : tables_1[94]? = some (Jvm.Cond.code ({ cls := "java/lang/String", name := "charAt", desc := "(I)C" } : Jvm.MethodName) jdk_42_method_56_code (2 : Nat) (Option.some Jvm.ClassFile.FieldType.char)) := rfl
theorem w_95 : tables_1[95]? = some (Jvm.Cond.methodLink "java/lang/String" (492 : Nat) ({ cls := "java/lang/String", name := "isLatin1", desc := "()Z" } : Jvm.MethodName)) := rfl
theorem w_96 : tables_1[96]? = some (Jvm.Cond.declares ({ cls := "java/lang/String", name := "isLatin1", desc := "()Z" } : Jvm.MethodName)) := rfl
theorem w_97 : tables_1[97]? = some (Jvm.Cond.instanceMethod ({ cls := "java/lang/String", name := "isLatin1", desc := "()Z" } : Jvm.MethodName)) := rfl
theorem w_98 : tables_1[98]? = some (Jvm.Cond.selects "java/lang/String" ({ cls := "java/lang/String", name := "isLatin1", desc := "()Z" } : Jvm.MethodName) ({ cls := "java/lang/String", name := "isLatin1", desc := "()Z" } : Jvm.MethodName)) := rfl
theorem w_99 : tables_1[99]? = some (Jvm.Cond.code ({ cls := "java/lang/String", name := "isLatin1", desc := "()Z" } : Jvm.MethodName) jdk_42_method_154_code (1 : Nat) (Option.some Jvm.ClassFile.FieldType.boolean)) := rfl
theorem w_100 : tables_1[100]? = some (Jvm.Cond.methodLink "java/lang/String" (498 : Nat) ({ cls := "java/lang/StringUTF16", name := "charAt", desc := "([BI)C" } : Jvm.MethodName)) := rfl
theorem w_101 : tables_1[101]? = some (Jvm.Cond.static ({ cls := "java/lang/StringUTF16", name := "charAt", desc := "([BI)C" } : Jvm.MethodName)) := rfl
theorem w_102 : tables_1[102]? = some (Jvm.Cond.code ({ cls := "java/lang/StringUTF16", name := "charAt", desc := "([BI)C" } : Jvm.MethodName) jdk_52_method_83_code (2 : Nat) (Option.some Jvm.ClassFile.FieldType.char)) := rfl
theorem w_103 : tables_1[103]? = some (Jvm.Cond.methodLink "java/lang/StringUTF16" (67 : Nat) ({ cls := "java/lang/StringUTF16", name := "checkIndex", desc := "(I[B)V" } : Jvm.MethodName)) := rfl
theorem w_104 : tables_1[104]? = some (Jvm.Cond.static ({ cls := "java/lang/StringUTF16", name := "checkIndex", desc := "(I[B)V" } : Jvm.MethodName)) := rfl
theorem w_105 : tables_1[105]? = some (Jvm.Cond.code ({ cls := "java/lang/StringUTF16", name := "checkIndex", desc := "(I[B)V" } : Jvm.MethodName) jdk_52_method_91_code (2 : Nat) (Option.none : Option Jvm.ClassFile.FieldType)) := rfl
theorem w_106 : tables_1[106]? = some (Jvm.Cond.methodLink "java/lang/StringUTF16" (48 : Nat) ({ cls := "java/lang/StringUTF16", name := "length", desc := "([B)I" } : Jvm.MethodName)) := rfl
theorem w_107 : tables_1[107]? = some (Jvm.Cond.static ({ cls := "java/lang/StringUTF16", name := "length", desc := "([B)I" } : Jvm.MethodName)) := rfl
theorem w_108 : tables_1[108]? = some (Jvm.Cond.code ({ cls := "java/lang/StringUTF16", name := "length", desc := "([B)I" } : Jvm.MethodName) jdk_52_method_6_code (1 : Nat) (Option.some Jvm.ClassFile.FieldType.int)) := rfl
theorem w_109 : tables_1[109]? = some (Jvm.Cond.methodLink "java/lang/StringUTF16" (414 : Nat) ({ cls := "java/lang/String", name := "checkIndex", desc := "(II)V" } : Jvm.MethodName)) := rfl
theorem w_110 : tables_1[110]? = some (Jvm.Cond.static ({ cls := "java/lang/String", name := "checkIndex", desc := "(II)V" } : Jvm.MethodName)) := rfl
theorem w_111 : tables_1[111]? = some (Jvm.Cond.code ({ cls := "java/lang/String", name := "checkIndex", desc := "(II)V" } : Jvm.MethodName) jdk_42_method_155_code (2 : Nat) (Option.none : Option Jvm.ClassFile.FieldType)) := rfl
theorem w_112 : tables_1[112]? = some (Jvm.Cond.fieldLink "java/lang/String" (1053 : Nat) "jdk/internal/util/Preconditions" "SIOOBE_FORMATTER" "Ljava/util/function/BiFunction;") := rfl
theorem w_113 : tables_1[113]? = some (Jvm.Cond.initialized "jdk/internal/util/Preconditions") := rfl
theorem w_114 : tables_1[114]? = some (Jvm.Cond.methodLink "java/lang/String" (1059 : Nat) ({ cls := "jdk/internal/util/Preconditions", name := "checkIndex", desc := "(IILjava/util/function/BiFunction;)I" } : Jvm.MethodName)) := rfl
theorem w_115 : tables_1[115]? = some (Jvm.Cond.static ({ cls := "jdk/internal/util/Preconditions", name := "checkIndex", desc := "(IILjava/util/function/BiFunction;)I" } : Jvm.MethodName)) := rfl
theorem w_116 : tables_1[116]? = some (Jvm.Cond.code ({ cls := "jdk/internal/util/Preconditions", name := "checkIndex", desc := "(IILjava/util/function/BiFunction;)I" } : Jvm.MethodName) jdk_41_method_11_code (3 : Nat) (Option.some Jvm.ClassFile.FieldType.int)) := rfl
theorem w_117 : tables_1[117]? = some (Jvm.Cond.fieldLink "com/example/updatable_views/updatableviews/SqlTokenIsSymbolPinLaw" (16 : Nat) "com/example/updatable_views/updatableviews/SqlToken$Kind" "STRING" "Lcom/example/updatable_views/updatableviews/SqlToken$Kind;") := rfl
theorem w_118 : tables_1[118]? = some (Jvm.Cond.laysStatic "com/example/updatable_views/updatableviews/SqlToken$Kind" "STRING" "Lcom/example/updatable_views/updatableviews/SqlToken$Kind;") := rfl
theorem w_119 : tables_1[119]? = some (Jvm.Cond.fieldLink "com/example/updatable_views/updatableviews/SqlTokenIsSymbolPinLaw" (28 : Nat) "com/example/updatable_views/updatableviews/SqlToken$Kind" "COMMENT" "Lcom/example/updatable_views/updatableviews/SqlToken$Kind;") := rfl
theorem w_120 : tables_1[120]? = some (Jvm.Cond.laysStatic "com/example/updatable_views/updatableviews/SqlToken$Kind" "COMMENT" "Lcom/example/updatable_views/updatableviews/SqlToken$Kind;") := rfl
theorem w_121 : tables_1[121]? = some (Jvm.Cond.fieldLink "com/example/updatable_views/updatableviews/SqlTokenIsSymbolPinLaw" (19 : Nat) "com/example/updatable_views/updatableviews/SqlToken$Kind" "BLOB" "Lcom/example/updatable_views/updatableviews/SqlToken$Kind;") := rfl
theorem w_122 : tables_1[122]? = some (Jvm.Cond.laysStatic "com/example/updatable_views/updatableviews/SqlToken$Kind" "BLOB" "Lcom/example/updatable_views/updatableviews/SqlToken$Kind;") := rfl
theorem w_123 : tables_1[123]? = some (Jvm.Cond.methodLink "java/lang/String" (495 : Nat) ({ cls := "java/lang/StringLatin1", name := "charAt", desc := "([BI)C" } : Jvm.MethodName)) := rfl
theorem w_124 : tables_1[124]? = some (Jvm.Cond.static ({ cls := "java/lang/StringLatin1", name := "charAt", desc := "([BI)C" } : Jvm.MethodName)) := rfl
theorem w_125 : tables_1[125]? = some (Jvm.Cond.initialized "java/lang/StringLatin1") := rfl
theorem w_126 : tables_1[126]? = some (Jvm.Cond.code ({ cls := "java/lang/StringLatin1", name := "charAt", desc := "([BI)C" } : Jvm.MethodName) jdk_43_method_2_code (2 : Nat) (Option.some Jvm.ClassFile.FieldType.char)) := rfl
theorem w_127 : tables_1[127]? = some (Jvm.Cond.methodLink "java/lang/StringLatin1" (9 : Nat) ({ cls := "java/lang/String", name := "checkIndex", desc := "(II)V" } : Jvm.MethodName)) := rfl
theorem w_128 : tables_1[128]? = some (Jvm.Cond.fieldLink "com/example/updatable_views/updatableviews/SqlTokenIsSymbolPinLaw" (13 : Nat) "com/example/updatable_views/updatableviews/SqlToken$Kind" "NUMBER" "Lcom/example/updatable_views/updatableviews/SqlToken$Kind;") := rfl
theorem w_129 : tables_1[129]? = some (Jvm.Cond.laysStatic "com/example/updatable_views/updatableviews/SqlToken$Kind" "NUMBER" "Lcom/example/updatable_views/updatableviews/SqlToken$Kind;") := rfl
theorem d_jdk_29_69_0 : decode jdk_29_method_69_code 0 = .ok (.iload_n 0, 1) := by decide +kernel
theorem d_jdk_29_69_1 : decode jdk_29_method_69_code 1 = .ok (.iload_n 1, 1) := by decide +kernel
theorem d_jdk_29_69_2 : decode jdk_29_method_69_code 2 = .ok (.if_icmp .gt 7, 3) := by decide +kernel
theorem d_jdk_29_69_5 : decode jdk_29_method_69_code 5 = .ok (.iload_n 0, 1) := by decide +kernel
theorem d_jdk_29_69_6 : decode jdk_29_method_69_code 6 = .ok (.goto 4, 3) := by decide +kernel
theorem d_jdk_29_69_9 : decode jdk_29_method_69_code 9 = .ok (.iload_n 1, 1) := by decide +kernel
theorem d_jdk_29_69_10 : decode jdk_29_method_69_code 10 = .ok (.ireturn, 1) := by decide +kernel
theorem d_jdk_41_11_0 : decode jdk_41_method_11_code 0 = .ok (.iload_n 0, 1) := by decide +kernel
theorem d_jdk_41_11_1 : decode jdk_41_method_11_code 1 = .ok (.ifCond .lt 8, 3) := by decide +kernel
theorem d_jdk_41_11_4 : decode jdk_41_method_11_code 4 = .ok (.iload_n 0, 1) := by decide +kernel
theorem d_jdk_41_11_5 : decode jdk_41_method_11_code 5 = .ok (.iload_n 1, 1) := by decide +kernel
theorem d_jdk_41_11_6 : decode jdk_41_method_11_code 6 = .ok (.if_icmp .lt 10, 3) := by decide +kernel
theorem d_jdk_41_11_16 : decode jdk_41_method_11_code 16 = .ok (.iload_n 0, 1) := by decide +kernel
theorem d_jdk_41_11_17 : decode jdk_41_method_11_code 17 = .ok (.ireturn, 1) := by decide +kernel
theorem d_jdk_42_149_0 : decode jdk_42_method_149_code 0 = .ok (.aload_n 0, 1) := by decide +kernel
theorem d_jdk_42_149_1 : decode jdk_42_method_149_code 1 = .ok (.invokespecial 1, 3) := by decide +kernel
theorem d_jdk_42_149_4 : decode jdk_42_method_149_code 4 = .ok (.iload_n 3, 1) := by decide +kernel
theorem d_jdk_42_149_5 : decode jdk_42_method_149_code 5 = .ok (.ifCond .ne 22, 3) := by decide +kernel
theorem d_jdk_42_149_27 : decode jdk_42_method_149_code 27 = .ok (.getstatic 38, 3) := by decide +kernel
theorem d_jdk_42_149_30 : decode jdk_42_method_149_code 30 = .ok (.ifCond .eq 28, 3) := by decide +kernel
theorem d_jdk_42_149_33 : decode jdk_42_method_149_code 33 = .ok (.aload_n 1, 1) := by decide +kernel
theorem d_jdk_42_149_34 : decode jdk_42_method_149_code 34 = .ok (.iload_n 2, 1) := by decide +kernel
theorem d_jdk_42_149_35 : decode jdk_42_method_149_code 35 = .ok (.iload_n 3, 1) := by decide +kernel
theorem d_jdk_42_149_36 : decode jdk_42_method_149_code 36 = .ok (.invokestatic 177, 3) := by decide +kernel
theorem d_jdk_42_149_39 : decode jdk_42_method_149_code 39 = .ok (.astore 5, 2) := by decide +kernel
theorem d_jdk_42_149_41 : decode jdk_42_method_149_code 41 = .ok (.aload_n 0, 1) := by decide +kernel
theorem d_jdk_42_149_42 : decode jdk_42_method_149_code 42 = .ok (.aload 5, 2) := by decide +kernel
theorem d_jdk_42_149_44 : decode jdk_42_method_149_code 44 = .ok (.iload_n 3, 1) := by decide +kernel
theorem d_jdk_42_149_45 : decode jdk_42_method_149_code 45 = .ok (.invokestatic 47, 3) := by decide +kernel
theorem d_jdk_42_149_48 : decode jdk_42_method_149_code 48 = .ok (.putfield 15, 3) := by decide +kernel
theorem d_jdk_42_149_51 : decode jdk_42_method_149_code 51 = .ok (.aload_n 0, 1) := by decide +kernel
theorem d_jdk_42_149_52 : decode jdk_42_method_149_code 52 = .ok (.aload 5, 2) := by decide +kernel
theorem d_jdk_42_149_54 : decode jdk_42_method_149_code 54 = .ok (.putfield 9, 3) := by decide +kernel
theorem d_jdk_42_149_57 : decode jdk_42_method_149_code 57 = .ok (.return_, 1) := by decide +kernel
theorem d_jdk_42_154_0 : decode jdk_42_method_154_code 0 = .ok (.getstatic 38, 3) := by decide +kernel
theorem d_jdk_42_154_3 : decode jdk_42_method_154_code 3 = .ok (.ifCond .eq 14, 3) := by decide +kernel
theorem d_jdk_42_154_6 : decode jdk_42_method_154_code 6 = .ok (.aload_n 0, 1) := by decide +kernel
theorem d_jdk_42_154_7 : decode jdk_42_method_154_code 7 = .ok (.getfield 15, 3) := by decide +kernel
theorem d_jdk_42_154_10 : decode jdk_42_method_154_code 10 = .ok (.ifCond .ne 7, 3) := by decide +kernel
theorem d_jdk_42_154_13 : decode jdk_42_method_154_code 13 = .ok (.iconst 1, 1) := by decide +kernel
theorem d_jdk_42_154_14 : decode jdk_42_method_154_code 14 = .ok (.goto 4, 3) := by decide +kernel
theorem d_jdk_42_154_17 : decode jdk_42_method_154_code 17 = .ok (.iconst 0, 1) := by decide +kernel
theorem d_jdk_42_154_18 : decode jdk_42_method_154_code 18 = .ok (.ireturn, 1) := by decide +kernel
theorem d_jdk_42_155_0 : decode jdk_42_method_155_code 0 = .ok (.iload_n 0, 1) := by decide +kernel
theorem d_jdk_42_155_1 : decode jdk_42_method_155_code 1 = .ok (.iload_n 1, 1) := by decide +kernel
theorem d_jdk_42_155_2 : decode jdk_42_method_155_code 2 = .ok (.getstatic 1053, 3) := by decide +kernel
theorem d_jdk_42_155_5 : decode jdk_42_method_155_code 5 = .ok (.invokestatic 1059, 3) := by decide +kernel
theorem d_jdk_42_155_8 : decode jdk_42_method_155_code 8 = .ok (.pop, 1) := by decide +kernel
theorem d_jdk_42_155_9 : decode jdk_42_method_155_code 9 = .ok (.return_, 1) := by decide +kernel
theorem d_jdk_42_3_0 : decode jdk_42_method_3_code 0 = .ok (.aload_n 0, 1) := by decide +kernel
theorem d_jdk_42_3_1 : decode jdk_42_method_3_code 1 = .ok (.aload_n 1, 1) := by decide +kernel
theorem d_jdk_42_3_2 : decode jdk_42_method_3_code 2 = .ok (.iconst 0, 1) := by decide +kernel
theorem d_jdk_42_3_3 : decode jdk_42_method_3_code 3 = .ok (.aload_n 1, 1) := by decide +kernel
theorem d_jdk_42_3_4 : decode jdk_42_method_3_code 4 = .ok (.arraylength, 1) := by decide +kernel
theorem d_jdk_42_3_5 : decode jdk_42_method_3_code 5 = .ok (.aconst_null, 1) := by decide +kernel
theorem d_jdk_42_3_6 : decode jdk_42_method_3_code 6 = .ok (.invokespecial 27, 3) := by decide +kernel
theorem d_jdk_42_3_9 : decode jdk_42_method_3_code 9 = .ok (.return_, 1) := by decide +kernel
theorem d_jdk_42_56_0 : decode jdk_42_method_56_code 0 = .ok (.aload_n 0, 1) := by decide +kernel
theorem d_jdk_42_56_1 : decode jdk_42_method_56_code 1 = .ok (.invokevirtual 492, 3) := by decide +kernel
theorem d_jdk_42_56_4 : decode jdk_42_method_56_code 4 = .ok (.ifCond .eq 12, 3) := by decide +kernel
theorem d_jdk_42_56_7 : decode jdk_42_method_56_code 7 = .ok (.aload_n 0, 1) := by decide +kernel
theorem d_jdk_42_56_8 : decode jdk_42_method_56_code 8 = .ok (.getfield 9, 3) := by decide +kernel
theorem d_jdk_42_56_11 : decode jdk_42_method_56_code 11 = .ok (.iload_n 1, 1) := by decide +kernel
theorem d_jdk_42_56_12 : decode jdk_42_method_56_code 12 = .ok (.invokestatic 495, 3) := by decide +kernel
theorem d_jdk_42_56_15 : decode jdk_42_method_56_code 15 = .ok (.ireturn, 1) := by decide +kernel
theorem d_jdk_42_56_16 : decode jdk_42_method_56_code 16 = .ok (.aload_n 0, 1) := by decide +kernel
theorem d_jdk_42_56_17 : decode jdk_42_method_56_code 17 = .ok (.getfield 9, 3) := by decide +kernel
theorem d_jdk_42_56_20 : decode jdk_42_method_56_code 20 = .ok (.iload_n 1, 1) := by decide +kernel
theorem d_jdk_42_56_21 : decode jdk_42_method_56_code 21 = .ok (.invokestatic 498, 3) := by decide +kernel
theorem d_jdk_42_56_24 : decode jdk_42_method_56_code 24 = .ok (.ireturn, 1) := by decide +kernel
theorem d_jdk_43_2_0 : decode jdk_43_method_2_code 0 = .ok (.iload_n 1, 1) := by decide +kernel
theorem d_jdk_43_2_1 : decode jdk_43_method_2_code 1 = .ok (.aload_n 0, 1) := by decide +kernel
theorem d_jdk_43_2_2 : decode jdk_43_method_2_code 2 = .ok (.arraylength, 1) := by decide +kernel
theorem d_jdk_43_2_3 : decode jdk_43_method_2_code 3 = .ok (.invokestatic 9, 3) := by decide +kernel
theorem d_jdk_43_2_6 : decode jdk_43_method_2_code 6 = .ok (.aload_n 0, 1) := by decide +kernel
theorem d_jdk_43_2_7 : decode jdk_43_method_2_code 7 = .ok (.iload_n 1, 1) := by decide +kernel
theorem d_jdk_43_2_8 : decode jdk_43_method_2_code 8 = .ok (.baload, 1) := by decide +kernel
theorem d_jdk_43_2_9 : decode jdk_43_method_2_code 9 = .ok (.sipush 255, 3) := by decide +kernel
theorem d_jdk_43_2_12 : decode jdk_43_method_2_code 12 = .ok (.iand, 1) := by decide +kernel
theorem d_jdk_43_2_13 : decode jdk_43_method_2_code 13 = .ok (.i2c, 1) := by decide +kernel
theorem d_jdk_43_2_14 : decode jdk_43_method_2_code 14 = .ok (.ireturn, 1) := by decide +kernel
theorem d_jdk_52_14_0 : decode jdk_52_method_14_code 0 = .ok (.iload_n 2, 1) := by decide +kernel
theorem d_jdk_52_14_1 : decode jdk_52_method_14_code 1 = .ok (.invokestatic 107, 3) := by decide +kernel
theorem d_jdk_52_14_4 : decode jdk_52_method_14_code 4 = .ok (.astore_n 3, 1) := by decide +kernel
theorem d_jdk_52_14_5 : decode jdk_52_method_14_code 5 = .ok (.iconst 0, 1) := by decide +kernel
theorem d_jdk_52_14_6 : decode jdk_52_method_14_code 6 = .ok (.istore 4, 2) := by decide +kernel
theorem d_jdk_52_14_8 : decode jdk_52_method_14_code 8 = .ok (.iload 4, 2) := by decide +kernel
theorem d_jdk_52_14_10 : decode jdk_52_method_14_code 10 = .ok (.iload_n 2, 1) := by decide +kernel
theorem d_jdk_52_14_11 : decode jdk_52_method_14_code 11 = .ok (.if_icmp .ge 21, 3) := by decide +kernel
theorem d_jdk_52_14_14 : decode jdk_52_method_14_code 14 = .ok (.aload_n 3, 1) := by decide +kernel
theorem d_jdk_52_14_15 : decode jdk_52_method_14_code 15 = .ok (.iload 4, 2) := by decide +kernel
theorem d_jdk_52_14_17 : decode jdk_52_method_14_code 17 = .ok (.aload_n 0, 1) := by decide +kernel
theorem d_jdk_52_14_18 : decode jdk_52_method_14_code 18 = .ok (.iload_n 1, 1) := by decide +kernel
theorem d_jdk_52_14_19 : decode jdk_52_method_14_code 19 = .ok (.caload, 1) := by decide +kernel
theorem d_jdk_52_14_20 : decode jdk_52_method_14_code 20 = .ok (.invokestatic 111, 3) := by decide +kernel
theorem d_jdk_52_14_23 : decode jdk_52_method_14_code 23 = .ok (.iinc 1 1, 3) := by decide +kernel
theorem d_jdk_52_14_26 : decode jdk_52_method_14_code 26 = .ok (.iinc 4 1, 3) := by decide +kernel
theorem d_jdk_52_14_29 : decode jdk_52_method_14_code 29 = .ok (.goto (-21), 3) := by decide +kernel
theorem d_jdk_52_14_32 : decode jdk_52_method_14_code 32 = .ok (.aload_n 3, 1) := by decide +kernel
theorem d_jdk_52_14_33 : decode jdk_52_method_14_code 33 = .ok (.areturn, 1) := by decide +kernel
theorem d_jdk_52_15_0 : decode jdk_52_method_15_code 0 = .ok (.iload_n 1, 1) := by decide +kernel
theorem d_jdk_52_15_1 : decode jdk_52_method_15_code 1 = .ok (.aload_n 0, 1) := by decide +kernel
theorem d_jdk_52_15_2 : decode jdk_52_method_15_code 2 = .ok (.arraylength, 1) := by decide +kernel
theorem d_jdk_52_15_3 : decode jdk_52_method_15_code 3 = .ok (.isub, 1) := by decide +kernel
theorem d_jdk_52_15_4 : decode jdk_52_method_15_code 4 = .ok (.bipush 31, 2) := by decide +kernel
theorem d_jdk_52_15_6 : decode jdk_52_method_15_code 6 = .ok (.iushr, 1) := by decide +kernel
theorem d_jdk_52_15_7 : decode jdk_52_method_15_code 7 = .ok (.i2b, 1) := by decide +kernel
theorem d_jdk_52_15_8 : decode jdk_52_method_15_code 8 = .ok (.ireturn, 1) := by decide +kernel
theorem d_jdk_52_16_0 : decode jdk_52_method_16_code 0 = .ok (.iload_n 2, 1) := by decide +kernel
theorem d_jdk_52_16_1 : decode jdk_52_method_16_code 1 = .ok (.newarray .byte, 2) := by decide +kernel
theorem d_jdk_52_16_3 : decode jdk_52_method_16_code 3 = .ok (.astore_n 3, 1) := by decide +kernel
theorem d_jdk_52_16_4 : decode jdk_52_method_16_code 4 = .ok (.aload_n 0, 1) := by decide +kernel
theorem d_jdk_52_16_5 : decode jdk_52_method_16_code 5 = .ok (.iload_n 1, 1) := by decide +kernel
theorem d_jdk_52_16_6 : decode jdk_52_method_16_code 6 = .ok (.aload_n 3, 1) := by decide +kernel
theorem d_jdk_52_16_7 : decode jdk_52_method_16_code 7 = .ok (.iconst 0, 1) := by decide +kernel
theorem d_jdk_52_16_8 : decode jdk_52_method_16_code 8 = .ok (.iload_n 2, 1) := by decide +kernel
theorem d_jdk_52_16_9 : decode jdk_52_method_16_code 9 = .ok (.invokestatic 115, 3) := by decide +kernel
theorem d_jdk_52_16_12 : decode jdk_52_method_16_code 12 = .ok (.istore 4, 2) := by decide +kernel
theorem d_jdk_52_16_14 : decode jdk_52_method_16_code 14 = .ok (.iload 4, 2) := by decide +kernel
theorem d_jdk_52_16_16 : decode jdk_52_method_16_code 16 = .ok (.iload_n 2, 1) := by decide +kernel
theorem d_jdk_52_16_17 : decode jdk_52_method_16_code 17 = .ok (.if_icmp .eq 40, 3) := by decide +kernel
theorem d_jdk_52_16_20 : decode jdk_52_method_16_code 20 = .ok (.aload_n 0, 1) := by decide +kernel
theorem d_jdk_52_16_21 : decode jdk_52_method_16_code 21 = .ok (.iload_n 1, 1) := by decide +kernel
theorem d_jdk_52_16_22 : decode jdk_52_method_16_code 22 = .ok (.iload_n 2, 1) := by decide +kernel
theorem d_jdk_52_16_23 : decode jdk_52_method_16_code 23 = .ok (.invokestatic 119, 3) := by decide +kernel
theorem d_jdk_52_16_26 : decode jdk_52_method_16_code 26 = .ok (.astore 5, 2) := by decide +kernel
theorem d_jdk_52_16_28 : decode jdk_52_method_16_code 28 = .ok (.aload 5, 2) := by decide +kernel
theorem d_jdk_52_16_30 : decode jdk_52_method_16_code 30 = .ok (.iload 4, 2) := by decide +kernel
theorem d_jdk_52_16_32 : decode jdk_52_method_16_code 32 = .ok (.invokestatic 71, 3) := by decide +kernel
theorem d_jdk_52_16_35 : decode jdk_52_method_16_code 35 = .ok (.sipush 255, 3) := by decide +kernel
theorem d_jdk_52_16_38 : decode jdk_52_method_16_code 38 = .ok (.if_icmp .gt 16, 3) := by decide +kernel
theorem d_jdk_52_16_54 : decode jdk_52_method_16_code 54 = .ok (.aload 5, 2) := by decide +kernel
theorem d_jdk_52_16_56 : decode jdk_52_method_16_code 56 = .ok (.areturn, 1) := by decide +kernel
theorem d_jdk_52_16_57 : decode jdk_52_method_16_code 57 = .ok (.aload_n 3, 1) := by decide +kernel
theorem d_jdk_52_16_58 : decode jdk_52_method_16_code 58 = .ok (.areturn, 1) := by decide +kernel
theorem d_jdk_52_21_0 : decode jdk_52_method_21_code 0 = .ok (.iconst 0, 1) := by decide +kernel
theorem d_jdk_52_21_1 : decode jdk_52_method_21_code 1 = .ok (.istore 5, 2) := by decide +kernel
theorem d_jdk_52_21_3 : decode jdk_52_method_21_code 3 = .ok (.iload 5, 2) := by decide +kernel
theorem d_jdk_52_21_5 : decode jdk_52_method_21_code 5 = .ok (.iload 4, 2) := by decide +kernel
theorem d_jdk_52_21_7 : decode jdk_52_method_21_code 7 = .ok (.if_icmp .ge 37, 3) := by decide +kernel
theorem d_jdk_52_21_10 : decode jdk_52_method_21_code 10 = .ok (.aload_n 0, 1) := by decide +kernel
theorem d_jdk_52_21_11 : decode jdk_52_method_21_code 11 = .ok (.iload_n 1, 1) := by decide +kernel
theorem d_jdk_52_21_12 : decode jdk_52_method_21_code 12 = .ok (.caload, 1) := by decide +kernel
theorem d_jdk_52_21_13 : decode jdk_52_method_21_code 13 = .ok (.istore 6, 2) := by decide +kernel
theorem d_jdk_52_21_15 : decode jdk_52_method_21_code 15 = .ok (.iload 6, 2) := by decide +kernel
theorem d_jdk_52_21_17 : decode jdk_52_method_21_code 17 = .ok (.sipush 255, 3) := by decide +kernel
theorem d_jdk_52_21_20 : decode jdk_52_method_21_code 20 = .ok (.if_icmp .le 6, 3) := by decide +kernel
theorem d_jdk_52_21_23 : decode jdk_52_method_21_code 23 = .ok (.iload 5, 2) := by decide +kernel
theorem d_jdk_52_21_25 : decode jdk_52_method_21_code 25 = .ok (.ireturn, 1) := by decide +kernel
theorem d_jdk_52_21_26 : decode jdk_52_method_21_code 26 = .ok (.aload_n 2, 1) := by decide +kernel
theorem d_jdk_52_21_27 : decode jdk_52_method_21_code 27 = .ok (.iload_n 3, 1) := by decide +kernel
theorem d_jdk_52_21_28 : decode jdk_52_method_21_code 28 = .ok (.iload 6, 2) := by decide +kernel
theorem d_jdk_52_21_30 : decode jdk_52_method_21_code 30 = .ok (.i2b, 1) := by decide +kernel
theorem d_jdk_52_21_31 : decode jdk_52_method_21_code 31 = .ok (.bastore, 1) := by decide +kernel
theorem d_jdk_52_21_32 : decode jdk_52_method_21_code 32 = .ok (.iinc 1 1, 3) := by decide +kernel
theorem d_jdk_52_21_35 : decode jdk_52_method_21_code 35 = .ok (.iinc 3 1, 3) := by decide +kernel
theorem d_jdk_52_21_38 : decode jdk_52_method_21_code 38 = .ok (.iinc 5 1, 3) := by decide +kernel
theorem d_jdk_52_21_41 : decode jdk_52_method_21_code 41 = .ok (.goto (-38), 3) := by decide +kernel
theorem d_jdk_52_21_44 : decode jdk_52_method_21_code 44 = .ok (.iload 4, 2) := by decide +kernel
theorem d_jdk_52_21_46 : decode jdk_52_method_21_code 46 = .ok (.ireturn, 1) := by decide +kernel
theorem d_jdk_52_2_0 : decode jdk_52_method_2_code 0 = .ok (.iload_n 0, 1) := by decide +kernel
theorem d_jdk_52_2_1 : decode jdk_52_method_2_code 1 = .ok (.invokestatic 11, 3) := by decide +kernel
theorem d_jdk_52_2_4 : decode jdk_52_method_2_code 4 = .ok (.newarray .byte, 2) := by decide +kernel
theorem d_jdk_52_2_6 : decode jdk_52_method_2_code 6 = .ok (.areturn, 1) := by decide +kernel
theorem d_jdk_52_3_0 : decode jdk_52_method_3_code 0 = .ok (.iload_n 0, 1) := by decide +kernel
theorem d_jdk_52_3_1 : decode jdk_52_method_3_code 1 = .ok (.ifCond .ge 11, 3) := by decide +kernel
theorem d_jdk_52_3_12 : decode jdk_52_method_3_code 12 = .ok (.iload_n 0, 1) := by decide +kernel
theorem d_jdk_52_3_13 : decode jdk_52_method_3_code 13 = .ok (.ldc 20, 2) := by decide +kernel
theorem d_jdk_52_3_15 : decode jdk_52_method_3_code 15 = .ok (.if_icmp .lt 40, 3) := by decide +kernel
theorem d_jdk_52_3_55 : decode jdk_52_method_3_code 55 = .ok (.iload_n 0, 1) := by decide +kernel
theorem d_jdk_52_3_56 : decode jdk_52_method_3_code 56 = .ok (.iconst 1, 1) := by decide +kernel
theorem d_jdk_52_3_57 : decode jdk_52_method_3_code 57 = .ok (.ishl, 1) := by decide +kernel
theorem d_jdk_52_3_58 : decode jdk_52_method_3_code 58 = .ok (.ireturn, 1) := by decide +kernel
theorem d_jdk_52_4_0 : decode jdk_52_method_4_code 0 = .ok (.getstatic 44, 3) := by decide +kernel
theorem d_jdk_52_4_3 : decode jdk_52_method_4_code 3 = .ok (.ifCond .ne 25, 3) := by decide +kernel
theorem d_jdk_52_4_28 : decode jdk_52_method_4_code 28 = .ok (.iload_n 1, 1) := by decide +kernel
theorem d_jdk_52_4_29 : decode jdk_52_method_4_code 29 = .ok (.iconst 1, 1) := by decide +kernel
theorem d_jdk_52_4_30 : decode jdk_52_method_4_code 30 = .ok (.ishl, 1) := by decide +kernel
theorem d_jdk_52_4_31 : decode jdk_52_method_4_code 31 = .ok (.istore_n 1, 1) := by decide +kernel
theorem d_jdk_52_4_32 : decode jdk_52_method_4_code 32 = .ok (.aload_n 0, 1) := by decide +kernel
theorem d_jdk_52_4_33 : decode jdk_52_method_4_code 33 = .ok (.iload_n 1, 1) := by decide +kernel
theorem d_jdk_52_4_34 : decode jdk_52_method_4_code 34 = .ok (.iinc 1 1, 3) := by decide +kernel
theorem d_jdk_52_4_37 : decode jdk_52_method_4_code 37 = .ok (.iload_n 2, 1) := by decide +kernel
theorem d_jdk_52_4_38 : decode jdk_52_method_4_code 38 = .ok (.getstatic 59, 3) := by decide +kernel
theorem d_jdk_52_4_41 : decode jdk_52_method_4_code 41 = .ok (.ishr, 1) := by decide +kernel
theorem d_jdk_52_4_42 : decode jdk_52_method_4_code 42 = .ok (.i2b, 1) := by decide +kernel
theorem d_jdk_52_4_43 : decode jdk_52_method_4_code 43 = .ok (.bastore, 1) := by decide +kernel
theorem d_jdk_52_4_44 : decode jdk_52_method_4_code 44 = .ok (.aload_n 0, 1) := by decide +kernel
theorem d_jdk_52_4_45 : decode jdk_52_method_4_code 45 = .ok (.iload_n 1, 1) := by decide +kernel
theorem d_jdk_52_4_46 : decode jdk_52_method_4_code 46 = .ok (.iload_n 2, 1) := by decide +kernel
theorem d_jdk_52_4_47 : decode jdk_52_method_4_code 47 = .ok (.getstatic 63, 3) := by decide +kernel
theorem d_jdk_52_4_50 : decode jdk_52_method_4_code 50 = .ok (.ishr, 1) := by decide +kernel
theorem d_jdk_52_4_51 : decode jdk_52_method_4_code 51 = .ok (.i2b, 1) := by decide +kernel
theorem d_jdk_52_4_52 : decode jdk_52_method_4_code 52 = .ok (.bastore, 1) := by decide +kernel
theorem d_jdk_52_4_53 : decode jdk_52_method_4_code 53 = .ok (.return_, 1) := by decide +kernel
theorem d_jdk_52_5_0 : decode jdk_52_method_5_code 0 = .ok (.getstatic 44, 3) := by decide +kernel
theorem d_jdk_52_5_3 : decode jdk_52_method_5_code 3 = .ok (.ifCond .ne 25, 3) := by decide +kernel
theorem d_jdk_52_5_28 : decode jdk_52_method_5_code 28 = .ok (.iload_n 1, 1) := by decide +kernel
theorem d_jdk_52_5_29 : decode jdk_52_method_5_code 29 = .ok (.iconst 1, 1) := by decide +kernel
theorem d_jdk_52_5_30 : decode jdk_52_method_5_code 30 = .ok (.ishl, 1) := by decide +kernel
theorem d_jdk_52_5_31 : decode jdk_52_method_5_code 31 = .ok (.istore_n 1, 1) := by decide +kernel
theorem d_jdk_52_5_32 : decode jdk_52_method_5_code 32 = .ok (.aload_n 0, 1) := by decide +kernel
theorem d_jdk_52_5_33 : decode jdk_52_method_5_code 33 = .ok (.iload_n 1, 1) := by decide +kernel
theorem d_jdk_52_5_34 : decode jdk_52_method_5_code 34 = .ok (.iinc 1 1, 3) := by decide +kernel
theorem d_jdk_52_5_37 : decode jdk_52_method_5_code 37 = .ok (.baload, 1) := by decide +kernel
theorem d_jdk_52_5_38 : decode jdk_52_method_5_code 38 = .ok (.sipush 255, 3) := by decide +kernel
theorem d_jdk_52_5_41 : decode jdk_52_method_5_code 41 = .ok (.iand, 1) := by decide +kernel
theorem d_jdk_52_5_42 : decode jdk_52_method_5_code 42 = .ok (.getstatic 59, 3) := by decide +kernel
theorem d_jdk_52_5_45 : decode jdk_52_method_5_code 45 = .ok (.ishl, 1) := by decide +kernel
theorem d_jdk_52_5_46 : decode jdk_52_method_5_code 46 = .ok (.aload_n 0, 1) := by decide +kernel
theorem d_jdk_52_5_47 : decode jdk_52_method_5_code 47 = .ok (.iload_n 1, 1) := by decide +kernel
theorem d_jdk_52_5_48 : decode jdk_52_method_5_code 48 = .ok (.baload, 1) := by decide +kernel
theorem d_jdk_52_5_49 : decode jdk_52_method_5_code 49 = .ok (.sipush 255, 3) := by decide +kernel
theorem d_jdk_52_5_52 : decode jdk_52_method_5_code 52 = .ok (.iand, 1) := by decide +kernel
theorem d_jdk_52_5_53 : decode jdk_52_method_5_code 53 = .ok (.getstatic 63, 3) := by decide +kernel
theorem d_jdk_52_5_56 : decode jdk_52_method_5_code 56 = .ok (.ishl, 1) := by decide +kernel
theorem d_jdk_52_5_57 : decode jdk_52_method_5_code 57 = .ok (.ior, 1) := by decide +kernel
theorem d_jdk_52_5_58 : decode jdk_52_method_5_code 58 = .ok (.i2c, 1) := by decide +kernel
theorem d_jdk_52_5_59 : decode jdk_52_method_5_code 59 = .ok (.ireturn, 1) := by decide +kernel
theorem d_jdk_52_6_0 : decode jdk_52_method_6_code 0 = .ok (.aload_n 0, 1) := by decide +kernel
theorem d_jdk_52_6_1 : decode jdk_52_method_6_code 1 = .ok (.arraylength, 1) := by decide +kernel
theorem d_jdk_52_6_2 : decode jdk_52_method_6_code 2 = .ok (.iconst 1, 1) := by decide +kernel
theorem d_jdk_52_6_3 : decode jdk_52_method_6_code 3 = .ok (.ishr, 1) := by decide +kernel
theorem d_jdk_52_6_4 : decode jdk_52_method_6_code 4 = .ok (.ireturn, 1) := by decide +kernel
theorem d_jdk_52_83_0 : decode jdk_52_method_83_code 0 = .ok (.iload_n 1, 1) := by decide +kernel
theorem d_jdk_52_83_1 : decode jdk_52_method_83_code 1 = .ok (.aload_n 0, 1) := by decide +kernel
theorem d_jdk_52_83_2 : decode jdk_52_method_83_code 2 = .ok (.invokestatic 67, 3) := by decide +kernel
theorem d_jdk_52_83_5 : decode jdk_52_method_83_code 5 = .ok (.aload_n 0, 1) := by decide +kernel
theorem d_jdk_52_83_6 : decode jdk_52_method_83_code 6 = .ok (.iload_n 1, 1) := by decide +kernel
theorem d_jdk_52_83_7 : decode jdk_52_method_83_code 7 = .ok (.invokestatic 71, 3) := by decide +kernel
theorem d_jdk_52_83_10 : decode jdk_52_method_83_code 10 = .ok (.ireturn, 1) := by decide +kernel
theorem d_jdk_52_91_0 : decode jdk_52_method_91_code 0 = .ok (.iload_n 0, 1) := by decide +kernel
theorem d_jdk_52_91_1 : decode jdk_52_method_91_code 1 = .ok (.aload_n 1, 1) := by decide +kernel
theorem d_jdk_52_91_2 : decode jdk_52_method_91_code 2 = .ok (.invokestatic 48, 3) := by decide +kernel
theorem d_jdk_52_91_5 : decode jdk_52_method_91_code 5 = .ok (.invokestatic 414, 3) := by decide +kernel
theorem d_jdk_52_91_8 : decode jdk_52_method_91_code 8 = .ok (.return_, 1) := by decide +kernel
theorem d_method_2_0 : decode method_2_code 0 = .ok (.iload_n 0, 1) := by decide +kernel
theorem d_method_2_1 : decode method_2_code 1 = .ok (.ifCond .ne 7, 3) := by decide +kernel
theorem d_method_2_4 : decode method_2_code 4 = .ok (.getstatic 7, 3) := by decide +kernel
theorem d_method_2_7 : decode method_2_code 7 = .ok (.areturn, 1) := by decide +kernel
theorem d_method_2_8 : decode method_2_code 8 = .ok (.iload_n 0, 1) := by decide +kernel
theorem d_method_2_9 : decode method_2_code 9 = .ok (.iconst 1, 1) := by decide +kernel
theorem d_method_2_10 : decode method_2_code 10 = .ok (.if_icmp .ne 7, 3) := by decide +kernel
theorem d_method_2_13 : decode method_2_code 13 = .ok (.getstatic 13, 3) := by decide +kernel
theorem d_method_2_16 : decode method_2_code 16 = .ok (.areturn, 1) := by decide +kernel
theorem d_method_2_17 : decode method_2_code 17 = .ok (.iload_n 0, 1) := by decide +kernel
theorem d_method_2_18 : decode method_2_code 18 = .ok (.iconst 2, 1) := by decide +kernel
theorem d_method_2_19 : decode method_2_code 19 = .ok (.if_icmp .ne 7, 3) := by decide +kernel
theorem d_method_2_22 : decode method_2_code 22 = .ok (.getstatic 16, 3) := by decide +kernel
theorem d_method_2_25 : decode method_2_code 25 = .ok (.areturn, 1) := by decide +kernel
theorem d_method_2_26 : decode method_2_code 26 = .ok (.iload_n 0, 1) := by decide +kernel
theorem d_method_2_27 : decode method_2_code 27 = .ok (.iconst 3, 1) := by decide +kernel
theorem d_method_2_28 : decode method_2_code 28 = .ok (.if_icmp .ne 7, 3) := by decide +kernel
theorem d_method_2_31 : decode method_2_code 31 = .ok (.getstatic 19, 3) := by decide +kernel
theorem d_method_2_34 : decode method_2_code 34 = .ok (.areturn, 1) := by decide +kernel
theorem d_method_2_35 : decode method_2_code 35 = .ok (.iload_n 0, 1) := by decide +kernel
theorem d_method_2_36 : decode method_2_code 36 = .ok (.iconst 4, 1) := by decide +kernel
theorem d_method_2_37 : decode method_2_code 37 = .ok (.if_icmp .ne 7, 3) := by decide +kernel
theorem d_method_2_40 : decode method_2_code 40 = .ok (.getstatic 22, 3) := by decide +kernel
theorem d_method_2_43 : decode method_2_code 43 = .ok (.areturn, 1) := by decide +kernel
theorem d_method_2_44 : decode method_2_code 44 = .ok (.iload_n 0, 1) := by decide +kernel
theorem d_method_2_45 : decode method_2_code 45 = .ok (.iconst 5, 1) := by decide +kernel
theorem d_method_2_46 : decode method_2_code 46 = .ok (.if_icmp .ne 7, 3) := by decide +kernel
theorem d_method_2_49 : decode method_2_code 49 = .ok (.getstatic 25, 3) := by decide +kernel
theorem d_method_2_52 : decode method_2_code 52 = .ok (.areturn, 1) := by decide +kernel
theorem d_method_2_53 : decode method_2_code 53 = .ok (.iload_n 0, 1) := by decide +kernel
theorem d_method_2_54 : decode method_2_code 54 = .ok (.bipush 6, 2) := by decide +kernel
theorem d_method_2_56 : decode method_2_code 56 = .ok (.if_icmp .ne 7, 3) := by decide +kernel
theorem d_method_2_59 : decode method_2_code 59 = .ok (.getstatic 28, 3) := by decide +kernel
theorem d_method_2_62 : decode method_2_code 62 = .ok (.areturn, 1) := by decide +kernel
theorem d_method_2_63 : decode method_2_code 63 = .ok (.getstatic 31, 3) := by decide +kernel
theorem d_method_2_66 : decode method_2_code 66 = .ok (.areturn, 1) := by decide +kernel
theorem d_prog_10_1_0 : decode prog_10_method_1_code 0 = .ok (.aload_n 0, 1) := by decide +kernel
theorem d_prog_10_1_1 : decode prog_10_method_1_code 1 = .ok (.invokespecial 1, 3) := by decide +kernel
theorem d_prog_10_1_4 : decode prog_10_method_1_code 4 = .ok (.aload_n 0, 1) := by decide +kernel
theorem d_prog_10_1_5 : decode prog_10_method_1_code 5 = .ok (.aload_n 1, 1) := by decide +kernel
theorem d_prog_10_1_6 : decode prog_10_method_1_code 6 = .ok (.putfield 7, 3) := by decide +kernel
theorem d_prog_10_1_9 : decode prog_10_method_1_code 9 = .ok (.aload_n 0, 1) := by decide +kernel
theorem d_prog_10_1_10 : decode prog_10_method_1_code 10 = .ok (.iload_n 2, 1) := by decide +kernel
theorem d_prog_10_1_11 : decode prog_10_method_1_code 11 = .ok (.putfield 13, 3) := by decide +kernel
theorem d_prog_10_1_14 : decode prog_10_method_1_code 14 = .ok (.aload_n 0, 1) := by decide +kernel
theorem d_prog_10_1_15 : decode prog_10_method_1_code 15 = .ok (.iload_n 3, 1) := by decide +kernel
theorem d_prog_10_1_16 : decode prog_10_method_1_code 16 = .ok (.putfield 17, 3) := by decide +kernel
theorem d_prog_10_1_19 : decode prog_10_method_1_code 19 = .ok (.return_, 1) := by decide +kernel
theorem d_prog_10_6_0 : decode prog_10_method_6_code 0 = .ok (.aload_n 0, 1) := by decide +kernel
theorem d_prog_10_6_1 : decode prog_10_method_6_code 1 = .ok (.getfield 7, 3) := by decide +kernel
theorem d_prog_10_6_4 : decode prog_10_method_6_code 4 = .ok (.getstatic 38, 3) := by decide +kernel
theorem d_prog_10_6_7 : decode prog_10_method_6_code 7 = .ok (.if_acmp .ne 21, 3) := by decide +kernel
theorem d_prog_10_6_10 : decode prog_10_method_6_code 10 = .ok (.aload_n 1, 1) := by decide +kernel
theorem d_prog_10_6_11 : decode prog_10_method_6_code 11 = .ok (.aload_n 0, 1) := by decide +kernel
theorem d_prog_10_6_12 : decode prog_10_method_6_code 12 = .ok (.getfield 13, 3) := by decide +kernel
theorem d_prog_10_6_15 : decode prog_10_method_6_code 15 = .ok (.invokeinterface 31 2, 5) := by decide +kernel
theorem d_prog_10_6_20 : decode prog_10_method_6_code 20 = .ok (.iload_n 2, 1) := by decide +kernel
theorem d_prog_10_6_21 : decode prog_10_method_6_code 21 = .ok (.if_icmp .ne 7, 3) := by decide +kernel
theorem d_prog_10_6_24 : decode prog_10_method_6_code 24 = .ok (.iconst 1, 1) := by decide +kernel
theorem d_prog_10_6_25 : decode prog_10_method_6_code 25 = .ok (.goto 4, 3) := by decide +kernel
theorem d_prog_10_6_28 : decode prog_10_method_6_code 28 = .ok (.iconst 0, 1) := by decide +kernel
theorem d_prog_10_6_29 : decode prog_10_method_6_code 29 = .ok (.ireturn, 1) := by decide +kernel
theorem pd_0 : parseMethodDescriptor "(I)I" = some ⟨[.int], some .int⟩ := by decide +kernel
theorem pd_1 : parseMethodDescriptor "(I)[B" = some ⟨[.int], some (.array .byte)⟩ := by decide +kernel
theorem pd_2 : parseMethodDescriptor "([BII)V" = some ⟨[(.array .byte), .int, .int], none⟩ := by decide +kernel
theorem pd_3 : parseMethodDescriptor "([CI[BII)I" = some ⟨[(.array .char), .int, (.array .byte), .int, .int], some .int⟩ := by decide +kernel
theorem pd_4 : parseMethodDescriptor "([CII)[B" = some ⟨[(.array .char), .int, .int], some (.array .byte)⟩ := by decide +kernel
theorem pd_5 : parseMethodDescriptor "([BI)C" = some ⟨[(.array .byte), .int], some .char⟩ := by decide +kernel
theorem pd_6 : parseMethodDescriptor "([BI)B" = some ⟨[(.array .byte), .int], some .byte⟩ := by decide +kernel
theorem pd_7 : parseMethodDescriptor "([CIILjava/lang/Void;)V" = some ⟨[(.array .char), .int, .int, (.object "java/lang/Void")], none⟩ := by decide +kernel
theorem pd_8 : parseMethodDescriptor "(IILjava/util/function/BiFunction;)I" = some ⟨[.int, .int, (.object "java/util/function/BiFunction")], some .int⟩ := by decide +kernel
theorem pd_9 : parseMethodDescriptor "(II)V" = some ⟨[.int, .int], none⟩ := by decide +kernel
theorem pd_10 : parseMethodDescriptor "([B)I" = some ⟨[(.array .byte)], some .int⟩ := by decide +kernel
theorem pd_11 : parseMethodDescriptor "(I[B)V" = some ⟨[.int, (.array .byte)], none⟩ := by decide +kernel
theorem pd_12 : parseMethodDescriptor "()Z" = some ⟨[], some .boolean⟩ := by decide +kernel
theorem pd_13 : parseMethodDescriptor "(I)C" = some ⟨[.int], some .char⟩ := by decide +kernel
theorem pd_14 : parseMethodDescriptor "([C)V" = some ⟨[(.array .char)], none⟩ := by decide +kernel
theorem pd_15 : parseMethodDescriptor "(II)I" = some ⟨[.int, .int], some .int⟩ := by decide +kernel
theorem pd_16 : parseMethodDescriptor "(I)Lcom/example/updatable_views/updatableviews/SqlToken$Kind;" = some ⟨[.int], some (.object "com/example/updatable_views/updatableviews/SqlToken$Kind")⟩ := by decide +kernel
theorem pd_17 : parseMethodDescriptor "(Lcom/example/updatable_views/updatableviews/SqlToken$Kind;II)V" = some ⟨[(.object "com/example/updatable_views/updatableviews/SqlToken$Kind"), .int, .int], none⟩ := by decide +kernel
theorem pd_18 : parseMethodDescriptor "(Ljava/lang/CharSequence;C)Z" = some ⟨[(.object "java/lang/CharSequence"), .char], some .boolean⟩ := by decide +kernel
theorem pn_0 : plainName "java/lang/StringUTF16" = true := by first | (simp [plainName, overriddenIn]; done) | decide +kernel
theorem pn_1 : plainName "java/lang/String" = true := by first | (simp [plainName, overriddenIn]; done) | decide +kernel
theorem pn_2 : plainName "jdk/internal/util/Preconditions" = true := by first | (simp [plainName, overriddenIn]; done) | decide +kernel
theorem pn_3 : plainName "java/lang/StringLatin1" = true := by first | (simp [plainName, overriddenIn]; done) | decide +kernel
theorem pn_4 : plainName "com/example/updatable_views/updatableviews/SqlTokenIsSymbolPinLaw" = true := by first | (simp [plainName, overriddenIn]; done) | decide +kernel
theorem pn_5 : plainName "com/example/updatable_views/updatableviews/SqlToken" = true := by first | (simp [plainName, overriddenIn]; done) | decide +kernel
theorem own_t0 : (0 : Int32).toInt = 0 := rfl
theorem own_t1 : (1 : Int32).toInt = 1 := rfl
theorem own_t2 : (2 : Int32).toInt = 2 := rfl
theorem own_t3 : (3 : Int32).toInt = 3 := rfl
theorem own_t4 : (4 : Int32).toInt = 4 := rfl
theorem own_t5 : (5 : Int32).toInt = 5 := rfl
theorem own_t6 : (6 : Int32).toInt = 6 := rfl
theorem own_t7 : (7 : Int32).toInt = 7 := rfl
theorem own_fldI {s : State} {args : Array Value} {t : Term} {a : Addr} {C f : String} {z : Int32} (e : t.eval args s none [] s = some (.ref a)) (h : (Jvm.Cond.eq (Jvm.Term.field t C f "I") (Jvm.Term.int z)).value args s none s [] = some true) : Fld s s.heap a C f "I" (.int z) := by
  have q := eqv_i (Z := s) (F := Jvm.Term.int z) (y := z) rfl h
  rw [fld_at e] at q
  exact Fld.start q
theorem own_fldJ {s : State} {args : Array Value} {t : Term} {a : Addr} {C f : String} {z : Int64} (e : t.eval args s none [] s = some (.ref a)) (h : (Jvm.Cond.eq (Jvm.Term.field t C f "J") (Jvm.Term.long z)).value args s none s [] = some true) : Fld s s.heap a C f "J" (.long z) := by
  have q := eqv_l (Z := s) (F := Jvm.Term.long z) (y := z) rfl h
  rw [fld_at e] at q
  exact Fld.start q
theorem own_fldR {s : State} {args : Array Value} {t u : Term} {a b : Addr} {C f d : String} (e : t.eval args s none [] s = some (.ref a)) (eu : u.eval args s none [] s = some (.ref b)) (h : (Jvm.Cond.eq (Jvm.Term.field t C f d) u).value args s none s [] = some true) : Fld s s.heap a C f d (.ref b) := by
  obtain ⟨x, y, e1, e2, k1, k2⟩ := cmp_v (Or.inl h)
  cases eu.symm.trans e2
  have hx : x.isRef = true := k2.2
  have q := gotT (eq_R e1 e2 hx rfl) h
  subst q
  rw [fld_at e] at e1
  exact Fld.start e1
theorem own_fitsO {C : String} {v : Value} (h : v.isRef = true) : fits (.object C) v = true := by cases v <;> simp [Value.isRef, fits] at h ⊢
theorem own_narO {C : String} {v : Value} (h : v.isRef = true) : narrow (.object C) v = v := by cases v <;> first | rfl | simp [Value.isRef] at h
theorem own_all0 {P : Int32 → Prop} : ∀ c ∈ ([] : List Int32), P c := fun _ q => nomatch q
theorem own_allS {P : Int32 → Prop} {a : Int32} {L : List Int32} (q : P a) (r : ∀ c ∈ L, P c) : ∀ c ∈ a :: L, P c := fun x z => (List.mem_cons.mp z).elim (fun u => u ▸ q) (r x)
def latB (c : Int32) : Value := .int c.toInt8.toInt32
/-- the object at a is a Latin-1 String of the chars cs; its bytes lie at b -/
def SL (Z : State) (h : Heap) (a b : Nat) (cs : List Int32) : Prop := Exa Z h a "java/lang/String" ∧ Fld Z h a "java/lang/String" "coder" "B" (.int 0) ∧ Fld Z h a "java/lang/String" "value" "[B" (.ref b) ∧ Ary Z h b .byte (cs.map latB) ∧ ∀ c ∈ cs, 0 ≤ c.toInt ∧ c.toInt ≤ 255
theorem SL.keep {Z : State} {h h' : Heap} {a b : Addr} {cs : List Int32} {ws : List Addr} (S : SL Z h a b cs) (K : Keep h h' ws) (qa : a ∉ ws) (qb : b ∉ ws) : SL Z h' a b cs := by
  obtain ⟨E, F1, F2, V, q⟩ := S
  exact ⟨E.keep K, F1.keep K qa, F2.keep K qa, V.keep K qb, q⟩
theorem SL.lt {Z : State} {h : Heap} {a b : Addr} {cs : List Int32} (S : SL Z h a b cs) : a < h.size := S.1.lt
theorem SL.ltb {Z : State} {h : Heap} {a b : Addr} {cs : List Int32} (S : SL Z h a b cs) : b < h.size := S.2.2.2.1.lt
theorem own_b8 (c : Int32) : c.toInt8.toInt32.toInt8.toInt32 = c.toInt8.toInt32 := by simp
theorem own_toInt {n : Nat} (h : n < 2 ^ 31) : n.toInt32.toInt = n := len_toInt h
theorem own_ltn {i n : Nat} (h : i < n) (hn : n < 2 ^ 31) : i.toInt32 < n.toInt32 := by
  rw [Int32.lt_iff_toInt_lt, own_toInt (by omega), own_toInt hn]; omega
theorem own_nltn {i n : Nat} (h : n ≤ i) (hn : i < 2 ^ 31) : ¬ i.toInt32 < n.toInt32 := by
  rw [Int32.lt_iff_toInt_lt, own_toInt hn, own_toInt (by omega)]; omega
theorem own_nneg {n : Nat} (hn : n < 2 ^ 31) : ¬ n.toInt32 < 0 := by
  rw [Int32.lt_iff_toInt_lt, own_toInt hn]; simp
theorem own_succ (i : Nat) : i.toInt32 + Int32.ofInt 1 = (i + 1).toInt32 := by
  show Int32.ofNat i + Int32.ofInt 1 = Int32.ofNat (i + 1)
  rw [Int32.ofNat_add]; rfl
theorem own_fill {cs : List Int32} {bs : List Value} {i : Nat} {c : Int32} (hl : bs.length = cs.length) (hc : cs[i]? = some c) : ((cs.take i).map latB ++ bs.drop i).set i (latB c) = (cs.take (i + 1)).map latB ++ bs.drop (i + 1) := by
  have hi : i < cs.length := (List.getElem?_eq_some_iff.mp hc).1
  have e1 : ((cs.take i).map latB).length = i := by simp; omega
  have e2 : bs.drop i = bs[i] :: bs.drop (i + 1) := List.drop_eq_getElem_cons (by omega)
  have e3 : cs.take (i + 1) = cs.take i ++ [c] := by rw [List.take_add_one, hc]; rfl
  rw [List.set_append_right _ _ (by omega), e1, e2, e3, Nat.sub_self, List.set_cons_zero, List.map_append, List.append_assoc]
  rfl
theorem own_back (c : Int32) (h : 0 ≤ c.toInt ∧ c.toInt ≤ 255) : nar .char (c.toInt8.toInt32 &&& 255).toUInt32.toUInt16.toUInt32.toInt32 = c := by
  have e : ∀ n : Fin 256, nar .char ((Int32.ofNat n.1).toInt8.toInt32 &&& 255).toUInt32.toUInt16.toUInt32.toInt32 = Int32.ofNat n.1 := by decide +kernel
  have q : c = Int32.ofNat c.toInt.toNat := by
    apply Int32.toInt_inj.mp
    rw [show Int32.ofNat c.toInt.toNat = c.toInt.toNat.toInt32 from rfl, own_toInt (by omega)]; omega
  rw [q]
  exact e ⟨c.toInt.toNat, by omega⟩
theorem own_csub (n : Int32) : (((n - n).toUInt32 >>> ((31 : Int32) &&& 31).toUInt32).toInt32).toInt8.toInt32 = 0 := by
  rw [Int32.sub_self]; decide
theorem own_nchar {c : Int32} (h : 0 ≤ c.toInt ∧ c.toInt < 65536) : nar .char c = c := by
  have q := c_i2c c
  apply Int32.toInt_inj.mp
  show c.toUInt32.toUInt16.toUInt32.toInt32.toInt = c.toInt
  omega
/-- the JDK's statics that String's methods read -/
def SEnv (Z : State) (cc : Int32) (fm : Value) : Prop := Sta Z Z.heap "java/lang/String" "COMPACT_STRINGS" "Z" (.int cc) ∧ ¬ cc = 0 ∧ Sta Z Z.heap "jdk/internal/util/Preconditions" "SIOOBE_FORMATTER" "Ljava/util/function/BiFunction;" fm ∧ fm.isRef = true
def loB (c : Int32) : Value := .int c.toInt8.toInt32
def hiB (c : Int32) : Value := .int (c >>> ((8 : Int32) &&& 31)).toInt8.toInt32
def utfB : List Int32 → List Value
  | [] => []
  | c :: t => loB c :: hiB c :: utfB t
theorem own_ulen : ∀ cs : List Int32, (utfB cs).length = 2 * cs.length
  | [] => rfl
  | c :: t => by simp only [utfB, List.length_cons, own_ulen t]; omega
theorem own_uapp : ∀ xs ys : List Int32, utfB (xs ++ ys) = utfB xs ++ utfB ys
  | [], ys => rfl
  | c :: t, ys => by simp only [List.cons_append, utfB, own_uapp t ys]
theorem own_uget : ∀ (cs : List Int32) (i : Nat) (c : Int32), cs[i]? = some c → (utfB cs)[2 * i]? = some (loB c) ∧ (utfB cs)[2 * i + 1]? = some (hiB c)
  | [], i, c, h => by simp at h
  | d :: t, 0, c, h => by simp at h; subst h; exact ⟨rfl, rfl⟩
  | d :: t, i + 1, c, h => by
    have q := own_uget t i c (by simpa using h)
    exact ⟨by rw [show 2 * (i + 1) = 2 * i + 1 + 1 from by omega]; simpa [utfB] using q.1, by rw [show 2 * (i + 1) + 1 = 2 * i + 1 + 1 + 1 from by omega]; simpa [utfB] using q.2⟩
theorem own_ufill {cs : List Int32} {bs : List Value} {i : Nat} {c : Int32} (hl : bs.length = 2 * cs.length) (hc : cs[i]? = some c) : ((utfB (cs.take i) ++ bs.drop (2 * i)).set (2 * i) (loB c)).set (2 * i + 1) (hiB c) = utfB (cs.take (i + 1)) ++ bs.drop (2 * (i + 1)) := by
  have hi : i < cs.length := (List.getElem?_eq_some_iff.mp hc).1
  have e1 : (utfB (cs.take i)).length = 2 * i := by rw [own_ulen, List.length_take]; omega
  have e2 : bs.drop (2 * i) = bs[2 * i] :: bs[2 * i + 1] :: bs.drop (2 * i + 1 + 1) := by
    rw [List.drop_eq_getElem_cons (by omega), List.drop_eq_getElem_cons (i := 2 * i + 1) (by omega)]
  have e3 : cs.take (i + 1) = cs.take i ++ [c] := by rw [List.take_add_one, hc]; rfl
  rw [List.set_append_right _ _ (by omega), List.set_append_right _ _ (by omega), e1, e2, e3, own_uapp, List.append_assoc, Nat.sub_self, show 2 * i + 1 - 2 * i = 1 from by omega, show 2 * (i + 1) = 2 * i + 1 + 1 from by omega]
  rfl
theorem own_u16 (c : Int32) (h : 0 ≤ c.toInt ∧ c.toInt < 65536) : nar .char ((((c.toInt8.toInt32 &&& (255 : Int32)) <<< ((0 : Int32) &&& 31)) ||| (((c >>> ((8 : Int32) &&& 31)).toInt8.toInt32 &&& (255 : Int32)) <<< ((8 : Int32) &&& 31))).toUInt32.toUInt16.toUInt32.toInt32) = c := by
  have a1 := c_mask c.toInt8.toInt32 255 8 (by decide) (by decide)
  have a2 := (c_i2b c).1
  have a3 := c_ishl (c.toInt8.toInt32 &&& (255 : Int32)) 0 0 (by decide)
  have r3 := rng32 ((c.toInt8.toInt32 &&& (255 : Int32)) <<< ((0 : Int32) &&& 31))
  have b0 := c_ishr c 8 8 (by decide)
  have b1 := c_mask (c >>> ((8 : Int32) &&& 31)).toInt8.toInt32 255 8 (by decide) (by decide)
  have b2 := (c_i2b (c >>> ((8 : Int32) &&& 31))).1
  have b3 := c_ishl ((c >>> ((8 : Int32) &&& 31)).toInt8.toInt32 &&& (255 : Int32)) 8 8 (by decide)
  have r4 := rng32 (((c >>> ((8 : Int32) &&& 31)).toInt8.toInt32 &&& (255 : Int32)) <<< ((8 : Int32) &&& 31))
  generalize (c.toInt8.toInt32 &&& (255 : Int32)) <<< ((0 : Int32) &&& 31) = X at *
  generalize ((c >>> ((8 : Int32) &&& 31)).toInt8.toInt32 &&& (255 : Int32)) <<< ((8 : Int32) &&& 31) = Y at *
  have o := c_or' X Y 8 (by decide) 256 (by decide) (by omega) (by omega) (by omega)
  have r5 := rng32 (X ||| Y)
  generalize X ||| Y = W at *
  have e : W.toInt = c.toInt := by omega
  have e2 : W = c := Int32.toInt_inj.mp e
  subst e2
  have q := c_i2c W
  have e3 : W.toUInt32.toUInt16.toUInt32.toInt32 = W := by apply Int32.toInt_inj.mp; omega
  rw [e3]; exact own_nchar h
theorem own_shr0 (x : Int32) : x >>> ((0 : Int32) &&& 31) = x := by
  apply Int32.toInt_inj.mp
  rw [c_ishr x 0 0 rfl]
  simp
theorem own_shl1 {k : Nat} (h : k < 2 ^ 29) : k.toInt32 <<< ((1 : Int32) &&& 31) = (2 * k).toInt32 := by
  apply Int32.toInt_inj.mp
  have a := c_ishl k.toInt32 1 1 (by decide)
  have r := rng32 (k.toInt32 <<< ((1 : Int32) &&& 31))
  rw [own_toInt (by omega)] at a ⊢
  omega
theorem own_shr1 {k : Nat} (h : k < 2 ^ 29) : (2 * k).toInt32 >>> ((1 : Int32) &&& 31) = k.toInt32 := by
  apply Int32.toInt_inj.mp
  rw [c_ishr _ 1 1 (by decide), own_toInt (by omega), own_toInt (by omega)]
  omega
theorem own_csub1 {k : Nat} (h0 : 0 < k) (h : k < 2 ^ 29) : (((k.toInt32 - (2 * k).toInt32).toUInt32 >>> ((31 : Int32) &&& 31).toUInt32).toInt32).toInt8.toInt32 = 1 := by
  have a := c_iushr (k.toInt32 - (2 * k).toInt32) 31 31 (by decide) (by decide)
  have b := c_isub k.toInt32 (2 * k).toInt32
  have r := rng32 (k.toInt32 - (2 * k).toInt32)
  rw [own_toInt (by omega), own_toInt (by omega)] at b
  have e : ((k.toInt32 - (2 * k).toInt32).toUInt32 >>> ((31 : Int32) &&& 31).toUInt32).toInt32 = 1 := by
    apply Int32.toInt_inj.mp
    rw [a]
    have : (1 : Int32).toInt = 1 := rfl
    omega
  rw [e]; rfl
/-- a UTF-16 String -/
def SU (Z : State) (h : Heap) (a b : Addr) (cs : List Int32) : Prop := Exa Z h a "java/lang/String" ∧ Fld Z h a "java/lang/String" "coder" "B" (.int 1) ∧ Fld Z h a "java/lang/String" "value" "[B" (.ref b) ∧ Ary Z h b .byte (utfB cs) ∧ (∀ c ∈ cs, 0 ≤ c.toInt ∧ c.toInt < 65536) ∧ cs.length < 2 ^ 29
def SG (Z : State) (h : Heap) (a b : Addr) (cs : List Int32) : Prop := SL Z h a b cs ∨ SU Z h a b cs
theorem SU.keep {Z : State} {h h' : Heap} {a b : Addr} {cs : List Int32} {ws : List Addr} (S : SU Z h a b cs) (K : Keep h h' ws) (qa : a ∉ ws) (qb : b ∉ ws) : SU Z h' a b cs := by
  obtain ⟨E, F1, F2, V, q⟩ := S
  exact ⟨E.keep K, F1.keep K qa, F2.keep K qa, V.keep K qb, q⟩
theorem SG.keep {Z : State} {h h' : Heap} {a b : Addr} {cs : List Int32} {ws : List Addr} (S : SG Z h a b cs) (K : Keep h h' ws) (qa : a ∉ ws) (qb : b ∉ ws) : SG Z h' a b cs := S.imp (fun s => s.keep K qa qb) (fun s => s.keep K qa qb)
theorem SG.exa {Z : State} {h : Heap} {a b : Addr} {cs : List Int32} (S : SG Z h a b cs) : Exa Z h a "java/lang/String" := S.elim (fun s => s.1) (fun s => s.1)
theorem SG.lt {Z : State} {h : Heap} {a b : Addr} {cs : List Int32} (S : SG Z h a b cs) : a < h.size := S.exa.lt
theorem SG.ltb {Z : State} {h : Heap} {a b : Addr} {cs : List Int32} (S : SG Z h a b cs) : b < h.size := S.elim (fun s => s.2.2.2.1.lt) (fun s => s.2.2.2.1.lt)
def SEnvU (Z : State) : Prop := Sta Z Z.heap "java/lang/StringUTF16" "$assertionsDisabled" "Z" (.int 1) ∧ Sta Z Z.heap "java/lang/StringUTF16" "HI_BYTE_SHIFT" "I" (.int 0) ∧ Sta Z Z.heap "java/lang/StringUTF16" "LO_BYTE_SHIFT" "I" (.int 8)
set_option maxRecDepth 65536 in
set_option maxHeartbeats 40000000 in
theorem c_nbl (l : Launch) (Z : State) (a0 : Array Value) (hw : ∀ d ∈ tables_1, d.before a0 Z = true) (hE : EW Z a0 ([] : List (String × Nat))) (k : Nat) (h0 : Heap) (O : Ext Z.heap h0) (hk : k < 2 ^ 29) :
    Con l Z ([] : List (String × Nat)) (⟨"java/lang/StringUTF16", "newBytesLength", "(I)I"⟩ : MethodName) jdk_52_method_3_code 1 (Option.some Jvm.ClassFile.FieldType.int) ({ frames := 0, cells := 0, slots := 0, locals := 0 } : Room) #[(.int k.toInt32)] h0 [] (pureQ (some (.int (2 * k).toInt32)) h0) := by
  refine Con.of (a0 := a0) #[.val (.int k.toInt32)] (plainFor_of_name pn_0) hE O all0 (fun m => by first | (simp [entryFrame, mkF, argsToLocals, Value.category]; done) | rfl) ?_
  intro p e s m below meth c T0 hx hby hml hnm hret hlk hh W0
  refine g_iloadN (pc' := 1) W0.here hx (hb hby d_jdk_52_3_0) rfl rfl ?_
  refine g_ifY (pc' := 12) W0.here hx (hb hby d_jdk_52_3_1) rfl (flt (show ¬ (k.toInt32 < (0 : Int32)) from (own_nneg (by omega)))).2.1 ?_
  refine g_iloadN (pc' := 13) W0.here hx (hb hby d_jdk_52_3_12) rfl rfl ?_
  refine w_ldcI (pc' := 15) W0 hx (hw _ (List.mem_of_getElem? w_75)) (hb hby d_jdk_52_3_13) rfl ?_
  refine g_icmpY (pc' := 55) W0.here hx (hb hby d_jdk_52_3_15) rfl (tlt (show k.toInt32 < (1073741823 : Int32) from (by rw [Int32.lt_iff_toInt_lt, own_toInt (by omega)]; have : (1073741823 : Int32).toInt = 1073741823 := rfl; omega))).1 ?_
  refine g_iloadN (pc' := 56) W0.here hx (hb hby d_jdk_52_3_55) rfl rfl ?_
  refine g_iconst (1 : Int32) (pc' := 57) W0.here hx (hb hby d_jdk_52_3_56) rfl rfl ?_
  refine g_ishl (pc' := 58) W0.here hx (hb hby d_jdk_52_3_57) rfl ?_
  refine w_retI W0 hx hh hlk hret (hb hby d_jdk_52_3_58) (Nat.le_of_ble_eq_true rfl) (Nat.le_of_ble_eq_true rfl) ?_
  exact ⟨congrArg (fun z => some (Value.int z)) (own_shl1 hk), rfl⟩
set_option maxRecDepth 65536 in
set_option maxHeartbeats 40000000 in
theorem c_nbf (l : Launch) (Z : State) (a0 : Array Value) (hw : ∀ d ∈ tables_1, d.before a0 Z = true) (hE : EW Z a0 ([] : List (String × Nat))) (k : Nat) (h0 : Heap) (O : Ext Z.heap h0) (hk : k ≤ 3) :
    ConF l Z ([] : List (String × Nat)) (⟨"java/lang/StringUTF16", "newBytesFor", "(I)[B"⟩ : MethodName) jdk_52_method_2_code 1 (Option.some (Jvm.ClassFile.FieldType.array Jvm.ClassFile.FieldType.byte)) ({ frames := 1, cells := 1, slots := 6, locals := 12 } : Room) #[(.int k.toInt32)] h0 [] (fun N v h => ∃ ba : Nat, N = [ba] ∧ v = some (.ref ba) ∧ Ary Z h ba .byte (List.replicate (2 * k) (.int 0))) := by
  refine ConF.of (a0 := a0) #[.val (.int k.toInt32)] (plainFor_of_name pn_0) hE O all0 (fun m => by first | (simp [entryFrame, mkF, argsToLocals, Value.category]; done) | rfl) ?_
  intro p e s m below meth c T0 hx hby hml hnm hret hlk hh W0
  refine g_iloadN (pc' := 1) W0.here hx (hb hby d_jdk_52_2_0) rfl rfl ?_
  refine w_callSp (pc' := 4) (st := []) (y := (⟨"java/lang/StringUTF16", "newBytesLength", "(I)I"⟩ : MethodName)) W0 hx [(.int k.toInt32)] (hw _ (List.mem_of_getElem? w_72)) (hw _ (List.mem_of_getElem? w_73)) (hw _ (List.mem_of_getElem? w_17)) (hw _ (List.mem_of_getElem? w_74)) (by decide) (c_nbl l Z a0 hw hE k h0 W0.old (by omega)) (by rw [hml]; rfl) (lenOf pd_0 rfl) rfl (hb hby d_jdk_52_2_1) (Nat.le_of_ble_eq_true rfl) (Nat.le_of_ble_eq_true rfl) rfl rfl (Nat.le_of_ble_eq_true rfl) (Nat.le_of_ble_eq_true rfl) rfl fun T1 W1 => ?_
  refine w_newarr (pc' := 6) (cap := 6) W1 hx (hw _ (List.mem_of_getElem? w_19)) (hb hby d_jdk_52_2_4) (own_nneg (by omega)) (by rw [i32_nat (by omega)]; omega) (Nat.le_of_ble_eq_true rfl) (Nat.le_of_ble_eq_true rfl) (Nat.le_of_ble_eq_true rfl) rfl rfl fun T2 h2 b2 g2 W2 K2 V2 => ?_
  have z_K2 : h0.size ≤ h2.size := K2.1
  have lt_b2 : b2 < h2.size := W2.lt (List.mem_cons_self ..)
  rw [i32_nat (by omega)] at V2
  refine w_retAF W2 hx hh hlk hret rfl rfl (hb hby d_jdk_52_2_6) (Nat.le_of_ble_eq_true rfl) (Nat.le_of_ble_eq_true rfl) [b2] (allS (List.mem_of_getElem? (i := 0) rfl) all0) ?_
  exact ⟨_, rfl, rfl, V2⟩
set_option maxRecDepth 65536 in
set_option maxHeartbeats 40000000 in
theorem c_putChar (l : Launch) (Z : State) (a0 : Array Value) (hw : ∀ d ∈ tables_1, d.before a0 Z = true) (hE : EW Z a0 ([] : List (String × Nat))) (cc : Int32) (fm : Value) (ba i : Nat) (cv : Int32) (bs : List Value) (h0 : Heap) (O : Ext Z.heap h0) (G : SEnv Z cc fm) (GU : SEnvU Z) (VB : Ary Z h0 ba .byte bs) (hi : 2 * i + 1 < bs.length) (hbl : bs.length < 2 ^ 29) (hz : Z.heap.size ≤ ba) :
    Con l Z ([] : List (String × Nat)) (⟨"java/lang/StringUTF16", "putChar", "([BII)V"⟩ : MethodName) jdk_52_method_4_code 3 (Option.none : Option Jvm.ClassFile.FieldType) ({ frames := 0, cells := 0, slots := 0, locals := 0 } : Room) #[(.ref ba), (.int i.toInt32), (.int cv)] h0 [ba] (fun v h => v = none ∧ Ary Z h ba .byte ((bs.set (2 * i) (loB cv)).set (2 * i + 1) (hiB cv))) := by
  refine Con.of (a0 := a0) #[.val (.ref ba), .val (.int i.toInt32), .val (.int cv)] (plainFor_of_name pn_0) hE O (allS ⟨hz, VB.lt⟩ all0) (fun m => by first | (simp [entryFrame, mkF, argsToLocals, Value.category]; done) | rfl) ?_
  intro p e s m below meth c T0 hx hby hml hnm hret hlk hh W0
  refine w_getS (pc' := 3) W0 hx (hw _ (List.mem_of_getElem? w_79)) Via.refl GU.1 (hb hby d_jdk_52_4_0) rfl fun T3 W3 => ?_
  refine g_ifY (pc' := 28) W3.here hx (hb hby d_jdk_52_4_3) rfl (feq (show ¬ ((1 : Int32) = (0 : Int32)) from (by decide))).2 ?_
  refine g_iloadN (pc' := 29) W3.here hx (hb hby d_jdk_52_4_28) rfl rfl ?_
  refine g_iconst (1 : Int32) (pc' := 30) W3.here hx (hb hby d_jdk_52_4_29) rfl rfl ?_
  refine g_ishl (pc' := 31) W3.here hx (hb hby d_jdk_52_4_30) rfl ?_
  refine g_name (w := .int (2 * i).toInt32) (congrArg Value.int (own_shl1 (by omega)).symm) ?_
  refine g_istoreN (pc' := 32) (Ls' := #[.val (.ref ba), .val (.int (2 * i).toInt32), .val (.int cv)]) W3.here hx (hb hby d_jdk_52_4_31) rfl rfl ?_
  refine g_aloadN (pc' := 33) W3.here hx (hb hby d_jdk_52_4_32) rfl rfl rfl ?_
  refine g_iloadN (pc' := 34) W3.here hx (hb hby d_jdk_52_4_33) rfl rfl ?_
  refine g_iincV (2 * i + 1).toInt32 (pc' := 37) (Ls' := #[.val (.ref ba), .val (.int (2 * i + 1).toInt32), .val (.int cv)]) W3.here hx (hb hby d_jdk_52_4_34) (own_succ (2 * i)) rfl rfl rfl ?_
  refine g_iloadN (pc' := 38) W3.here hx (hb hby d_jdk_52_4_37) rfl rfl ?_
  refine w_getS (pc' := 41) W3 hx (hw _ (List.mem_of_getElem? w_80)) Via.refl GU.2.1 (hb hby d_jdk_52_4_38) rfl fun T4 W4 => ?_
  refine g_ishr (pc' := 42) W4.here hx (hb hby d_jdk_52_4_41) rfl ?_
  refine g_i2b (pc' := 43) W4.here hx (hb hby d_jdk_52_4_42) rfl ?_
  refine w_bastore (pc' := 44) (x' := cv.toInt8.toInt32) W4 hx VB (own_nneg (by omega)) (by rw [i32_nat (by omega)]; first | omega | (simp; omega)) (List.mem_of_getElem? (i := 0) rfl) (by rw [own_shr0, own_b8]) (hb hby d_jdk_52_4_43) rfl fun T5 h5 W5 K5 V5 => ?_
  have z_K5 : h0.size ≤ h5.size := K5.1
  have V5 : Ary Z h5 ba .byte (bs.set (2 * i) (loB cv)) := by rw [i32_nat (by omega)] at V5; exact V5
  refine g_aloadN (pc' := 45) W5.here hx (hb hby d_jdk_52_4_44) rfl rfl rfl ?_
  refine g_iloadN (pc' := 46) W5.here hx (hb hby d_jdk_52_4_45) rfl rfl ?_
  refine g_iloadN (pc' := 47) W5.here hx (hb hby d_jdk_52_4_46) rfl rfl ?_
  refine w_getS (pc' := 50) W5 hx (hw _ (List.mem_of_getElem? w_81)) Via.refl GU.2.2 (hb hby d_jdk_52_4_47) rfl fun T6 W6 => ?_
  refine g_ishr (pc' := 51) W6.here hx (hb hby d_jdk_52_4_50) rfl ?_
  refine g_i2b (pc' := 52) W6.here hx (hb hby d_jdk_52_4_51) rfl ?_
  refine w_bastore (pc' := 53) (x' := (cv >>> ((8 : Int32) &&& 31)).toInt8.toInt32) W6 hx V5 (own_nneg (by omega)) (by rw [i32_nat (by omega)]; first | omega | (simp; omega)) (List.mem_of_getElem? (i := 0) rfl) (own_b8 _) (hb hby d_jdk_52_4_52) rfl fun T7 h7 W7 K7 V7 => ?_
  have z_K7 : h5.size ≤ h7.size := K7.1
  have V7 : Ary Z h7 ba .byte ((bs.set (2 * i) (loB cv)).set (2 * i + 1) (hiB cv)) := by rw [i32_nat (by omega)] at V7; exact V7
  refine w_retV W7 hx hh hlk hret (hb hby d_jdk_52_4_53) (Nat.le_of_ble_eq_true rfl) (Nat.le_of_ble_eq_true rfl) ?_
  exact ⟨rfl, V7⟩
set_option maxRecDepth 65536 in
set_option maxHeartbeats 40000000 in
theorem c_getChar (l : Launch) (Z : State) (a0 : Array Value) (hw : ∀ d ∈ tables_1, d.before a0 Z = true) (hE : EW Z a0 ([] : List (String × Nat))) (cc : Int32) (fm : Value) (ba i : Nat) (cv : Int32) (bs : List Value) (h0 : Heap) (O : Ext Z.heap h0) (G : SEnv Z cc fm) (GU : SEnvU Z) (VB : Ary Z h0 ba .byte bs) (hi : i < 2 ^ 28) (hg1 : bs[2 * i]? = some (loB cv)) (hg2 : bs[2 * i + 1]? = some (hiB cv)) (hcv : 0 ≤ cv.toInt ∧ cv.toInt < 65536) :
    Con l Z ([] : List (String × Nat)) (⟨"java/lang/StringUTF16", "getChar", "([BI)C"⟩ : MethodName) jdk_52_method_5_code 2 (Option.some Jvm.ClassFile.FieldType.char) ({ frames := 0, cells := 0, slots := 0, locals := 0 } : Room) #[(.ref ba), (.int i.toInt32)] h0 [] (pureQ (some (.int cv)) h0) := by
  refine Con.of (a0 := a0) #[.val (.ref ba), .val (.int i.toInt32)] (plainFor_of_name pn_0) hE O all0 (fun m => by first | (simp [entryFrame, mkF, argsToLocals, Value.category]; done) | rfl) ?_
  intro p e s m below meth c T0 hx hby hml hnm hret hlk hh W0
  refine w_getS (pc' := 3) W0 hx (hw _ (List.mem_of_getElem? w_79)) Via.refl GU.1 (hb hby d_jdk_52_5_0) rfl fun T8 W8 => ?_
  refine g_ifY (pc' := 28) W8.here hx (hb hby d_jdk_52_5_3) rfl (feq (show ¬ ((1 : Int32) = (0 : Int32)) from (by decide))).2 ?_
  refine g_iloadN (pc' := 29) W8.here hx (hb hby d_jdk_52_5_28) rfl rfl ?_
  refine g_iconst (1 : Int32) (pc' := 30) W8.here hx (hb hby d_jdk_52_5_29) rfl rfl ?_
  refine g_ishl (pc' := 31) W8.here hx (hb hby d_jdk_52_5_30) rfl ?_
  refine g_name (w := .int (2 * i).toInt32) (congrArg Value.int (own_shl1 (by omega)).symm) ?_
  refine g_istoreN (pc' := 32) (Ls' := #[.val (.ref ba), .val (.int (2 * i).toInt32)]) W8.here hx (hb hby d_jdk_52_5_31) rfl rfl ?_
  refine g_aloadN (pc' := 33) W8.here hx (hb hby d_jdk_52_5_32) rfl rfl rfl ?_
  refine g_iloadN (pc' := 34) W8.here hx (hb hby d_jdk_52_5_33) rfl rfl ?_
  refine g_iincV (2 * i + 1).toInt32 (pc' := 37) (Ls' := #[.val (.ref ba), .val (.int (2 * i + 1).toInt32)]) W8.here hx (hb hby d_jdk_52_5_34) (own_succ (2 * i)) rfl rfl rfl ?_
  refine w_baload (pc' := 38) (v := (.int cv.toInt8.toInt32)) W8 hx VB (own_nneg (by omega)) (by rw [i32_nat (by omega)]; exact hg1) (hb hby d_jdk_52_5_37) rfl ?_
  refine g_sipush (255 : Int32) (pc' := 41) W8.here hx (hb hby d_jdk_52_5_38) rfl rfl ?_
  refine g_iand (pc' := 42) W8.here hx (hb hby d_jdk_52_5_41) rfl ?_
  refine w_getS (pc' := 45) W8 hx (hw _ (List.mem_of_getElem? w_80)) Via.refl GU.2.1 (hb hby d_jdk_52_5_42) rfl fun T9 W9 => ?_
  refine g_ishl (pc' := 46) W9.here hx (hb hby d_jdk_52_5_45) rfl ?_
  refine g_aloadN (pc' := 47) W9.here hx (hb hby d_jdk_52_5_46) rfl rfl rfl ?_
  refine g_iloadN (pc' := 48) W9.here hx (hb hby d_jdk_52_5_47) rfl rfl ?_
  refine w_baload (pc' := 49) (v := (.int (cv >>> ((8 : Int32) &&& 31)).toInt8.toInt32)) W9 hx VB (own_nneg (by omega)) (by rw [i32_nat (by omega)]; exact hg2) (hb hby d_jdk_52_5_48) rfl ?_
  refine g_sipush (255 : Int32) (pc' := 52) W9.here hx (hb hby d_jdk_52_5_49) rfl rfl ?_
  refine g_iand (pc' := 53) W9.here hx (hb hby d_jdk_52_5_52) rfl ?_
  refine w_getS (pc' := 56) W9 hx (hw _ (List.mem_of_getElem? w_81)) Via.refl GU.2.2 (hb hby d_jdk_52_5_53) rfl fun T10 W10 => ?_
  refine g_ishl (pc' := 57) W10.here hx (hb hby d_jdk_52_5_56) rfl ?_
  refine g_ior (pc' := 58) W10.here hx (hb hby d_jdk_52_5_57) rfl ?_
  refine g_i2c (pc' := 59) W10.here hx (hb hby d_jdk_52_5_58) rfl ?_
  refine w_retN (t := .char) W10 hx hh hlk hret (by simp) (hb hby d_jdk_52_5_59) (Nat.le_of_ble_eq_true rfl) (Nat.le_of_ble_eq_true rfl) ?_
  exact ⟨congrArg (fun z => some (Value.int z)) (own_u16 cv hcv), rfl⟩
set_option maxRecDepth 65536 in
set_option maxHeartbeats 40000000 in
theorem c_toBytes (l : Launch) (Z : State) (a0 : Array Value) (hw : ∀ d ∈ tables_1, d.before a0 Z = true) (hE : EW Z a0 ([] : List (String × Nat))) (cc : Int32) (fm : Value) (ca : Nat) (cs : List Int32) (h0 : Heap) (O : Ext Z.heap h0) (G : SEnv Z cc fm) (GU : SEnvU Z) (hn : cs.length ≤ 3) (hch : ∀ c ∈ cs, 0 ≤ c.toInt ∧ c.toInt < 65536) (VA : Ary Z h0 ca .char (cs.map Value.int))  :
    Con l Z ([] : List (String × Nat)) (⟨"java/lang/StringUTF16", "toBytes", "([CII)[B"⟩ : MethodName) jdk_52_method_14_code 5 (Option.some (Jvm.ClassFile.FieldType.array Jvm.ClassFile.FieldType.byte)) ({ frames := 2, cells := 1, slots := 6, locals := 24 } : Room) #[(.ref ca), (.int (0 : Int32)), (.int cs.length.toInt32)] h0 [] (fun v h => ∃ ba : Nat, v = some (.ref ba) ∧ h0.size ≤ ba ∧ Ary Z h ba .byte (utfB cs)) := by
  refine Con.of (a0 := a0) #[.val (.ref ca), .val (.int (0 : Int32)), .val (.int cs.length.toInt32), .unset, .unset] (plainFor_of_name pn_0) hE O all0 (fun m => by first | (simp [entryFrame, mkF, argsToLocals, Value.category]; done) | rfl) ?_
  intro p e s m below meth c T0 hx hby hml hnm hret hlk hh W0
  have hn31 : cs.length < 2 ^ 29 := by omega
  have lt_ca : ca < h0.size := VA.lt
  refine g_iloadN (pc' := 1) W0.here hx (hb hby d_jdk_52_14_0) rfl rfl ?_
  refine w_callSF (pc' := 4) (st := []) (y := (⟨"java/lang/StringUTF16", "newBytesFor", "(I)[B"⟩ : MethodName)) W0 hx [(.int cs.length.toInt32)] (hw _ (List.mem_of_getElem? w_69)) (hw _ (List.mem_of_getElem? w_70)) (hw _ (List.mem_of_getElem? w_17)) (hw _ (List.mem_of_getElem? w_71)) (by decide) (c_nbf l Z a0 hw hE cs.length h0 W0.old hn) all0 (by rw [hml]; rfl) (lenOf pd_1 rfl) rfl (hb hby d_jdk_52_14_1) (Nat.le_of_ble_eq_true rfl) (Nat.le_of_ble_eq_true rfl) (Nat.le_of_ble_eq_true rfl) (Nat.le_of_ble_eq_true rfl) rfl fun N11 v11 T11 h11 W11 K11 G11 Q11 => ?_
  have z_K11 : h0.size ≤ h11.size := K11.1
  obtain ⟨ba12, rfl, rfl, V12⟩ := Q11
  have gz12 := (G11 ba12 (List.mem_cons_self ..)).1
  have ne_ca_ba12 : ca ≠ ba12 := by omega
  have lt_ba12 : ba12 < h11.size := V12.lt
  refine g_astoreN (pc' := 5) (Ls' := #[.val (.ref ca), .val (.int (0 : Int32)), .val (.int cs.length.toInt32), .val (.ref ba12), .unset]) W11.here hx (hb hby d_jdk_52_14_4) rfl rfl rfl ?_
  refine g_iconst (0 : Int32) (pc' := 6) W11.here hx (hb hby d_jdk_52_14_5) rfl rfl ?_
  refine g_istore (pc' := 8) (Ls' := #[.val (.ref ca), .val (.int (0 : Int32)), .val (.int cs.length.toInt32), .val (.ref ba12), .val (.int (0 : Int32))]) W11.here hx (hb hby d_jdk_52_14_6) rfl rfl ?_
  obtain ⟨ba, hba⟩ : ∃ z : Nat, z = ba12 := ⟨_, rfl⟩
  have hzb : Z.heap.size ≤ ba := by have := O.1; omega
  obtain ⟨bs, hbs⟩ : ∃ z : List Value, z = List.replicate (2 * cs.length) (.int 0) := ⟨_, rfl⟩
  have hbl : bs.length = 2 * cs.length := by rw [hbs]; simp
  have hneb : ca ≠ ba := by omega
  have c13 := (VA.keep K11 nin0)
  have LOOP : ∀ (k i : Nat), i + k = cs.length → ∀ (TL : State) (hL : Heap), Wk p l e ({ frames := 2, cells := 1, slots := 6, locals := 24 } : Room) s m #[(.ref ca), (.int (0 : Int32)), (.int cs.length.toInt32)] below meth c Z ([] : List (String × Nat)) "java/lang/StringUTF16" [] [ba] TL hL 1 6 → Keep h11 hL [ba] → Ary Z hL ba .byte (utfB (cs.take i) ++ bs.drop (2 * i)) → Gets p.tables e below (Post s Z ([] : List (String × Nat)) ({ frames := 2, cells := 1, slots := 6, locals := 24 } : Room) h0 [] (fun v h => ∃ ba : Nat, v = some (.ref ba) ∧ h0.size ≤ ba ∧ Ary Z h ba .byte (utfB cs))) TL (mkF m 8 #[.val (.ref ca), .val (.int i.toInt32), .val (.int cs.length.toInt32), .val (.ref ba), .val (.int i.toInt32)] []) := by
    intro k
    induction k with
    | zero =>
      intro i hi TL hL WL KL VBL
      have VAL := (c13).keep KL (ninS hneb nin0)
      refine g_iload (pc' := 10) WL.here hx (hb hby d_jdk_52_14_8) rfl rfl ?_
      refine g_iloadN (pc' := 11) WL.here hx (hb hby d_jdk_52_14_10) rfl rfl ?_
      refine g_icmpY (pc' := 32) WL.here hx (hb hby d_jdk_52_14_11) rfl (flt (show ¬ (i.toInt32 < cs.length.toInt32) from (own_nltn (by omega) (by omega)))).2.1 ?_
      refine g_aloadN (pc' := 33) WL.here hx (hb hby d_jdk_52_14_32) rfl rfl rfl ?_
      refine w_retA WL hx hh hlk hret rfl rfl (hb hby d_jdk_52_14_33) (Nat.le_of_ble_eq_true rfl) (Nat.le_of_ble_eq_true rfl) ?_
      have e1 : i = cs.length := by omega
      subst e1
      rw [List.take_length, List.drop_eq_nil_of_le (by omega), List.append_nil] at VBL
      exact ⟨_, rfl, by omega, VBL⟩
    | succ k ih =>
      intro i hi TL hL WL KL VBL
      have VAL := (c13).keep KL (ninS hneb nin0)
      obtain ⟨ci, hci⟩ : ∃ ci, cs[i]? = some ci := ⟨_, List.getElem?_eq_getElem (by omega)⟩
      refine g_iload (pc' := 10) WL.here hx (hb hby d_jdk_52_14_8) rfl rfl ?_
      refine g_iloadN (pc' := 11) WL.here hx (hb hby d_jdk_52_14_10) rfl rfl ?_
      refine g_icmpN (pc' := 14) WL.here hx (hb hby d_jdk_52_14_11) rfl (tlt (show i.toInt32 < cs.length.toInt32 from (own_ltn (by omega) (by omega)))).2.1 ?_
      refine g_aloadN (pc' := 15) WL.here hx (hb hby d_jdk_52_14_14) rfl rfl rfl ?_
      refine g_iload (pc' := 17) WL.here hx (hb hby d_jdk_52_14_15) rfl rfl ?_
      refine g_aloadN (pc' := 18) WL.here hx (hb hby d_jdk_52_14_17) rfl rfl rfl ?_
      refine g_iloadN (pc' := 19) WL.here hx (hb hby d_jdk_52_14_18) rfl rfl ?_
      refine w_caload (pc' := 20) (v := (.int ci)) WL hx VAL (own_nneg (by omega)) (by rw [i32_nat (by omega), List.getElem?_map, hci]; rfl) (hb hby d_jdk_52_14_19) rfl ?_
      refine w_callS (pc' := 23) (st := []) (y := (⟨"java/lang/StringUTF16", "putChar", "([BII)V"⟩ : MethodName)) WL hx [(.ref ba), (.int i.toInt32), (.int ci)] (hw _ (List.mem_of_getElem? w_76)) (hw _ (List.mem_of_getElem? w_77)) (hw _ (List.mem_of_getElem? w_17)) (hw _ (List.mem_of_getElem? w_78)) (by decide) (c_putChar l Z a0 hw hE cc fm ba i ci _ hL WL.old G GU VBL (by rw [List.length_append, own_ulen, List.length_take, List.length_drop]; omega) (by rw [List.length_append, own_ulen, List.length_take, List.length_drop]; omega) hzb) (allS (List.mem_of_getElem? (i := 0) rfl) all0) (by rw [hml]; rfl) (lenOf pd_2 rfl) rfl (hb hby d_jdk_52_14_20) (Nat.le_of_ble_eq_true rfl) (Nat.le_of_ble_eq_true rfl) (Nat.le_of_ble_eq_true rfl) (Nat.le_of_ble_eq_true rfl) rfl fun v14 T14 h14 W14 K14 Q14 => ?_
      have z_K14 : hL.size ≤ h14.size := K14.1
      obtain ⟨rfl, V15⟩ := Q14
      rw [own_ufill hbl hci] at V15
      refine g_iincV (i + 1).toInt32 (pc' := 26) (Ls' := #[.val (.ref ca), .val (.int (i + 1).toInt32), .val (.int cs.length.toInt32), .val (.ref ba), .val (.int i.toInt32)]) W14.here hx (hb hby d_jdk_52_14_23) (own_succ i) rfl rfl rfl ?_
      refine g_iincV (i + 1).toInt32 (pc' := 29) (Ls' := #[.val (.ref ca), .val (.int (i + 1).toInt32), .val (.int cs.length.toInt32), .val (.ref ba), .val (.int (i + 1).toInt32)]) W14.here hx (hb hby d_jdk_52_14_26) (own_succ i) rfl rfl rfl ?_
      refine g_goto (pc' := 8) W14.here hx (hb hby d_jdk_52_14_29) rfl ?_
      exact ih (i + 1) (by omega) _ _ W14 (KL.trans K14 (fun x q => Or.inl q)) V15
  rw [← hba] at V12 W11 ⊢
  rw [← hbs] at V12
  exact LOOP cs.length 0 (by omega) _ _ W11 (Keep.refl _ _) (by simpa [utfB] using V12)
theorem own_pre1 {cs : List Int32} {i : Nat} {ci : Int32} (H : ∀ c ∈ cs.take i, ¬ (255 : Int32) < c) (hc : cs[i]? = some ci) (q : ¬ (255 : Int32) < ci) : ∀ c ∈ cs.take (i + 1), ¬ (255 : Int32) < c := fun c hm => by
  rw [List.take_add_one, hc] at hm
  rcases List.mem_append.mp hm with z | z
  · exact H c z
  · simp at z; rw [z]; exact q
set_option maxRecDepth 65536 in
set_option maxHeartbeats 40000000 in
theorem c_compr (l : Launch) (Z : State) (a0 : Array Value) (hw : ∀ d ∈ tables_1, d.before a0 Z = true) (hE : EW Z a0 ([] : List (String × Nat))) (ca ba : Nat) (cs : List Int32) (bs : List Value) (h0 : Heap) (O : Ext Z.heap h0) (hn : cs.length ≤ 3) (hch : ∀ c ∈ cs, 0 ≤ c.toInt ∧ c.toInt < 65536) (VA : Ary Z h0 ca .char (cs.map Value.int)) (VB : Ary Z h0 ba .byte bs) (hbl : bs.length = cs.length) (hne : ca ≠ ba) (hz : Z.heap.size ≤ ba) :
    Con l Z ([] : List (String × Nat)) (⟨"java/lang/StringUTF16", "compress", "([CI[BII)I"⟩ : MethodName) jdk_52_method_21_code 7 (Option.some Jvm.ClassFile.FieldType.int) ({ frames := 0, cells := 0, slots := 0, locals := 0 } : Room) #[(.ref ca), (.int (0 : Int32)), (.ref ba), (.int (0 : Int32)), (.int cs.length.toInt32)] h0 [ba] (fun v h => (v = some (.int cs.length.toInt32) ∧ (∀ c ∈ cs, ¬ (255 : Int32) < c) ∧ Ary Z h ba .byte (cs.map latB)) ∨ (∃ (i : Nat) (ci : Int32), i < cs.length ∧ cs[i]? = some ci ∧ (255 : Int32) < ci ∧ v = some (.int i.toInt32))) := by
  refine Con.of (a0 := a0) #[.val (.ref ca), .val (.int (0 : Int32)), .val (.ref ba), .val (.int (0 : Int32)), .val (.int cs.length.toInt32), .unset, .unset] (plainFor_of_name pn_0) hE O (allS ⟨hz, VB.lt⟩ all0) (fun m => by first | (simp [entryFrame, mkF, argsToLocals, Value.category]; done) | rfl) ?_
  intro p e s m below meth c T0 hx hby hml hnm hret hlk hh W0
  have hn31 : cs.length < 2 ^ 29 := by omega
  refine g_iconst (0 : Int32) (pc' := 1) W0.here hx (hb hby d_jdk_52_21_0) rfl rfl ?_
  refine g_istore (pc' := 3) (Ls' := #[.val (.ref ca), .val (.int (0 : Int32)), .val (.ref ba), .val (.int (0 : Int32)), .val (.int cs.length.toInt32), .val (.int (0 : Int32)), .unset]) W0.here hx (hb hby d_jdk_52_21_1) rfl rfl ?_
  have LOOP : ∀ (k i : Nat), i + k = cs.length → ∀ (TL : State) (hL : Heap) (o6 : Slot), One o6 → Wk p l e ({ frames := 0, cells := 0, slots := 0, locals := 0 } : Room) s m #[(.ref ca), (.int (0 : Int32)), (.ref ba), (.int (0 : Int32)), (.int cs.length.toInt32)] below meth c Z ([] : List (String × Nat)) "java/lang/StringUTF16" [ba] [] TL hL 0 0 → Keep h0 hL [ba] → Ary Z hL ba .byte ((cs.take i).map latB ++ bs.drop i) → (∀ c ∈ cs.take i, ¬ (255 : Int32) < c) → Gets p.tables e below (Post s Z ([] : List (String × Nat)) ({ frames := 0, cells := 0, slots := 0, locals := 0 } : Room) h0 [ba] (fun v h => (v = some (.int cs.length.toInt32) ∧ (∀ c ∈ cs, ¬ (255 : Int32) < c) ∧ Ary Z h ba .byte (cs.map latB)) ∨ (∃ (i : Nat) (ci : Int32), i < cs.length ∧ cs[i]? = some ci ∧ (255 : Int32) < ci ∧ v = some (.int i.toInt32)))) TL (mkF m 3 #[.val (.ref ca), .val (.int i.toInt32), .val (.ref ba), .val (.int i.toInt32), .val (.int cs.length.toInt32), .val (.int i.toInt32), o6] []) := by
    intro k
    induction k with
    | zero =>
      intro i hi TL hL o6 ho6 WL KL VBL HP
      have VAL := VA.keep KL (ninS hne nin0)
      refine g_iload (pc' := 5) WL.here hx (hb hby d_jdk_52_21_3) rfl rfl ?_
      refine g_iload (pc' := 7) WL.here hx (hb hby d_jdk_52_21_5) rfl rfl ?_
      refine g_icmpY (pc' := 44) WL.here hx (hb hby d_jdk_52_21_7) rfl (flt (show ¬ (i.toInt32 < cs.length.toInt32) from (own_nltn (by omega) (by omega)))).2.1 ?_
      refine g_iload (pc' := 46) WL.here hx (hb hby d_jdk_52_21_44) rfl rfl ?_
      refine w_retI WL hx hh hlk hret (hb hby d_jdk_52_21_46) (Nat.le_of_ble_eq_true rfl) (Nat.le_of_ble_eq_true rfl) ?_
      have e1 : i = cs.length := by omega
      subst e1
      rw [List.take_length] at HP VBL
      rw [List.drop_eq_nil_of_le (by omega), List.append_nil] at VBL
      exact Or.inl ⟨rfl, HP, VBL⟩
    | succ k ih =>
      intro i hi TL hL o6 ho6 WL KL VBL HP
      have VAL := VA.keep KL (ninS hne nin0)
      have hi2 : i < cs.length := by omega
      obtain ⟨ci, hci⟩ : ∃ ci, cs[i]? = some ci := ⟨_, List.getElem?_eq_getElem hi2⟩
      refine g_iload (pc' := 5) WL.here hx (hb hby d_jdk_52_21_3) rfl rfl ?_
      refine g_iload (pc' := 7) WL.here hx (hb hby d_jdk_52_21_5) rfl rfl ?_
      refine g_icmpN (pc' := 10) WL.here hx (hb hby d_jdk_52_21_7) rfl (tlt (show i.toInt32 < cs.length.toInt32 from (own_ltn hi2 (by omega)))).2.1 ?_
      refine g_aloadN (pc' := 11) WL.here hx (hb hby d_jdk_52_21_10) rfl rfl rfl ?_
      refine g_iloadN (pc' := 12) WL.here hx (hb hby d_jdk_52_21_11) rfl rfl ?_
      refine w_caload (pc' := 13) (v := (.int ci)) WL hx VAL (own_nneg (by omega)) (by rw [i32_nat (by omega), List.getElem?_map, hci]; rfl) (hb hby d_jdk_52_21_12) rfl ?_
      refine g_istore (pc' := 15) (Ls' := #[.val (.ref ca), .val (.int i.toInt32), .val (.ref ba), .val (.int i.toInt32), .val (.int cs.length.toInt32), .val (.int i.toInt32), .val (.int ci)]) WL.here hx (hb hby d_jdk_52_21_13) (XS.store1 (o := o6) rfl ho6 rfl) rfl ?_
      refine g_iload (pc' := 17) WL.here hx (hb hby d_jdk_52_21_15) rfl rfl ?_
      refine g_sipush (255 : Int32) (pc' := 20) WL.here hx (hb hby d_jdk_52_21_17) rfl rfl ?_
      by_cases hc20_16 : (255 : Int32) < ci
      · refine g_icmpN (pc' := 23) WL.here hx (hb hby d_jdk_52_21_20) rfl (tlt hc20_16).2.2.2 ?_
        refine g_iload (pc' := 25) WL.here hx (hb hby d_jdk_52_21_23) rfl rfl ?_
        refine w_retI WL hx hh hlk hret (hb hby d_jdk_52_21_25) (Nat.le_of_ble_eq_true rfl) (Nat.le_of_ble_eq_true rfl) ?_
        exact Or.inr ⟨i, ci, hi2, hci, hc20_16, rfl⟩
      · refine g_icmpY (pc' := 26) WL.here hx (hb hby d_jdk_52_21_20) rfl (flt hc20_16).2.2.2 ?_
        refine g_aloadN (pc' := 27) WL.here hx (hb hby d_jdk_52_21_26) rfl rfl rfl ?_
        refine g_iloadN (pc' := 28) WL.here hx (hb hby d_jdk_52_21_27) rfl rfl ?_
        refine g_iload (pc' := 30) WL.here hx (hb hby d_jdk_52_21_28) rfl rfl ?_
        refine g_i2b (pc' := 31) WL.here hx (hb hby d_jdk_52_21_30) rfl ?_
        refine w_bastore (pc' := 32) (x' := ci.toInt8.toInt32) WL hx VBL (own_nneg (by omega)) (by rw [i32_nat (by omega)]; simp; omega) (List.mem_of_getElem? (i := 0) rfl) (own_b8 ci) (hb hby d_jdk_52_21_31) rfl fun T17 h17 W17 K17 V17 => ?_
        have z_K17 : hL.size ≤ h17.size := K17.1
        have V17 : Ary Z h17 ba .byte ((cs.take (i + 1)).map latB ++ bs.drop (i + 1)) := by rw [i32_nat (by omega)] at V17; rw [← own_fill hbl hci]; exact V17
        refine g_iincV (i + 1).toInt32 (pc' := 35) (Ls' := #[.val (.ref ca), .val (.int (i + 1).toInt32), .val (.ref ba), .val (.int i.toInt32), .val (.int cs.length.toInt32), .val (.int i.toInt32), .val (.int ci)]) W17.here hx (hb hby d_jdk_52_21_32) (own_succ i) rfl rfl rfl ?_
        refine g_iincV (i + 1).toInt32 (pc' := 38) (Ls' := #[.val (.ref ca), .val (.int (i + 1).toInt32), .val (.ref ba), .val (.int (i + 1).toInt32), .val (.int cs.length.toInt32), .val (.int i.toInt32), .val (.int ci)]) W17.here hx (hb hby d_jdk_52_21_35) (own_succ i) rfl rfl rfl ?_
        refine g_iincV (i + 1).toInt32 (pc' := 41) (Ls' := #[.val (.ref ca), .val (.int (i + 1).toInt32), .val (.ref ba), .val (.int (i + 1).toInt32), .val (.int cs.length.toInt32), .val (.int (i + 1).toInt32), .val (.int ci)]) W17.here hx (hb hby d_jdk_52_21_38) (own_succ i) rfl rfl rfl ?_
        refine g_goto (pc' := 3) W17.here hx (hb hby d_jdk_52_21_41) rfl ?_
        exact ih (i + 1) (by omega) _ _ _ (One.val rfl) W17 (KL.trans K17 (fun x q => Or.inl q)) V17 (own_pre1 HP hci hc20_16)
  exact LOOP cs.length 0 (by omega) _ _ _ One.u W0 (Keep.refl _ _) (by simpa using VB) (by simp)
theorem own_n32 {n k : Nat} (hn : n < 2 ^ 31) (hk : k < 2 ^ 31) : n.toInt32 = k.toInt32 ↔ n = k := by
  constructor
  · intro q
    have := congrArg Int32.toInt q
    rw [own_toInt hn, own_toInt hk] at this; omega
  · intro q; rw [q]
set_option maxRecDepth 65536 in
set_option maxHeartbeats 40000000 in
theorem c_compress (l : Launch) (Z : State) (a0 : Array Value) (hw : ∀ d ∈ tables_1, d.before a0 Z = true) (hE : EW Z a0 ([] : List (String × Nat))) (cc : Int32) (fm : Value) (ca : Nat) (cs : List Int32) (h0 : Heap) (O : Ext Z.heap h0) (G : SEnv Z cc fm) (GU : SEnvU Z) (hn : cs.length ≤ 3) (hch : ∀ c ∈ cs, 0 ≤ c.toInt ∧ c.toInt < 65536) (VA : Ary Z h0 ca .char (cs.map Value.int))  :
    Con l Z ([] : List (String × Nat)) (⟨"java/lang/StringUTF16", "compress", "([CII)[B"⟩ : MethodName) jdk_52_method_16_code 6 (Option.some (Jvm.ClassFile.FieldType.array Jvm.ClassFile.FieldType.byte)) ({ frames := 3, cells := 2, slots := 9, locals := 40 } : Room) #[(.ref ca), (.int (0 : Int32)), (.int cs.length.toInt32)] h0 [] (fun v h => ∃ (ba : Nat) (bs : List Value), v = some (.ref ba) ∧ h0.size ≤ ba ∧ Ary Z h ba .byte bs ∧ (((∀ c ∈ cs, ¬ (255 : Int32) < c) ∧ bs = cs.map latB) ∨ ((∃ c ∈ cs, (255 : Int32) < c) ∧ bs = utfB cs))) := by
  refine Con.of (a0 := a0) #[.val (.ref ca), .val (.int (0 : Int32)), .val (.int cs.length.toInt32), .unset, .unset, .unset] (plainFor_of_name pn_0) hE O all0 (fun m => by first | (simp [entryFrame, mkF, argsToLocals, Value.category]; done) | rfl) ?_
  intro p e s m below meth c T0 hx hby hml hnm hret hlk hh W0
  have hn31 : cs.length < 2 ^ 29 := by omega
  have lt_ca : ca < h0.size := VA.lt
  refine g_iloadN (pc' := 1) W0.here hx (hb hby d_jdk_52_16_0) rfl rfl ?_
  refine w_newarr (pc' := 3) (cap := 3) W0 hx (hw _ (List.mem_of_getElem? w_19)) (hb hby d_jdk_52_16_1) (own_nneg (by omega)) (by rw [i32_nat (by omega)]; exact hn) (Nat.le_of_ble_eq_true rfl) (Nat.le_of_ble_eq_true rfl) (Nat.le_of_ble_eq_true rfl) rfl rfl fun T18 h18 b18 g18 W18 K18 V18 => ?_
  have z_K18 : h0.size ≤ h18.size := K18.1
  have ne_ca_b18 : ca ≠ b18 := by omega
  have lt_b18 : b18 < h18.size := W18.lt (List.mem_cons_self ..)
  have V19 : Ary Z h18 b18 .byte (List.replicate cs.length (.int 0)) := by rw [i32_nat (by omega)] at V18; exact V18
  refine g_astoreN (pc' := 4) (Ls' := #[.val (.ref ca), .val (.int (0 : Int32)), .val (.int cs.length.toInt32), .val (.ref b18), .unset, .unset]) W18.here hx (hb hby d_jdk_52_16_3) rfl rfl rfl ?_
  refine g_aloadN (pc' := 5) W18.here hx (hb hby d_jdk_52_16_4) rfl rfl rfl ?_
  refine g_iloadN (pc' := 6) W18.here hx (hb hby d_jdk_52_16_5) rfl rfl ?_
  refine g_aloadN (pc' := 7) W18.here hx (hb hby d_jdk_52_16_6) rfl rfl rfl ?_
  refine g_iconst (0 : Int32) (pc' := 8) W18.here hx (hb hby d_jdk_52_16_7) rfl rfl ?_
  refine g_iloadN (pc' := 9) W18.here hx (hb hby d_jdk_52_16_8) rfl rfl ?_
  have c20 := (VA.keep K18 nin0)
  refine w_callS (pc' := 12) (st := []) (y := (⟨"java/lang/StringUTF16", "compress", "([CI[BII)I"⟩ : MethodName)) W18 hx [(.ref ca), (.int (0 : Int32)), (.ref b18), (.int (0 : Int32)), (.int cs.length.toInt32)] (hw _ (List.mem_of_getElem? w_20)) (hw _ (List.mem_of_getElem? w_21)) (hw _ (List.mem_of_getElem? w_17)) (hw _ (List.mem_of_getElem? w_22)) (by decide) (c_compr l Z a0 hw hE ca b18 cs _ h18 W18.old hn hch c20 V19 (by simp) ne_ca_b18 (by have := O.1; omega)) (allS (List.mem_of_getElem? (i := 0) rfl) all0) (by rw [hml]; rfl) (lenOf pd_3 rfl) rfl (hb hby d_jdk_52_16_9) (Nat.le_of_ble_eq_true rfl) (Nat.le_of_ble_eq_true rfl) (Nat.le_of_ble_eq_true rfl) (Nat.le_of_ble_eq_true rfl) rfl fun v21 T21 h21 W21 K21 Q21 => ?_
  have z_K21 : h18.size ≤ h21.size := K21.1
  rcases Q21 with ⟨rfl, hlat, V22⟩ | ⟨gi, gc, hgi, hgc, hbig, rfl⟩
  · have hz9 := hlat
    refine g_istore (pc' := 14) (Ls' := #[.val (.ref ca), .val (.int (0 : Int32)), .val (.int cs.length.toInt32), .val (.ref b18), .val (.int cs.length.toInt32), .unset]) W21.here hx (hb hby d_jdk_52_16_12) rfl rfl ?_
    refine g_iload (pc' := 16) W21.here hx (hb hby d_jdk_52_16_14) rfl rfl ?_
    refine g_iloadN (pc' := 17) W21.here hx (hb hby d_jdk_52_16_16) rfl rfl ?_
    refine g_icmpY (pc' := 57) W21.here hx (hb hby d_jdk_52_16_17) rfl (teq (show cs.length.toInt32 = cs.length.toInt32 from rfl)).1 ?_
    refine g_aloadN (pc' := 58) W21.here hx (hb hby d_jdk_52_16_57) rfl rfl rfl ?_
    refine w_retA W21 hx hh hlk hret rfl rfl (hb hby d_jdk_52_16_58) (Nat.le_of_ble_eq_true rfl) (Nat.le_of_ble_eq_true rfl) ?_
    exact ⟨_, _, rfl, by omega, V22, Or.inl ⟨hlat, rfl⟩⟩
  · have hz9 := hbig
    refine g_istore (pc' := 14) (Ls' := #[.val (.ref ca), .val (.int (0 : Int32)), .val (.int cs.length.toInt32), .val (.ref b18), .val (.int gi.toInt32), .unset]) W21.here hx (hb hby d_jdk_52_16_12) rfl rfl ?_
    refine g_iload (pc' := 16) W21.here hx (hb hby d_jdk_52_16_14) rfl rfl ?_
    refine g_iloadN (pc' := 17) W21.here hx (hb hby d_jdk_52_16_16) rfl rfl ?_
    refine g_icmpN (pc' := 20) W21.here hx (hb hby d_jdk_52_16_17) rfl (feq (show ¬ (gi.toInt32 = cs.length.toInt32) from (fun q => by have := (own_n32 (by omega) (by omega)).mp q; omega))).1 ?_
    refine g_aloadN (pc' := 21) W21.here hx (hb hby d_jdk_52_16_20) rfl rfl rfl ?_
    refine g_iloadN (pc' := 22) W21.here hx (hb hby d_jdk_52_16_21) rfl rfl ?_
    refine g_iloadN (pc' := 23) W21.here hx (hb hby d_jdk_52_16_22) rfl rfl ?_
    have c23 := (c20.keep K21 (ninS ne_ca_b18 nin0))
    refine w_callS (pc' := 26) (st := []) (y := (⟨"java/lang/StringUTF16", "toBytes", "([CII)[B"⟩ : MethodName)) W21 hx [(.ref ca), (.int (0 : Int32)), (.int cs.length.toInt32)] (hw _ (List.mem_of_getElem? w_66)) (hw _ (List.mem_of_getElem? w_67)) (hw _ (List.mem_of_getElem? w_17)) (hw _ (List.mem_of_getElem? w_68)) (by decide) (c_toBytes l Z a0 hw hE cc fm ca cs h21 W21.old G GU hn hch c23) all0 (by rw [hml]; rfl) (lenOf pd_4 rfl) rfl (hb hby d_jdk_52_16_23) (Nat.le_of_ble_eq_true rfl) (Nat.le_of_ble_eq_true rfl) (Nat.le_of_ble_eq_true rfl) (Nat.le_of_ble_eq_true rfl) rfl fun v24 T24 h24 W24 K24 Q24 => ?_
    have z_K24 : h21.size ≤ h24.size := K24.1
    obtain ⟨ba25, rfl, gz25, V25⟩ := Q24
    have ne_ca_ba25 : ca ≠ ba25 := by omega
    have ne_b18_ba25 : b18 ≠ ba25 := by omega
    have lt_ba25 : ba25 < h24.size := V25.lt
    refine g_astore (pc' := 28) (Ls' := #[.val (.ref ca), .val (.int (0 : Int32)), .val (.int cs.length.toInt32), .val (.ref b18), .val (.int gi.toInt32), .val (.ref ba25)]) W24.here hx (hb hby d_jdk_52_16_26) rfl rfl rfl ?_
    refine g_aload (pc' := 30) W24.here hx (hb hby d_jdk_52_16_28) rfl rfl rfl ?_
    refine g_iload (pc' := 32) W24.here hx (hb hby d_jdk_52_16_30) rfl rfl ?_
    refine w_callSp (pc' := 35) (st := []) (y := (⟨"java/lang/StringUTF16", "getChar", "([BI)C"⟩ : MethodName)) W24 hx [(.ref ba25), (.int gi.toInt32)] (hw _ (List.mem_of_getElem? w_82)) (hw _ (List.mem_of_getElem? w_83)) (hw _ (List.mem_of_getElem? w_17)) (hw _ (List.mem_of_getElem? w_84)) (by decide) (c_getChar l Z a0 hw hE cc fm ba25 gi gc _ h24 W24.old G GU V25 (by omega) (own_uget cs gi gc hgc).1 (own_uget cs gi gc hgc).2 (hch gc (List.mem_of_getElem? hgc))) (by rw [hml]; rfl) (lenOf pd_5 rfl) rfl (hb hby d_jdk_52_16_32) (Nat.le_of_ble_eq_true rfl) (Nat.le_of_ble_eq_true rfl) rfl rfl (Nat.le_of_ble_eq_true rfl) (Nat.le_of_ble_eq_true rfl) rfl fun T26 W26 => ?_
    refine g_sipush (255 : Int32) (pc' := 38) W26.here hx (hb hby d_jdk_52_16_35) rfl rfl ?_
    refine g_icmpY (pc' := 54) W26.here hx (hb hby d_jdk_52_16_38) rfl (tlt (show (255 : Int32) < gc from hbig)).2.2.1 ?_
    refine g_aload (pc' := 56) W26.here hx (hb hby d_jdk_52_16_54) rfl rfl rfl ?_
    refine w_retA W26 hx hh hlk hret rfl rfl (hb hby d_jdk_52_16_56) (Nat.le_of_ble_eq_true rfl) (Nat.le_of_ble_eq_true rfl) ?_
    exact ⟨_, _, rfl, by omega, V25, Or.inr ⟨⟨gc, List.mem_of_getElem? hgc, hbig⟩, rfl⟩⟩
set_option maxRecDepth 65536 in
set_option maxHeartbeats 40000000 in
theorem c_coderFromL (l : Launch) (Z : State) (a0 : Array Value) (hw : ∀ d ∈ tables_1, d.before a0 Z = true) (hE : EW Z a0 ([] : List (String × Nat))) (ba : Nat) (cs : List Int32) (bs : List Value) (h0 : Heap) (O : Ext Z.heap h0) (VB : Ary Z h0 ba .byte bs) (hbl : bs.length = cs.length) (hpos : 0 < cs.length) (hn : cs.length < 2 ^ 29) :
    Con l Z ([] : List (String × Nat)) (⟨"java/lang/StringUTF16", "coderFromArrayLen", "([BI)B"⟩ : MethodName) jdk_52_method_15_code 2 (Option.some Jvm.ClassFile.FieldType.byte) ({ frames := 0, cells := 0, slots := 0, locals := 0 } : Room) #[(.ref ba), (.int cs.length.toInt32)] h0 [] (pureQ (some (.int 0)) h0) := by
  refine Con.of (a0 := a0) #[.val (.ref ba), .val (.int cs.length.toInt32)] (plainFor_of_name pn_0) hE O all0 (fun m => by first | (simp [entryFrame, mkF, argsToLocals, Value.category]; done) | rfl) ?_
  intro p e s m below meth c T0 hx hby hml hnm hret hlk hh W0
  refine g_iloadN (pc' := 1) W0.here hx (hb hby d_jdk_52_15_0) rfl rfl ?_
  refine g_aloadN (pc' := 2) W0.here hx (hb hby d_jdk_52_15_1) rfl rfl rfl ?_
  refine w_len (pc' := 3) W0 hx VB (hb hby d_jdk_52_15_2) rfl ?_
  refine g_name (w := .int cs.length.toInt32) (congrArg Value.int (by rw [hbl])) ?_
  refine g_isub (pc' := 4) W0.here hx (hb hby d_jdk_52_15_3) rfl ?_
  refine g_bipush (31 : Int32) (pc' := 6) W0.here hx (hb hby d_jdk_52_15_4) rfl rfl ?_
  refine g_iushr (pc' := 7) W0.here hx (hb hby d_jdk_52_15_6) rfl ?_
  refine g_i2b (pc' := 8) W0.here hx (hb hby d_jdk_52_15_7) rfl ?_
  refine w_retN (t := .byte) W0 hx hh hlk hret (by simp) (hb hby d_jdk_52_15_8) (Nat.le_of_ble_eq_true rfl) (Nat.le_of_ble_eq_true rfl) ?_
  exact ⟨congrArg (fun z => some (Value.int z)) (by rw [own_csub]; rfl), rfl⟩
set_option maxRecDepth 65536 in
set_option maxHeartbeats 40000000 in
theorem c_coderFromU (l : Launch) (Z : State) (a0 : Array Value) (hw : ∀ d ∈ tables_1, d.before a0 Z = true) (hE : EW Z a0 ([] : List (String × Nat))) (ba : Nat) (cs : List Int32) (bs : List Value) (h0 : Heap) (O : Ext Z.heap h0) (VB : Ary Z h0 ba .byte bs) (hbl : bs.length = 2 * cs.length) (hpos : 0 < cs.length) (hn : cs.length < 2 ^ 29) :
    Con l Z ([] : List (String × Nat)) (⟨"java/lang/StringUTF16", "coderFromArrayLen", "([BI)B"⟩ : MethodName) jdk_52_method_15_code 2 (Option.some Jvm.ClassFile.FieldType.byte) ({ frames := 0, cells := 0, slots := 0, locals := 0 } : Room) #[(.ref ba), (.int cs.length.toInt32)] h0 [] (pureQ (some (.int 1)) h0) := by
  refine Con.of (a0 := a0) #[.val (.ref ba), .val (.int cs.length.toInt32)] (plainFor_of_name pn_0) hE O all0 (fun m => by first | (simp [entryFrame, mkF, argsToLocals, Value.category]; done) | rfl) ?_
  intro p e s m below meth c T0 hx hby hml hnm hret hlk hh W0
  refine g_iloadN (pc' := 1) W0.here hx (hb hby d_jdk_52_15_0) rfl rfl ?_
  refine g_aloadN (pc' := 2) W0.here hx (hb hby d_jdk_52_15_1) rfl rfl rfl ?_
  refine w_len (pc' := 3) W0 hx VB (hb hby d_jdk_52_15_2) rfl ?_
  refine g_name (w := .int (2 * cs.length).toInt32) (congrArg Value.int (by rw [hbl])) ?_
  refine g_isub (pc' := 4) W0.here hx (hb hby d_jdk_52_15_3) rfl ?_
  refine g_bipush (31 : Int32) (pc' := 6) W0.here hx (hb hby d_jdk_52_15_4) rfl rfl ?_
  refine g_iushr (pc' := 7) W0.here hx (hb hby d_jdk_52_15_6) rfl ?_
  refine g_i2b (pc' := 8) W0.here hx (hb hby d_jdk_52_15_7) rfl ?_
  refine w_retN (t := .byte) W0 hx hh hlk hret (by simp) (hb hby d_jdk_52_15_8) (Nat.le_of_ble_eq_true rfl) (Nat.le_of_ble_eq_true rfl) ?_
  exact ⟨congrArg (fun z => some (Value.int z)) (by rw [own_csub1 hpos hn]; rfl), rfl⟩
theorem own_pos0 {n : Nat} (h : 0 < n) (hn : n < 2 ^ 31) : ¬ n.toInt32 = 0 := fun q => by
  have := congrArg Int32.toInt q
  rw [own_toInt hn] at this
  simp at this; omega
theorem own_nil {cs : List Int32} (hn : cs.length < 2 ^ 31) (q : cs.length.toInt32 = (0 : Int32)) : cs = [] := by
  cases cs with
  | nil => rfl
  | cons a t => exact absurd q (own_pos0 (by simp) hn)
theorem own_lat2 {cs : List Int32} (h : ∀ c ∈ cs, 0 ≤ c.toInt ∧ c.toInt < 65536) (q : ∀ c ∈ cs, ¬ (255 : Int32) < c) : ∀ c ∈ cs, 0 ≤ c.toInt ∧ c.toInt ≤ 255 := fun c hc => by
  have a := h c hc
  have b := q c hc
  rw [Int32.lt_iff_toInt_lt] at b
  have e : (255 : Int32).toInt = 255 := rfl
  omega
set_option maxRecDepth 65536 in
set_option maxHeartbeats 40000000 in
theorem c_str4 (l : Launch) (Z : State) (a0 : Array Value) (hw : ∀ d ∈ tables_1, d.before a0 Z = true) (hE : EW Z a0 ([] : List (String × Nat))) (cc : Int32) (fm : Value) (o ca : Nat) (cs : List Int32) (h0 : Heap) (O : Ext Z.heap h0) (G : SEnv Z cc fm) (GU : SEnvU Z) (hpos : 0 < cs.length) (hn : cs.length ≤ 3) (hch : ∀ c ∈ cs, 0 ≤ c.toInt ∧ c.toInt < 65536) (VA : Ary Z h0 ca .char (cs.map Value.int)) (hz : Z.heap.size ≤ o) (E0 : Exa Z h0 o "java/lang/String") (u1 u2 : Value) (F1 : Fld Z h0 o "java/lang/String" "coder" "B" u1) (F2 : Fld Z h0 o "java/lang/String" "value" "[B" u2) (hoc : o ≠ ca)  :
    Con l Z ([] : List (String × Nat)) (⟨"java/lang/String", "<init>", "([CIILjava/lang/Void;)V"⟩ : MethodName) jdk_42_method_149_code 6 (Option.none : Option Jvm.ClassFile.FieldType) ({ frames := 4, cells := 2, slots := 9, locals := 57 } : Room) #[(.ref o), (.ref ca), (.int (0 : Int32)), (.int cs.length.toInt32), .null] h0 [o] (fun v h => v = none ∧ ∃ b : Nat, SG Z h o b cs) := by
  refine Con.of (a0 := a0) #[.val (.ref o), .val (.ref ca), .val (.int (0 : Int32)), .val (.int cs.length.toInt32), .val .null, .unset] (plainFor_of_name pn_1) hE O (allS ⟨hz, E0.lt⟩ all0) (fun m => by first | (simp [entryFrame, mkF, argsToLocals, Value.category]; done) | rfl) ?_
  intro p e s m below meth c T0 hx hby hml hnm hret hlk hh W0
  have hn31 : cs.length < 2 ^ 29 := by omega
  have lt_ca : ca < h0.size := VA.lt
  have lt_o : o < h0.size := E0.lt
  refine g_aloadN (pc' := 1) W0.here hx (hb hby d_jdk_42_149_0) rfl rfl rfl ?_
  refine w_initO (pc' := 4) W0 hx (hw _ (List.mem_of_getElem? w_11)) (hw _ (List.mem_of_getElem? w_12)) (hw _ (List.mem_of_getElem? w_13)) (by rw [hml]; rfl) (hb hby d_jdk_42_149_1) (Nat.le_of_ble_eq_true rfl) (Nat.le_of_ble_eq_true rfl) rfl fun T27 W27 => ?_
  refine g_iloadN (pc' := 5) W27.here hx (hb hby d_jdk_42_149_4) rfl rfl ?_
  refine g_ifY (pc' := 27) W27.here hx (hb hby d_jdk_42_149_5) rfl (feq (show ¬ (cs.length.toInt32 = (0 : Int32)) from (own_pos0 hpos (by omega)))).2 ?_
  refine w_getS (pc' := 30) W27 hx (hw _ (List.mem_of_getElem? w_14)) Via.refl G.1 (hb hby d_jdk_42_149_27) rfl fun T28 W28 => ?_
  refine g_ifN (pc' := 33) W28.here hx (hb hby d_jdk_42_149_30) rfl (feq (show ¬ (cc = (0 : Int32)) from G.2.1)).1 ?_
  refine g_aloadN (pc' := 34) W28.here hx (hb hby d_jdk_42_149_33) rfl rfl rfl ?_
  refine g_iloadN (pc' := 35) W28.here hx (hb hby d_jdk_42_149_34) rfl rfl ?_
  refine g_iloadN (pc' := 36) W28.here hx (hb hby d_jdk_42_149_35) rfl rfl ?_
  refine w_callS (pc' := 39) (st := []) (y := (⟨"java/lang/StringUTF16", "compress", "([CII)[B"⟩ : MethodName)) W28 hx [(.ref ca), (.int (0 : Int32)), (.int cs.length.toInt32)] (hw _ (List.mem_of_getElem? w_15)) (hw _ (List.mem_of_getElem? w_16)) (hw _ (List.mem_of_getElem? w_17)) (hw _ (List.mem_of_getElem? w_18)) (by decide) (c_compress l Z a0 hw hE cc fm ca cs h0 W28.old G GU hn hch VA) all0 (by rw [hml]; rfl) (lenOf pd_4 rfl) rfl (hb hby d_jdk_42_149_36) (Nat.le_of_ble_eq_true rfl) (Nat.le_of_ble_eq_true rfl) (Nat.le_of_ble_eq_true rfl) (Nat.le_of_ble_eq_true rfl) rfl fun v29 T29 h29 W29 K29 Q29 => ?_
  have z_K29 : h0.size ≤ h29.size := K29.1
  obtain ⟨ba30, bs, rfl, gz30, V30, hcase⟩ := Q29
  have ne_ca_ba30 : ca ≠ ba30 := by omega
  have ne_o_ba30 : o ≠ ba30 := by omega
  have lt_ba30 : ba30 < h29.size := V30.lt
  rcases hcase with ⟨hlat, rfl⟩ | ⟨hbig, rfl⟩
  · have hz8 := hlat
    refine g_astore (pc' := 41) (Ls' := #[.val (.ref o), .val (.ref ca), .val (.int (0 : Int32)), .val (.int cs.length.toInt32), .val .null, .val (.ref ba30)]) W29.here hx (hb hby d_jdk_42_149_39) rfl rfl rfl ?_
    refine g_aloadN (pc' := 42) W29.here hx (hb hby d_jdk_42_149_41) rfl rfl rfl ?_
    refine g_aload (pc' := 44) W29.here hx (hb hby d_jdk_42_149_42) rfl rfl rfl ?_
    refine g_iloadN (pc' := 45) W29.here hx (hb hby d_jdk_42_149_44) rfl rfl ?_
    refine w_callSp (pc' := 48) (st := [(.ref o)]) (y := (⟨"java/lang/StringUTF16", "coderFromArrayLen", "([BI)B"⟩ : MethodName)) W29 hx [(.ref ba30), (.int cs.length.toInt32)] (hw _ (List.mem_of_getElem? w_23)) (hw _ (List.mem_of_getElem? w_24)) (hw _ (List.mem_of_getElem? w_17)) (hw _ (List.mem_of_getElem? w_25)) (by decide) (c_coderFromL l Z a0 hw hE ba30 cs _ h29 W29.old V30 (by simp) hpos hn31) (by rw [hml]; rfl) (lenOf pd_6 rfl) rfl (hb hby d_jdk_42_149_45) (Nat.le_of_ble_eq_true rfl) (Nat.le_of_ble_eq_true rfl) rfl rfl (Nat.le_of_ble_eq_true rfl) (Nat.le_of_ble_eq_true rfl) rfl fun T31 W31 => ?_
    have c32 := (F1.keep K29 nin0)
    have c33 := (E0.keep K29)
    refine w_putN (pc' := 51) (v' := (.int (0 : Int32))) W31 hx (hw _ (List.mem_of_getElem? w_26)) Via.refl c32 c33 (Or.inr ⟨(hw _ (List.mem_of_getElem? w_27)), rfl, hnm⟩) (hw _ (List.mem_of_getElem? w_2)) (ty := .byte) (by decide) rfl rfl (List.mem_of_getElem? (i := 0) rfl) (hb hby d_jdk_42_149_48) rfl fun T34 h34 W34 K34 R34 F34 A34 => ?_
    have c35 := (F2.keep K29 nin0)
    have z_K34 : h29.size ≤ h34.size := K34.1
    have c36 := (c35.other R34 (Or.inr (slot_ne (Or.inr (hw _ (List.mem_of_getElem? w_29))) (Or.inr (hw _ (List.mem_of_getElem? w_27))) (by decide) (t := (.array .byte)) (t' := .byte) (by decide) (by decide))))
    refine g_aloadN (pc' := 52) W34.here hx (hb hby d_jdk_42_149_51) rfl rfl rfl ?_
    refine g_aload (pc' := 54) W34.here hx (hb hby d_jdk_42_149_52) rfl rfl rfl ?_
    refine w_put (pc' := 57) W34 hx (hw _ (List.mem_of_getElem? w_28)) Via.refl c36 A34 (Or.inr ⟨(hw _ (List.mem_of_getElem? w_29)), rfl, hnm⟩) (hw _ (List.mem_of_getElem? w_2)) (ty := (.array .byte)) (by decide) rfl rfl (List.mem_of_getElem? (i := 0) rfl) (hb hby d_jdk_42_149_54) rfl fun T37 h37 W37 K37 R37 F37 A37 => ?_
    have z_K37 : h34.size ≤ h37.size := K37.1
    have c38 := (F34.other R37 (Or.inr (slot_ne (Or.inr (hw _ (List.mem_of_getElem? w_27))) (Or.inr (hw _ (List.mem_of_getElem? w_29))) (by decide) (t := .byte) (t' := (.array .byte)) (by decide) (by decide))))
    have c39 := ((V30.keep K34 (ninS (Ne.symm ne_o_ba30) nin0)).keep K37 (ninS (Ne.symm ne_o_ba30) nin0))
    refine w_retV W37 hx hh hlk hret (hb hby d_jdk_42_149_57) (Nat.le_of_ble_eq_true rfl) (Nat.le_of_ble_eq_true rfl) ?_
    exact ⟨rfl, ba30, Or.inl ⟨A37, c38, F37, c39, own_lat2 hch hlat⟩⟩
  · have hz8 := hbig
    refine g_astore (pc' := 41) (Ls' := #[.val (.ref o), .val (.ref ca), .val (.int (0 : Int32)), .val (.int cs.length.toInt32), .val .null, .val (.ref ba30)]) W29.here hx (hb hby d_jdk_42_149_39) rfl rfl rfl ?_
    refine g_aloadN (pc' := 42) W29.here hx (hb hby d_jdk_42_149_41) rfl rfl rfl ?_
    refine g_aload (pc' := 44) W29.here hx (hb hby d_jdk_42_149_42) rfl rfl rfl ?_
    refine g_iloadN (pc' := 45) W29.here hx (hb hby d_jdk_42_149_44) rfl rfl ?_
    refine w_callSp (pc' := 48) (st := [(.ref o)]) (y := (⟨"java/lang/StringUTF16", "coderFromArrayLen", "([BI)B"⟩ : MethodName)) W29 hx [(.ref ba30), (.int cs.length.toInt32)] (hw _ (List.mem_of_getElem? w_23)) (hw _ (List.mem_of_getElem? w_24)) (hw _ (List.mem_of_getElem? w_17)) (hw _ (List.mem_of_getElem? w_25)) (by decide) (c_coderFromU l Z a0 hw hE ba30 cs _ h29 W29.old V30 (own_ulen cs) hpos hn31) (by rw [hml]; rfl) (lenOf pd_6 rfl) rfl (hb hby d_jdk_42_149_45) (Nat.le_of_ble_eq_true rfl) (Nat.le_of_ble_eq_true rfl) rfl rfl (Nat.le_of_ble_eq_true rfl) (Nat.le_of_ble_eq_true rfl) rfl fun T40 W40 => ?_
    have c41 := (F1.keep K29 nin0)
    have c42 := (E0.keep K29)
    refine w_putN (pc' := 51) (v' := (.int (1 : Int32))) W40 hx (hw _ (List.mem_of_getElem? w_26)) Via.refl c41 c42 (Or.inr ⟨(hw _ (List.mem_of_getElem? w_27)), rfl, hnm⟩) (hw _ (List.mem_of_getElem? w_2)) (ty := .byte) (by decide) rfl rfl (List.mem_of_getElem? (i := 0) rfl) (hb hby d_jdk_42_149_48) rfl fun T43 h43 W43 K43 R43 F43 A43 => ?_
    have c44 := (F2.keep K29 nin0)
    have z_K43 : h29.size ≤ h43.size := K43.1
    have c45 := (c44.other R43 (Or.inr (slot_ne (Or.inr (hw _ (List.mem_of_getElem? w_29))) (Or.inr (hw _ (List.mem_of_getElem? w_27))) (by decide) (t := (.array .byte)) (t' := .byte) (by decide) (by decide))))
    refine g_aloadN (pc' := 52) W43.here hx (hb hby d_jdk_42_149_51) rfl rfl rfl ?_
    refine g_aload (pc' := 54) W43.here hx (hb hby d_jdk_42_149_52) rfl rfl rfl ?_
    refine w_put (pc' := 57) W43 hx (hw _ (List.mem_of_getElem? w_28)) Via.refl c45 A43 (Or.inr ⟨(hw _ (List.mem_of_getElem? w_29)), rfl, hnm⟩) (hw _ (List.mem_of_getElem? w_2)) (ty := (.array .byte)) (by decide) rfl rfl (List.mem_of_getElem? (i := 0) rfl) (hb hby d_jdk_42_149_54) rfl fun T46 h46 W46 K46 R46 F46 A46 => ?_
    have z_K46 : h43.size ≤ h46.size := K46.1
    have c47 := (F43.other R46 (Or.inr (slot_ne (Or.inr (hw _ (List.mem_of_getElem? w_27))) (Or.inr (hw _ (List.mem_of_getElem? w_29))) (by decide) (t := .byte) (t' := (.array .byte)) (by decide) (by decide))))
    have c48 := ((V30.keep K43 (ninS (Ne.symm ne_o_ba30) nin0)).keep K46 (ninS (Ne.symm ne_o_ba30) nin0))
    refine w_retV W46 hx hh hlk hret (hb hby d_jdk_42_149_57) (Nat.le_of_ble_eq_true rfl) (Nat.le_of_ble_eq_true rfl) ?_
    exact ⟨rfl, ba30, Or.inr ⟨A46, c47, F46, c48, hch, hn31⟩⟩
set_option maxRecDepth 65536 in
set_option maxHeartbeats 40000000 in
theorem c_strC (l : Launch) (Z : State) (a0 : Array Value) (hw : ∀ d ∈ tables_1, d.before a0 Z = true) (hE : EW Z a0 ([] : List (String × Nat))) (cc : Int32) (fm : Value) (o ca : Nat) (cs : List Int32) (h0 : Heap) (O : Ext Z.heap h0) (G : SEnv Z cc fm) (GU : SEnvU Z) (hpos : 0 < cs.length) (hn : cs.length ≤ 3) (hch : ∀ c ∈ cs, 0 ≤ c.toInt ∧ c.toInt < 65536) (VA : Ary Z h0 ca .char (cs.map Value.int)) (hz : Z.heap.size ≤ o) (E0 : Exa Z h0 o "java/lang/String") (u1 u2 : Value) (F1 : Fld Z h0 o "java/lang/String" "coder" "B" u1) (F2 : Fld Z h0 o "java/lang/String" "value" "[B" u2) (hoc : o ≠ ca)  :
    Con l Z ([] : List (String × Nat)) (⟨"java/lang/String", "<init>", "([C)V"⟩ : MethodName) jdk_42_method_3_code 2 (Option.none : Option Jvm.ClassFile.FieldType) ({ frames := 5, cells := 2, slots := 9, locals := 74 } : Room) #[(.ref o), (.ref ca)] h0 [o] (fun v h => v = none ∧ ∃ b : Nat, SG Z h o b cs) := by
  refine Con.of (a0 := a0) #[.val (.ref o), .val (.ref ca)] (plainFor_of_name pn_1) hE O (allS ⟨hz, E0.lt⟩ all0) (fun m => by first | (simp [entryFrame, mkF, argsToLocals, Value.category]; done) | rfl) ?_
  intro p e s m below meth c T0 hx hby hml hnm hret hlk hh W0
  have hn31 : cs.length < 2 ^ 29 := by omega
  have lt_ca : ca < h0.size := VA.lt
  have lt_o : o < h0.size := E0.lt
  refine g_aloadN (pc' := 1) W0.here hx (hb hby d_jdk_42_3_0) rfl rfl rfl ?_
  refine g_aloadN (pc' := 2) W0.here hx (hb hby d_jdk_42_3_1) rfl rfl rfl ?_
  refine g_iconst (0 : Int32) (pc' := 3) W0.here hx (hb hby d_jdk_42_3_2) rfl rfl ?_
  refine g_aloadN (pc' := 4) W0.here hx (hb hby d_jdk_42_3_3) rfl rfl rfl ?_
  refine w_len (pc' := 5) W0 hx VA (hb hby d_jdk_42_3_4) rfl ?_
  refine g_name (w := .int cs.length.toInt32) (congrArg Value.int (by rw [List.length_map])) ?_
  refine g_aconstNull (pc' := 6) W0.here hx (hb hby d_jdk_42_3_5) rfl ?_
  refine w_special (pc' := 9) (st := []) (y := (⟨"java/lang/String", "<init>", "([CIILjava/lang/Void;)V"⟩ : MethodName)) (a := o) W0 hx [(.ref ca), (.int (0 : Int32)), (.int cs.length.toInt32), .null] rfl (hw _ (List.mem_of_getElem? w_7)) (hw _ (List.mem_of_getElem? w_8)) (hw _ (List.mem_of_getElem? w_3)) (hw _ (List.mem_of_getElem? w_10)) (by decide) (c_str4 l Z a0 hw hE cc fm o ca cs h0 W0.old G GU hpos hn hch VA (by have := O.1; omega) E0 _ _ F1 F2 hoc) (allS (List.mem_of_getElem? (i := 0) rfl) all0) (by rw [hml]; rfl) (lenOf pd_7 rfl) rfl (hb hby d_jdk_42_3_6) (Nat.le_of_ble_eq_true rfl) (Nat.le_of_ble_eq_true rfl) (Nat.le_of_ble_eq_true rfl) (Nat.le_of_ble_eq_true rfl) rfl fun v49 T49 h49 W49 K49 Q49 => ?_
  have z_K49 : h0.size ≤ h49.size := K49.1
  obtain ⟨rfl, sb50, S50⟩ := Q49
  have ES50 := S50.exa
  have lt_sb50 : sb50 < h49.size := S50.ltb
  refine w_retV W49 hx hh hlk hret (hb hby d_jdk_42_3_9) (Nat.le_of_ble_eq_true rfl) (Nat.le_of_ble_eq_true rfl) ?_
  exact ⟨rfl, _, S50⟩
set_option maxRecDepth 65536 in
set_option maxHeartbeats 40000000 in
theorem c_isLatL (l : Launch) (Z : State) (a0 : Array Value) (hw : ∀ d ∈ tables_1, d.before a0 Z = true) (hE : EW Z a0 ([] : List (String × Nat))) (cc : Int32) (fm : Value) (a b : Nat) (cs : List Int32)  (h0 : Heap) (O : Ext Z.heap h0) (G : SEnv Z cc fm) (GU : SEnvU Z) (S0 : SL Z h0 a b cs)  :
    Con l Z ([] : List (String × Nat)) (⟨"java/lang/String", "isLatin1", "()Z"⟩ : MethodName) jdk_42_method_154_code 1 (Option.some Jvm.ClassFile.FieldType.boolean) ({ frames := 0, cells := 0, slots := 0, locals := 0 } : Room) #[(.ref a)] h0 [] (pureQ (some (.int 1)) h0) := by
  refine Con.of (a0 := a0) #[.val (.ref a)] (plainFor_of_name pn_1) hE O all0 (fun m => by first | (simp [entryFrame, mkF, argsToLocals, Value.category]; done) | rfl) ?_
  intro p e s m below meth c T0 hx hby hml hnm hret hlk hh W0
  obtain ⟨E_a, FC_a, FV_a, V_b, L_a⟩ := id S0
  have hl29 : cs.length < 2 ^ 31 := by have := V_b.len; simpa using this
  refine w_getS (pc' := 3) W0 hx (hw _ (List.mem_of_getElem? w_14)) Via.refl G.1 (hb hby d_jdk_42_154_0) rfl fun T55 W55 => ?_
  refine g_ifN (pc' := 6) W55.here hx (hb hby d_jdk_42_154_3) rfl (feq (show ¬ (cc = (0 : Int32)) from G.2.1)).1 ?_
  refine g_aloadN (pc' := 7) W55.here hx (hb hby d_jdk_42_154_6) rfl rfl rfl ?_
  refine w_get (pc' := 10) W55 hx (hw _ (List.mem_of_getElem? w_26)) Via.refl FC_a (hb hby d_jdk_42_154_7) rfl fun T56 W56 => ?_
  refine g_ifN (pc' := 13) W56.here hx (hb hby d_jdk_42_154_10) rfl (teq (show (0 : Int32) = (0 : Int32) from (by decide))).2 ?_
  refine g_iconst (1 : Int32) (pc' := 14) W56.here hx (hb hby d_jdk_42_154_13) rfl rfl ?_
  refine g_goto (pc' := 18) W56.here hx (hb hby d_jdk_42_154_14) rfl ?_
  refine w_retN (t := .boolean) W56 hx hh hlk hret (by simp) (hb hby d_jdk_42_154_18) (Nat.le_of_ble_eq_true rfl) (Nat.le_of_ble_eq_true rfl) ?_
  exact ⟨rfl, rfl⟩
set_option maxRecDepth 65536 in
set_option maxHeartbeats 40000000 in
theorem c_isLatU (l : Launch) (Z : State) (a0 : Array Value) (hw : ∀ d ∈ tables_1, d.before a0 Z = true) (hE : EW Z a0 ([] : List (String × Nat))) (cc : Int32) (fm : Value) (a b : Nat) (cs : List Int32)  (h0 : Heap) (O : Ext Z.heap h0) (G : SEnv Z cc fm) (GU : SEnvU Z) (S0 : SU Z h0 a b cs)  :
    Con l Z ([] : List (String × Nat)) (⟨"java/lang/String", "isLatin1", "()Z"⟩ : MethodName) jdk_42_method_154_code 1 (Option.some Jvm.ClassFile.FieldType.boolean) ({ frames := 0, cells := 0, slots := 0, locals := 0 } : Room) #[(.ref a)] h0 [] (pureQ (some (.int 0)) h0) := by
  refine Con.of (a0 := a0) #[.val (.ref a)] (plainFor_of_name pn_1) hE O all0 (fun m => by first | (simp [entryFrame, mkF, argsToLocals, Value.category]; done) | rfl) ?_
  intro p e s m below meth c T0 hx hby hml hnm hret hlk hh W0
  obtain ⟨E_a, FC_a, FV_a, V_b, L_a, hl29⟩ := id S0
  refine w_getS (pc' := 3) W0 hx (hw _ (List.mem_of_getElem? w_14)) Via.refl G.1 (hb hby d_jdk_42_154_0) rfl fun T57 W57 => ?_
  refine g_ifN (pc' := 6) W57.here hx (hb hby d_jdk_42_154_3) rfl (feq (show ¬ (cc = (0 : Int32)) from G.2.1)).1 ?_
  refine g_aloadN (pc' := 7) W57.here hx (hb hby d_jdk_42_154_6) rfl rfl rfl ?_
  refine w_get (pc' := 10) W57 hx (hw _ (List.mem_of_getElem? w_26)) Via.refl FC_a (hb hby d_jdk_42_154_7) rfl fun T58 W58 => ?_
  refine g_ifY (pc' := 17) W58.here hx (hb hby d_jdk_42_154_10) rfl (feq (show ¬ ((1 : Int32) = (0 : Int32)) from (by decide))).2 ?_
  refine g_iconst (0 : Int32) (pc' := 18) W58.here hx (hb hby d_jdk_42_154_17) rfl rfl ?_
  refine w_retN (t := .boolean) W58 hx hh hlk hret (by simp) (hb hby d_jdk_42_154_18) (Nat.le_of_ble_eq_true rfl) (Nat.le_of_ble_eq_true rfl) ?_
  exact ⟨rfl, rfl⟩
set_option maxRecDepth 65536 in
set_option maxHeartbeats 40000000 in
theorem c_chk3 (l : Launch) (Z : State) (a0 : Array Value) (hw : ∀ d ∈ tables_1, d.before a0 Z = true) (hE : EW Z a0 ([] : List (String × Nat))) (j n : Int32) (fm : Value) (h0 : Heap) (O : Ext Z.heap h0) (hfm : fm.isRef = true) (hj : ¬ j < 0) (hjn : j < n) :
    Con l Z ([] : List (String × Nat)) (⟨"jdk/internal/util/Preconditions", "checkIndex", "(IILjava/util/function/BiFunction;)I"⟩ : MethodName) jdk_41_method_11_code 3 (Option.some Jvm.ClassFile.FieldType.int) ({ frames := 0, cells := 0, slots := 0, locals := 0 } : Room) #[(.int j), (.int n), fm] h0 [] (pureQ (some (.int j)) h0) := by
  refine Con.of (a0 := a0) #[.val (.int j), .val (.int n), .val fm] (plainFor_of_name pn_2) hE O all0 (fun m => by rcases ref_cases hfm with rfl | ⟨_, rfl⟩ <;> rfl) ?_
  intro p e s m below meth c T0 hx hby hml hnm hret hlk hh W0
  refine g_iloadN (pc' := 1) W0.here hx (hb hby d_jdk_41_11_0) rfl rfl ?_
  refine g_ifN (pc' := 4) W0.here hx (hb hby d_jdk_41_11_1) rfl (flt (show ¬ (j < (0 : Int32)) from hj)).1 ?_
  refine g_iloadN (pc' := 5) W0.here hx (hb hby d_jdk_41_11_4) rfl rfl ?_
  refine g_iloadN (pc' := 6) W0.here hx (hb hby d_jdk_41_11_5) rfl rfl ?_
  refine g_icmpY (pc' := 16) W0.here hx (hb hby d_jdk_41_11_6) rfl (tlt (show j < n from hjn)).1 ?_
  refine g_iloadN (pc' := 17) W0.here hx (hb hby d_jdk_41_11_16) rfl rfl ?_
  refine w_retI W0 hx hh hlk hret (hb hby d_jdk_41_11_17) (Nat.le_of_ble_eq_true rfl) (Nat.le_of_ble_eq_true rfl) ?_
  exact ⟨rfl, rfl⟩
set_option maxRecDepth 65536 in
set_option maxHeartbeats 40000000 in
theorem c_chk2 (l : Launch) (Z : State) (a0 : Array Value) (hw : ∀ d ∈ tables_1, d.before a0 Z = true) (hE : EW Z a0 ([] : List (String × Nat))) (cc : Int32) (fm : Value) (j n : Int32) (h0 : Heap) (O : Ext Z.heap h0) (G : SEnv Z cc fm) (GU : SEnvU Z) (hj : ¬ j < 0) (hjn : j < n) :
    Con l Z ([] : List (String × Nat)) (⟨"java/lang/String", "checkIndex", "(II)V"⟩ : MethodName) jdk_42_method_155_code 2 (Option.none : Option Jvm.ClassFile.FieldType) ({ frames := 1, cells := 0, slots := 0, locals := 14 } : Room) #[(.int j), (.int n)] h0 [] (pureQ none h0) := by
  refine Con.of (a0 := a0) #[.val (.int j), .val (.int n)] (plainFor_of_name pn_1) hE O all0 (fun m => by first | (simp [entryFrame, mkF, argsToLocals, Value.category]; done) | rfl) ?_
  intro p e s m below meth c T0 hx hby hml hnm hret hlk hh W0
  refine g_iloadN (pc' := 1) W0.here hx (hb hby d_jdk_42_155_0) rfl rfl ?_
  refine g_iloadN (pc' := 2) W0.here hx (hb hby d_jdk_42_155_1) rfl rfl ?_
  refine w_getS (pc' := 5) W0 hx (hw _ (List.mem_of_getElem? w_112)) Via.refl G.2.2.1 (hb hby d_jdk_42_155_2) rfl fun T59 W59 => ?_
  refine w_callSp (pc' := 8) (st := []) (y := (⟨"jdk/internal/util/Preconditions", "checkIndex", "(IILjava/util/function/BiFunction;)I"⟩ : MethodName)) W59 hx [(.int j), (.int n), fm] (hw _ (List.mem_of_getElem? w_114)) (hw _ (List.mem_of_getElem? w_115)) (hw _ (List.mem_of_getElem? w_113)) (hw _ (List.mem_of_getElem? w_116)) (by decide) (c_chk3 l Z a0 hw hE j n fm h0 W59.old G.2.2.2 hj hjn) (by rw [hml]; rfl) (lenOf pd_8 rfl) rfl (hb hby d_jdk_42_155_5) (Nat.le_of_ble_eq_true rfl) (Nat.le_of_ble_eq_true rfl) rfl rfl (Nat.le_of_ble_eq_true rfl) (Nat.le_of_ble_eq_true rfl) rfl fun T60 W60 => ?_
  refine g_pop (pc' := 9) W60.here hx (hb hby d_jdk_42_155_8) rfl rfl ?_
  refine w_retV W60 hx hh hlk hret (hb hby d_jdk_42_155_9) (Nat.le_of_ble_eq_true rfl) (Nat.le_of_ble_eq_true rfl) ?_
  exact ⟨rfl, rfl⟩
set_option maxRecDepth 65536 in
set_option maxHeartbeats 40000000 in
theorem c_l1at (l : Launch) (Z : State) (a0 : Array Value) (hw : ∀ d ∈ tables_1, d.before a0 Z = true) (hE : EW Z a0 ([] : List (String × Nat))) (cc : Int32) (fm : Value) (a b : Nat) (cs : List Int32) (j cj : Int32) (h0 : Heap) (O : Ext Z.heap h0) (G : SEnv Z cc fm) (GU : SEnvU Z) (S0 : SL Z h0 a b cs) (hj : ¬ j < 0) (hjn : j < cs.length.toInt32) (hcj : cs[j.toNatClampNeg]? = some cj) :
    Con l Z ([] : List (String × Nat)) (⟨"java/lang/StringLatin1", "charAt", "([BI)C"⟩ : MethodName) jdk_43_method_2_code 2 (Option.some Jvm.ClassFile.FieldType.char) ({ frames := 2, cells := 0, slots := 0, locals := 27 } : Room) #[(.ref b), (.int j)] h0 [] (pureQ (some (.int cj)) h0) := by
  refine Con.of (a0 := a0) #[.val (.ref b), .val (.int j)] (plainFor_of_name pn_3) hE O all0 (fun m => by first | (simp [entryFrame, mkF, argsToLocals, Value.category]; done) | rfl) ?_
  intro p e s m below meth c T0 hx hby hml hnm hret hlk hh W0
  obtain ⟨E_a, FC_a, FV_a, V_b, L_a⟩ := id S0
  have hl29 : cs.length < 2 ^ 31 := by have := V_b.len; simpa using this
  refine g_iloadN (pc' := 1) W0.here hx (hb hby d_jdk_43_2_0) rfl rfl ?_
  refine g_aloadN (pc' := 2) W0.here hx (hb hby d_jdk_43_2_1) rfl rfl rfl ?_
  refine w_len (pc' := 3) W0 hx V_b (hb hby d_jdk_43_2_2) rfl ?_
  refine g_name (w := .int cs.length.toInt32) (congrArg Value.int (by rw [List.length_map])) ?_
  refine w_callSp (pc' := 6) (st := []) (y := (⟨"java/lang/String", "checkIndex", "(II)V"⟩ : MethodName)) W0 hx [(.int j), (.int cs.length.toInt32)] (hw _ (List.mem_of_getElem? w_127)) (hw _ (List.mem_of_getElem? w_110)) (hw _ (List.mem_of_getElem? w_3)) (hw _ (List.mem_of_getElem? w_111)) (by decide) (c_chk2 l Z a0 hw hE cc fm j cs.length.toInt32 h0 W0.old G GU hj hjn) (by rw [hml]; rfl) (lenOf pd_9 rfl) rfl (hb hby d_jdk_43_2_3) (Nat.le_of_ble_eq_true rfl) (Nat.le_of_ble_eq_true rfl) rfl rfl (Nat.le_of_ble_eq_true rfl) (Nat.le_of_ble_eq_true rfl) rfl fun T61 W61 => ?_
  refine g_aloadN (pc' := 7) W61.here hx (hb hby d_jdk_43_2_6) rfl rfl rfl ?_
  refine g_iloadN (pc' := 8) W61.here hx (hb hby d_jdk_43_2_7) rfl rfl ?_
  refine w_baload (pc' := 9) (v := (.int cj.toInt8.toInt32)) W61 hx V_b hj (by rw [List.getElem?_map, hcj]; rfl) (hb hby d_jdk_43_2_8) rfl ?_
  refine g_sipush (255 : Int32) (pc' := 12) W61.here hx (hb hby d_jdk_43_2_9) rfl rfl ?_
  refine g_iand (pc' := 13) W61.here hx (hb hby d_jdk_43_2_12) rfl ?_
  refine g_i2c (pc' := 14) W61.here hx (hb hby d_jdk_43_2_13) rfl ?_
  refine w_retN (t := .char) W61 hx hh hlk hret (by simp) (hb hby d_jdk_43_2_14) (Nat.le_of_ble_eq_true rfl) (Nat.le_of_ble_eq_true rfl) ?_
  exact ⟨congrArg (fun z => some (Value.int z)) (own_back cj (L_a cj (List.mem_of_getElem? hcj))), rfl⟩
set_option maxRecDepth 65536 in
set_option maxHeartbeats 40000000 in
theorem c_ulen (l : Launch) (Z : State) (a0 : Array Value) (hw : ∀ d ∈ tables_1, d.before a0 Z = true) (hE : EW Z a0 ([] : List (String × Nat))) (cc : Int32) (fm : Value) (a b : Nat) (cs : List Int32)  (h0 : Heap) (O : Ext Z.heap h0) (G : SEnv Z cc fm) (GU : SEnvU Z) (S0 : SU Z h0 a b cs)  :
    Con l Z ([] : List (String × Nat)) (⟨"java/lang/StringUTF16", "length", "([B)I"⟩ : MethodName) jdk_52_method_6_code 1 (Option.some Jvm.ClassFile.FieldType.int) ({ frames := 0, cells := 0, slots := 0, locals := 0 } : Room) #[(.ref b)] h0 [] (pureQ (some (.int cs.length.toInt32)) h0) := by
  refine Con.of (a0 := a0) #[.val (.ref b)] (plainFor_of_name pn_0) hE O all0 (fun m => by first | (simp [entryFrame, mkF, argsToLocals, Value.category]; done) | rfl) ?_
  intro p e s m below meth c T0 hx hby hml hnm hret hlk hh W0
  obtain ⟨E_a, FC_a, FV_a, V_b, L_a, hl29⟩ := id S0
  refine g_aloadN (pc' := 1) W0.here hx (hb hby d_jdk_52_6_0) rfl rfl rfl ?_
  refine w_len (pc' := 2) W0 hx V_b (hb hby d_jdk_52_6_1) rfl ?_
  refine g_name (w := .int (2 * cs.length).toInt32) (congrArg Value.int (by rw [own_ulen])) ?_
  refine g_iconst (1 : Int32) (pc' := 3) W0.here hx (hb hby d_jdk_52_6_2) rfl rfl ?_
  refine g_ishr (pc' := 4) W0.here hx (hb hby d_jdk_52_6_3) rfl ?_
  refine w_retI W0 hx hh hlk hret (hb hby d_jdk_52_6_4) (Nat.le_of_ble_eq_true rfl) (Nat.le_of_ble_eq_true rfl) ?_
  exact ⟨congrArg (fun z => some (Value.int z)) (own_shr1 hl29), rfl⟩
set_option maxRecDepth 65536 in
set_option maxHeartbeats 40000000 in
theorem c_uchk (l : Launch) (Z : State) (a0 : Array Value) (hw : ∀ d ∈ tables_1, d.before a0 Z = true) (hE : EW Z a0 ([] : List (String × Nat))) (cc : Int32) (fm : Value) (a b : Nat) (cs : List Int32) (j : Int32) (h0 : Heap) (O : Ext Z.heap h0) (G : SEnv Z cc fm) (GU : SEnvU Z) (S0 : SU Z h0 a b cs) (hj : ¬ j < 0) (hjn : j < cs.length.toInt32) :
    Con l Z ([] : List (String × Nat)) (⟨"java/lang/StringUTF16", "checkIndex", "(I[B)V"⟩ : MethodName) jdk_52_method_91_code 2 (Option.none : Option Jvm.ClassFile.FieldType) ({ frames := 2, cells := 0, slots := 0, locals := 27 } : Room) #[(.int j), (.ref b)] h0 [] (pureQ none h0) := by
  refine Con.of (a0 := a0) #[.val (.int j), .val (.ref b)] (plainFor_of_name pn_0) hE O all0 (fun m => by first | (simp [entryFrame, mkF, argsToLocals, Value.category]; done) | rfl) ?_
  intro p e s m below meth c T0 hx hby hml hnm hret hlk hh W0
  obtain ⟨E_a, FC_a, FV_a, V_b, L_a, hl29⟩ := id S0
  refine g_iloadN (pc' := 1) W0.here hx (hb hby d_jdk_52_91_0) rfl rfl ?_
  refine g_aloadN (pc' := 2) W0.here hx (hb hby d_jdk_52_91_1) rfl rfl rfl ?_
  refine w_callSp (pc' := 5) (st := [(.int j)]) (y := (⟨"java/lang/StringUTF16", "length", "([B)I"⟩ : MethodName)) W0 hx [(.ref b)] (hw _ (List.mem_of_getElem? w_106)) (hw _ (List.mem_of_getElem? w_107)) (hw _ (List.mem_of_getElem? w_17)) (hw _ (List.mem_of_getElem? w_108)) (by decide) (c_ulen l Z a0 hw hE cc fm a b cs h0 W0.old G GU S0) (by rw [hml]; rfl) (lenOf pd_10 rfl) rfl (hb hby d_jdk_52_91_2) (Nat.le_of_ble_eq_true rfl) (Nat.le_of_ble_eq_true rfl) rfl rfl (Nat.le_of_ble_eq_true rfl) (Nat.le_of_ble_eq_true rfl) rfl fun T62 W62 => ?_
  refine w_callSp (pc' := 8) (st := []) (y := (⟨"java/lang/String", "checkIndex", "(II)V"⟩ : MethodName)) W62 hx [(.int j), (.int cs.length.toInt32)] (hw _ (List.mem_of_getElem? w_109)) (hw _ (List.mem_of_getElem? w_110)) (hw _ (List.mem_of_getElem? w_3)) (hw _ (List.mem_of_getElem? w_111)) (by decide) (c_chk2 l Z a0 hw hE cc fm j cs.length.toInt32 h0 W62.old G GU hj hjn) (by rw [hml]; rfl) (lenOf pd_9 rfl) rfl (hb hby d_jdk_52_91_5) (Nat.le_of_ble_eq_true rfl) (Nat.le_of_ble_eq_true rfl) rfl rfl (Nat.le_of_ble_eq_true rfl) (Nat.le_of_ble_eq_true rfl) rfl fun T63 W63 => ?_
  refine w_retV W63 hx hh hlk hret (hb hby d_jdk_52_91_8) (Nat.le_of_ble_eq_true rfl) (Nat.le_of_ble_eq_true rfl) ?_
  exact ⟨rfl, rfl⟩
theorem own_jn {j : Int32} (h : ¬ j < 0) : j = j.toNatClampNeg.toInt32 := (back32 h).1.symm
set_option maxRecDepth 65536 in
set_option maxHeartbeats 40000000 in
theorem c_uat (l : Launch) (Z : State) (a0 : Array Value) (hw : ∀ d ∈ tables_1, d.before a0 Z = true) (hE : EW Z a0 ([] : List (String × Nat))) (cc : Int32) (fm : Value) (a b : Nat) (cs : List Int32) (j cj : Int32) (h0 : Heap) (O : Ext Z.heap h0) (G : SEnv Z cc fm) (GU : SEnvU Z) (hl28 : cs.length ≤ 2 ^ 28) (S0 : SU Z h0 a b cs) (hj : ¬ j < 0) (hjn : j < cs.length.toInt32) (hcj : cs[j.toNatClampNeg]? = some cj) :
    Con l Z ([] : List (String × Nat)) (⟨"java/lang/StringUTF16", "charAt", "([BI)C"⟩ : MethodName) jdk_52_method_83_code 2 (Option.some Jvm.ClassFile.FieldType.char) ({ frames := 3, cells := 0, slots := 0, locals := 40 } : Room) #[(.ref b), (.int j)] h0 [] (pureQ (some (.int cj)) h0) := by
  refine Con.of (a0 := a0) #[.val (.ref b), .val (.int j)] (plainFor_of_name pn_0) hE O all0 (fun m => by first | (simp [entryFrame, mkF, argsToLocals, Value.category]; done) | rfl) ?_
  intro p e s m below meth c T0 hx hby hml hnm hret hlk hh W0
  obtain ⟨E_a, FC_a, FV_a, V_b, L_a, hl29⟩ := id S0
  refine g_iloadN (pc' := 1) W0.here hx (hb hby d_jdk_52_83_0) rfl rfl ?_
  refine g_aloadN (pc' := 2) W0.here hx (hb hby d_jdk_52_83_1) rfl rfl rfl ?_
  refine w_callSp (pc' := 5) (st := []) (y := (⟨"java/lang/StringUTF16", "checkIndex", "(I[B)V"⟩ : MethodName)) W0 hx [(.int j), (.ref b)] (hw _ (List.mem_of_getElem? w_103)) (hw _ (List.mem_of_getElem? w_104)) (hw _ (List.mem_of_getElem? w_17)) (hw _ (List.mem_of_getElem? w_105)) (by decide) (c_uchk l Z a0 hw hE cc fm a b cs j h0 W0.old G GU S0 hj hjn) (by rw [hml]; rfl) (lenOf pd_11 rfl) rfl (hb hby d_jdk_52_83_2) (Nat.le_of_ble_eq_true rfl) (Nat.le_of_ble_eq_true rfl) rfl rfl (Nat.le_of_ble_eq_true rfl) (Nat.le_of_ble_eq_true rfl) rfl fun T64 W64 => ?_
  refine g_aloadN (pc' := 6) W64.here hx (hb hby d_jdk_52_83_5) rfl rfl rfl ?_
  refine g_iloadN (pc' := 7) W64.here hx (hb hby d_jdk_52_83_6) rfl rfl ?_
  have hj28 : j.toNatClampNeg < 2 ^ 28 := by have := (List.getElem?_eq_some_iff.mp hcj).1; omega
  refine g_name (w := .int j.toNatClampNeg.toInt32) (congrArg Value.int (own_jn hj).symm) ?_
  refine w_callSp (pc' := 10) (st := []) (y := (⟨"java/lang/StringUTF16", "getChar", "([BI)C"⟩ : MethodName)) W64 hx [(.ref b), (.int j.toNatClampNeg.toInt32)] (hw _ (List.mem_of_getElem? w_82)) (hw _ (List.mem_of_getElem? w_83)) (hw _ (List.mem_of_getElem? w_17)) (hw _ (List.mem_of_getElem? w_84)) (by decide) (c_getChar l Z a0 hw hE cc fm b j.toNatClampNeg cj _ h0 W64.old G GU V_b hj28 (own_uget cs _ cj hcj).1 (own_uget cs _ cj hcj).2 (L_a cj (List.mem_of_getElem? hcj))) (by rw [hml]; rfl) (lenOf pd_5 rfl) rfl (hb hby d_jdk_52_83_7) (Nat.le_of_ble_eq_true rfl) (Nat.le_of_ble_eq_true rfl) rfl rfl (Nat.le_of_ble_eq_true rfl) (Nat.le_of_ble_eq_true rfl) rfl fun T65 W65 => ?_
  refine w_retN (t := .char) W65 hx hh hlk hret (by simp) (hb hby d_jdk_52_83_10) (Nat.le_of_ble_eq_true rfl) (Nat.le_of_ble_eq_true rfl) ?_
  exact ⟨congrArg (fun z => some (Value.int z)) (own_nchar (L_a cj (List.mem_of_getElem? hcj))), rfl⟩
set_option maxRecDepth 65536 in
set_option maxHeartbeats 40000000 in
theorem c_charAtL (l : Launch) (Z : State) (a0 : Array Value) (hw : ∀ d ∈ tables_1, d.before a0 Z = true) (hE : EW Z a0 ([] : List (String × Nat))) (cc : Int32) (fm : Value) (a b : Nat) (cs : List Int32) (j cj : Int32)  (h0 : Heap) (O : Ext Z.heap h0) (G : SEnv Z cc fm) (GU : SEnvU Z) (S0 : SL Z h0 a b cs) (hl28 : cs.length ≤ 2 ^ 28) (hj : ¬ j < 0) (hjn : j < cs.length.toInt32) (hcj : cs[j.toNatClampNeg]? = some cj) :
    Con l Z ([] : List (String × Nat)) (⟨"java/lang/String", "charAt", "(I)C"⟩ : MethodName) jdk_42_method_56_code 2 (Option.some Jvm.ClassFile.FieldType.char) ({ frames := 4, cells := 0, slots := 0, locals := 53 } : Room) #[(.ref a), (.int j)] h0 [] (pureQ (some (.int cj)) h0) := by
  refine Con.of (a0 := a0) #[.val (.ref a), .val (.int j)] (plainFor_of_name pn_1) hE O all0 (fun m => by first | (simp [entryFrame, mkF, argsToLocals, Value.category]; done) | rfl) ?_
  intro p e s m below meth c T0 hx hby hml hnm hret hlk hh W0
  obtain ⟨E_a, FC_a, FV_a, V_b, L_a⟩ := id S0
  have hl29 : cs.length < 2 ^ 31 := by have := V_b.len; simpa using this
  refine g_aloadN (pc' := 1) W0.here hx (hb hby d_jdk_42_56_0) rfl rfl rfl ?_
  refine w_virtualp (pc' := 4) (st := []) (y := (⟨"java/lang/String", "isLatin1", "()Z"⟩ : MethodName)) (z := (⟨"java/lang/String", "isLatin1", "()Z"⟩ : MethodName)) (a := a) W0 hx [] (hw _ (List.mem_of_getElem? w_95)) (hw _ (List.mem_of_getElem? w_96)) (nfS (z := (⟨"java/lang/String", "isLatin1", "()Z"⟩ : MethodName)) (hw _ (List.mem_of_getElem? w_98))) (hw _ (List.mem_of_getElem? w_98)) (hw _ (List.mem_of_getElem? w_97)) (hw _ (List.mem_of_getElem? w_3)) (hw _ (List.mem_of_getElem? w_99)) (by decide) (c_isLatL l Z a0 hw hE cc fm a b cs  h0 W0.old G GU S0 ) E_a (by rw [hml]; rfl) (lenOf pd_12 rfl) rfl (hb hby d_jdk_42_56_1) (Nat.le_of_ble_eq_true rfl) (Nat.le_of_ble_eq_true rfl) rfl rfl (Nat.le_of_ble_eq_true rfl) (Nat.le_of_ble_eq_true rfl) rfl fun T72 W72 => ?_
  refine g_ifN (pc' := 7) W72.here hx (hb hby d_jdk_42_56_4) rfl (feq (show ¬ ((1 : Int32) = (0 : Int32)) from (by decide))).1 ?_
  refine g_aloadN (pc' := 8) W72.here hx (hb hby d_jdk_42_56_7) rfl rfl rfl ?_
  refine w_get (pc' := 11) W72 hx (hw _ (List.mem_of_getElem? w_28)) Via.refl FV_a (hb hby d_jdk_42_56_8) rfl fun T73 W73 => ?_
  refine g_iloadN (pc' := 12) W73.here hx (hb hby d_jdk_42_56_11) rfl rfl ?_
  refine w_callSp (pc' := 15) (st := []) (y := (⟨"java/lang/StringLatin1", "charAt", "([BI)C"⟩ : MethodName)) W73 hx [(.ref b), (.int j)] (hw _ (List.mem_of_getElem? w_123)) (hw _ (List.mem_of_getElem? w_124)) (hw _ (List.mem_of_getElem? w_125)) (hw _ (List.mem_of_getElem? w_126)) (by decide) (c_l1at l Z a0 hw hE cc fm a b cs j cj h0 W73.old G GU S0 hj hjn hcj) (by rw [hml]; rfl) (lenOf pd_5 rfl) rfl (hb hby d_jdk_42_56_12) (Nat.le_of_ble_eq_true rfl) (Nat.le_of_ble_eq_true rfl) rfl rfl (Nat.le_of_ble_eq_true rfl) (Nat.le_of_ble_eq_true rfl) rfl fun T74 W74 => ?_
  refine w_retN (t := .char) W74 hx hh hlk hret (by simp) (hb hby d_jdk_42_56_15) (Nat.le_of_ble_eq_true rfl) (Nat.le_of_ble_eq_true rfl) ?_
  exact ⟨congrArg (fun z => some (Value.int z)) (own_nchar (by have := L_a cj (List.mem_of_getElem? hcj); omega)), rfl⟩
set_option maxRecDepth 65536 in
set_option maxHeartbeats 40000000 in
theorem c_charAtU (l : Launch) (Z : State) (a0 : Array Value) (hw : ∀ d ∈ tables_1, d.before a0 Z = true) (hE : EW Z a0 ([] : List (String × Nat))) (cc : Int32) (fm : Value) (a b : Nat) (cs : List Int32) (j cj : Int32)  (h0 : Heap) (O : Ext Z.heap h0) (G : SEnv Z cc fm) (GU : SEnvU Z) (S0 : SU Z h0 a b cs) (hl28 : cs.length ≤ 2 ^ 28) (hj : ¬ j < 0) (hjn : j < cs.length.toInt32) (hcj : cs[j.toNatClampNeg]? = some cj) :
    Con l Z ([] : List (String × Nat)) (⟨"java/lang/String", "charAt", "(I)C"⟩ : MethodName) jdk_42_method_56_code 2 (Option.some Jvm.ClassFile.FieldType.char) ({ frames := 4, cells := 0, slots := 0, locals := 53 } : Room) #[(.ref a), (.int j)] h0 [] (pureQ (some (.int cj)) h0) := by
  refine Con.of (a0 := a0) #[.val (.ref a), .val (.int j)] (plainFor_of_name pn_1) hE O all0 (fun m => by first | (simp [entryFrame, mkF, argsToLocals, Value.category]; done) | rfl) ?_
  intro p e s m below meth c T0 hx hby hml hnm hret hlk hh W0
  obtain ⟨E_a, FC_a, FV_a, V_b, L_a, hl29⟩ := id S0
  refine g_aloadN (pc' := 1) W0.here hx (hb hby d_jdk_42_56_0) rfl rfl rfl ?_
  refine w_virtualp (pc' := 4) (st := []) (y := (⟨"java/lang/String", "isLatin1", "()Z"⟩ : MethodName)) (z := (⟨"java/lang/String", "isLatin1", "()Z"⟩ : MethodName)) (a := a) W0 hx [] (hw _ (List.mem_of_getElem? w_95)) (hw _ (List.mem_of_getElem? w_96)) (nfS (z := (⟨"java/lang/String", "isLatin1", "()Z"⟩ : MethodName)) (hw _ (List.mem_of_getElem? w_98))) (hw _ (List.mem_of_getElem? w_98)) (hw _ (List.mem_of_getElem? w_97)) (hw _ (List.mem_of_getElem? w_3)) (hw _ (List.mem_of_getElem? w_99)) (by decide) (c_isLatU l Z a0 hw hE cc fm a b cs  h0 W0.old G GU S0 ) E_a (by rw [hml]; rfl) (lenOf pd_12 rfl) rfl (hb hby d_jdk_42_56_1) (Nat.le_of_ble_eq_true rfl) (Nat.le_of_ble_eq_true rfl) rfl rfl (Nat.le_of_ble_eq_true rfl) (Nat.le_of_ble_eq_true rfl) rfl fun T75 W75 => ?_
  refine g_ifY (pc' := 16) W75.here hx (hb hby d_jdk_42_56_4) rfl (teq (show (0 : Int32) = (0 : Int32) from (by decide))).1 ?_
  refine g_aloadN (pc' := 17) W75.here hx (hb hby d_jdk_42_56_16) rfl rfl rfl ?_
  refine w_get (pc' := 20) W75 hx (hw _ (List.mem_of_getElem? w_28)) Via.refl FV_a (hb hby d_jdk_42_56_17) rfl fun T76 W76 => ?_
  refine g_iloadN (pc' := 21) W76.here hx (hb hby d_jdk_42_56_20) rfl rfl ?_
  refine w_callSp (pc' := 24) (st := []) (y := (⟨"java/lang/StringUTF16", "charAt", "([BI)C"⟩ : MethodName)) W76 hx [(.ref b), (.int j)] (hw _ (List.mem_of_getElem? w_100)) (hw _ (List.mem_of_getElem? w_101)) (hw _ (List.mem_of_getElem? w_17)) (hw _ (List.mem_of_getElem? w_102)) (by decide) (c_uat l Z a0 hw hE cc fm a b cs j cj h0 W76.old G GU hl28 S0 hj hjn hcj) (by rw [hml]; rfl) (lenOf pd_5 rfl) rfl (hb hby d_jdk_42_56_21) (Nat.le_of_ble_eq_true rfl) (Nat.le_of_ble_eq_true rfl) rfl rfl (Nat.le_of_ble_eq_true rfl) (Nat.le_of_ble_eq_true rfl) rfl fun T77 W77 => ?_
  refine w_retN (t := .char) W77 hx hh hlk hret (by simp) (hb hby d_jdk_42_56_24) (Nat.le_of_ble_eq_true rfl) (Nat.le_of_ble_eq_true rfl) ?_
  exact ⟨congrArg (fun z => some (Value.int z)) (own_nchar (by have := L_a cj (List.mem_of_getElem? hcj); omega)), rfl⟩
theorem c_charAt (l : Launch) (Z : State) (a0 : Array Value) (hw : ∀ d ∈ tables_1, d.before a0 Z = true) (hE : EW Z a0 ([] : List (String × Nat))) (cc : Int32) (fm : Value) (a b : Nat) (cs : List Int32) (j cj : Int32)  (h0 : Heap) (O : Ext Z.heap h0) (G : SEnv Z cc fm) (GU : SEnvU Z) (S0 : SG Z h0 a b cs) (hl28 : cs.length ≤ 2 ^ 28) (hj : ¬ j < 0) (hjn : j < cs.length.toInt32) (hcj : cs[j.toNatClampNeg]? = some cj) :
       Con l Z ([] : List (String × Nat)) (⟨"java/lang/String", "charAt", "(I)C"⟩ : MethodName) jdk_42_method_56_code 2 (Option.some Jvm.ClassFile.FieldType.char) ({ frames := 4, cells := 0, slots := 0, locals := 53 } : Room) #[(.ref a), (.int j)] h0 [] (pureQ (some (.int cj)) h0) := by
  rcases S0 with S0 | S0
  · exact c_charAtL l Z a0 hw hE cc fm a b cs j cj h0 O G GU S0 hl28 hj hjn hcj
  · exact c_charAtU l Z a0 hw hE cc fm a b cs j cj h0 O G GU S0 hl28 hj hjn hcj
set_option maxRecDepth 65536 in
set_option maxHeartbeats 40000000 in
theorem c_min (l : Launch) (Z : State) (a0 : Array Value) (hw : ∀ d ∈ tables_1, d.before a0 Z = true) (hE : EW Z a0 ([] : List (String × Nat))) (ya yb : Int32) (h0 : Heap) (O : Ext Z.heap h0)  :
    Con l Z ([] : List (String × Nat)) (⟨"java/lang/Math", "min", "(II)I"⟩ : MethodName) jdk_29_method_69_code 2 (Option.some Jvm.ClassFile.FieldType.int) ({ frames := 0, cells := 0, slots := 0, locals := 0 } : Room) #[(.int ya), (.int yb)] h0 [] (pureQ (some (.int (if yb < ya then yb else ya))) h0) := by
  refine Con.of (a0 := a0) #[.val (.int ya), .val (.int yb)] (Jvm.Free.JP.mathPlain rfl (by decide +kernel)) hE O all0 (fun m => by first | (simp [entryFrame, mkF, argsToLocals, Value.category]; done) | rfl) ?_
  intro p e s m below meth c T0 hx hby hml hnm hret hlk hh W0
  refine g_iloadN (pc' := 1) W0.here hx (hb hby d_jdk_29_69_0) rfl rfl ?_
  refine g_iloadN (pc' := 2) W0.here hx (hb hby d_jdk_29_69_1) rfl rfl ?_
  by_cases hc2_78 : yb < ya
  · refine g_icmpY (pc' := 9) W0.here hx (hb hby d_jdk_29_69_2) rfl (tlt hc2_78).2.2.1 ?_
    refine g_iloadN (pc' := 10) W0.here hx (hb hby d_jdk_29_69_9) rfl rfl ?_
    refine w_retI W0 hx hh hlk hret (hb hby d_jdk_29_69_10) (Nat.le_of_ble_eq_true rfl) (Nat.le_of_ble_eq_true rfl) ?_
    exact ⟨by rw [if_pos hc2_78], rfl⟩
  · refine g_icmpN (pc' := 5) W0.here hx (hb hby d_jdk_29_69_2) rfl (flt hc2_78).2.2.1 ?_
    refine g_iloadN (pc' := 6) W0.here hx (hb hby d_jdk_29_69_5) rfl rfl ?_
    refine g_goto (pc' := 10) W0.here hx (hb hby d_jdk_29_69_6) rfl ?_
    refine w_retI W0 hx hh hlk hret (hb hby d_jdk_29_69_10) (Nat.le_of_ble_eq_true rfl) (Nat.le_of_ble_eq_true rfl) ?_
    exact ⟨by rw [if_neg hc2_78], rfl⟩
set_option maxRecDepth 65536 in
set_option maxHeartbeats 40000000 in
theorem c_kindS (l : Launch) (Z : State) (a0 : Array Value) (hw : ∀ d ∈ tables_1, d.before a0 Z = true) (hE : EW Z a0 ([] : List (String × Nat))) (kk : Int32) (kW kN kT kB kQ kP kC kS : Nat)  (h0 : Heap) (O : Ext Z.heap h0) (h7 : kk = 7) (S_kW : Sta Z Z.heap "com/example/updatable_views/updatableviews/SqlToken$Kind" "WORD" "Lcom/example/updatable_views/updatableviews/SqlToken$Kind;" (.ref kW)) (S_kN : Sta Z Z.heap "com/example/updatable_views/updatableviews/SqlToken$Kind" "NUMBER" "Lcom/example/updatable_views/updatableviews/SqlToken$Kind;" (.ref kN)) (S_kT : Sta Z Z.heap "com/example/updatable_views/updatableviews/SqlToken$Kind" "STRING" "Lcom/example/updatable_views/updatableviews/SqlToken$Kind;" (.ref kT)) (S_kB : Sta Z Z.heap "com/example/updatable_views/updatableviews/SqlToken$Kind" "BLOB" "Lcom/example/updatable_views/updatableviews/SqlToken$Kind;" (.ref kB)) (S_kQ : Sta Z Z.heap "com/example/updatable_views/updatableviews/SqlToken$Kind" "QUOTED_NAME" "Lcom/example/updatable_views/updatableviews/SqlToken$Kind;" (.ref kQ)) (S_kP : Sta Z Z.heap "com/example/updatable_views/updatableviews/SqlToken$Kind" "PARAMETER" "Lcom/example/updatable_views/updatableviews/SqlToken$Kind;" (.ref kP)) (S_kC : Sta Z Z.heap "com/example/updatable_views/updatableviews/SqlToken$Kind" "COMMENT" "Lcom/example/updatable_views/updatableviews/SqlToken$Kind;" (.ref kC)) (S_kS : Sta Z Z.heap "com/example/updatable_views/updatableviews/SqlToken$Kind" "SYMBOL" "Lcom/example/updatable_views/updatableviews/SqlToken$Kind;" (.ref kS)) (ne_kW : kW ≠ kS) (ne_kN : kN ≠ kS) (ne_kT : kT ≠ kS) (ne_kB : kB ≠ kS) (ne_kQ : kQ ≠ kS) (ne_kP : kP ≠ kS) (ne_kC : kC ≠ kS)  :
    Con l Z ([] : List (String × Nat)) (⟨"com/example/updatable_views/updatableviews/SqlTokenIsSymbolPinLaw", "kindOf", "(I)Lcom/example/updatable_views/updatableviews/SqlToken$Kind;"⟩ : MethodName) method_2_code 1 (Option.some (Jvm.ClassFile.FieldType.object "com/example/updatable_views/updatableviews/SqlToken$Kind")) ({ frames := 0, cells := 0, slots := 0, locals := 0 } : Room) #[(.int kk)] h0 [] (pureQ (some (.ref kS)) h0) := by
  refine Con.of (a0 := a0) #[.val (.int kk)] (plainFor_of_name pn_4) hE O all0 (fun m => by first | (simp [entryFrame, mkF, argsToLocals, Value.category]; done) | rfl) ?_
  intro p e s m below meth c T0 hx hby hml hnm hret hlk hh W0
  refine g_iloadN (pc' := 1) W0.here hx (hb hby d_method_2_0) rfl rfl ?_
  refine g_ifY (pc' := 8) W0.here hx (hb hby d_method_2_1) rfl (feq (show ¬ (kk = (0 : Int32)) from (by rw [h7]; decide))).2 ?_
  refine g_iloadN (pc' := 9) W0.here hx (hb hby d_method_2_8) rfl rfl ?_
  refine g_iconst (1 : Int32) (pc' := 10) W0.here hx (hb hby d_method_2_9) rfl rfl ?_
  refine g_icmpY (pc' := 17) W0.here hx (hb hby d_method_2_10) rfl (feq (show ¬ (kk = (1 : Int32)) from (by rw [h7]; decide))).2 ?_
  refine g_iloadN (pc' := 18) W0.here hx (hb hby d_method_2_17) rfl rfl ?_
  refine g_iconst (2 : Int32) (pc' := 19) W0.here hx (hb hby d_method_2_18) rfl rfl ?_
  refine g_icmpY (pc' := 26) W0.here hx (hb hby d_method_2_19) rfl (feq (show ¬ (kk = (2 : Int32)) from (by rw [h7]; decide))).2 ?_
  refine g_iloadN (pc' := 27) W0.here hx (hb hby d_method_2_26) rfl rfl ?_
  refine g_iconst (3 : Int32) (pc' := 28) W0.here hx (hb hby d_method_2_27) rfl rfl ?_
  refine g_icmpY (pc' := 35) W0.here hx (hb hby d_method_2_28) rfl (feq (show ¬ (kk = (3 : Int32)) from (by rw [h7]; decide))).2 ?_
  refine g_iloadN (pc' := 36) W0.here hx (hb hby d_method_2_35) rfl rfl ?_
  refine g_iconst (4 : Int32) (pc' := 37) W0.here hx (hb hby d_method_2_36) rfl rfl ?_
  refine g_icmpY (pc' := 44) W0.here hx (hb hby d_method_2_37) rfl (feq (show ¬ (kk = (4 : Int32)) from (by rw [h7]; decide))).2 ?_
  refine g_iloadN (pc' := 45) W0.here hx (hb hby d_method_2_44) rfl rfl ?_
  refine g_iconst (5 : Int32) (pc' := 46) W0.here hx (hb hby d_method_2_45) rfl rfl ?_
  refine g_icmpY (pc' := 53) W0.here hx (hb hby d_method_2_46) rfl (feq (show ¬ (kk = (5 : Int32)) from (by rw [h7]; decide))).2 ?_
  refine g_iloadN (pc' := 54) W0.here hx (hb hby d_method_2_53) rfl rfl ?_
  refine g_bipush (6 : Int32) (pc' := 56) W0.here hx (hb hby d_method_2_54) rfl rfl ?_
  refine g_icmpY (pc' := 63) W0.here hx (hb hby d_method_2_56) rfl (feq (show ¬ (kk = (6 : Int32)) from (by rw [h7]; decide))).2 ?_
  refine w_getS (pc' := 66) W0 hx (hw _ (List.mem_of_getElem? w_85)) Via.refl S_kS (hb hby d_method_2_63) rfl fun T79 W79 => ?_
  refine w_retA W79 hx hh hlk hret rfl rfl (hb hby d_method_2_66) (Nat.le_of_ble_eq_true rfl) (Nat.le_of_ble_eq_true rfl) ?_
  exact ⟨rfl, rfl⟩
set_option maxRecDepth 65536 in
set_option maxHeartbeats 40000000 in
theorem c_kindN (l : Launch) (Z : State) (a0 : Array Value) (hw : ∀ d ∈ tables_1, d.before a0 Z = true) (hE : EW Z a0 ([] : List (String × Nat))) (kk : Int32) (kW kN kT kB kQ kP kC kS : Nat)  (h0 : Heap) (O : Ext Z.heap h0) (h7 : ¬ kk = 7) (h8 : 0 ≤ kk.toInt ∧ kk.toInt < 8) (S_kW : Sta Z Z.heap "com/example/updatable_views/updatableviews/SqlToken$Kind" "WORD" "Lcom/example/updatable_views/updatableviews/SqlToken$Kind;" (.ref kW)) (S_kN : Sta Z Z.heap "com/example/updatable_views/updatableviews/SqlToken$Kind" "NUMBER" "Lcom/example/updatable_views/updatableviews/SqlToken$Kind;" (.ref kN)) (S_kT : Sta Z Z.heap "com/example/updatable_views/updatableviews/SqlToken$Kind" "STRING" "Lcom/example/updatable_views/updatableviews/SqlToken$Kind;" (.ref kT)) (S_kB : Sta Z Z.heap "com/example/updatable_views/updatableviews/SqlToken$Kind" "BLOB" "Lcom/example/updatable_views/updatableviews/SqlToken$Kind;" (.ref kB)) (S_kQ : Sta Z Z.heap "com/example/updatable_views/updatableviews/SqlToken$Kind" "QUOTED_NAME" "Lcom/example/updatable_views/updatableviews/SqlToken$Kind;" (.ref kQ)) (S_kP : Sta Z Z.heap "com/example/updatable_views/updatableviews/SqlToken$Kind" "PARAMETER" "Lcom/example/updatable_views/updatableviews/SqlToken$Kind;" (.ref kP)) (S_kC : Sta Z Z.heap "com/example/updatable_views/updatableviews/SqlToken$Kind" "COMMENT" "Lcom/example/updatable_views/updatableviews/SqlToken$Kind;" (.ref kC)) (S_kS : Sta Z Z.heap "com/example/updatable_views/updatableviews/SqlToken$Kind" "SYMBOL" "Lcom/example/updatable_views/updatableviews/SqlToken$Kind;" (.ref kS)) (ne_kW : kW ≠ kS) (ne_kN : kN ≠ kS) (ne_kT : kT ≠ kS) (ne_kB : kB ≠ kS) (ne_kQ : kQ ≠ kS) (ne_kP : kP ≠ kS) (ne_kC : kC ≠ kS)  :
    Con l Z ([] : List (String × Nat)) (⟨"com/example/updatable_views/updatableviews/SqlTokenIsSymbolPinLaw", "kindOf", "(I)Lcom/example/updatable_views/updatableviews/SqlToken$Kind;"⟩ : MethodName) method_2_code 1 (Option.some (Jvm.ClassFile.FieldType.object "com/example/updatable_views/updatableviews/SqlToken$Kind")) ({ frames := 0, cells := 0, slots := 0, locals := 0 } : Room) #[(.int kk)] h0 [] (fun v _ => ∃ kd : Nat, v = some (.ref kd) ∧ kd ≠ kS) := by
  refine Con.of (a0 := a0) #[.val (.int kk)] (plainFor_of_name pn_4) hE O all0 (fun m => by first | (simp [entryFrame, mkF, argsToLocals, Value.category]; done) | rfl) ?_
  intro p e s m below meth c T0 hx hby hml hnm hret hlk hh W0
  refine g_iloadN (pc' := 1) W0.here hx (hb hby d_method_2_0) rfl rfl ?_
  by_cases hc1_80 : kk = (0 : Int32)
  · refine g_ifN (pc' := 4) W0.here hx (hb hby d_method_2_1) rfl (teq hc1_80).2 ?_
    refine w_getS (pc' := 7) W0 hx (hw _ (List.mem_of_getElem? w_42)) Via.refl S_kW (hb hby d_method_2_4) rfl fun T81 W81 => ?_
    refine w_retA W81 hx hh hlk hret rfl rfl (hb hby d_method_2_7) (Nat.le_of_ble_eq_true rfl) (Nat.le_of_ble_eq_true rfl) ?_
    exact ⟨_, rfl, ne_kW⟩
  · refine g_ifY (pc' := 8) W0.here hx (hb hby d_method_2_1) rfl (feq hc1_80).2 ?_
    refine g_iloadN (pc' := 9) W0.here hx (hb hby d_method_2_8) rfl rfl ?_
    refine g_iconst (1 : Int32) (pc' := 10) W0.here hx (hb hby d_method_2_9) rfl rfl ?_
    by_cases hc10_82 : kk = (1 : Int32)
    · refine g_icmpN (pc' := 13) W0.here hx (hb hby d_method_2_10) rfl (teq hc10_82).2 ?_
      refine w_getS (pc' := 16) W0 hx (hw _ (List.mem_of_getElem? w_128)) Via.refl S_kN (hb hby d_method_2_13) rfl fun T83 W83 => ?_
      refine w_retA W83 hx hh hlk hret rfl rfl (hb hby d_method_2_16) (Nat.le_of_ble_eq_true rfl) (Nat.le_of_ble_eq_true rfl) ?_
      exact ⟨_, rfl, ne_kN⟩
    · refine g_icmpY (pc' := 17) W0.here hx (hb hby d_method_2_10) rfl (feq hc10_82).2 ?_
      refine g_iloadN (pc' := 18) W0.here hx (hb hby d_method_2_17) rfl rfl ?_
      refine g_iconst (2 : Int32) (pc' := 19) W0.here hx (hb hby d_method_2_18) rfl rfl ?_
      by_cases hc19_84 : kk = (2 : Int32)
      · refine g_icmpN (pc' := 22) W0.here hx (hb hby d_method_2_19) rfl (teq hc19_84).2 ?_
        refine w_getS (pc' := 25) W0 hx (hw _ (List.mem_of_getElem? w_117)) Via.refl S_kT (hb hby d_method_2_22) rfl fun T85 W85 => ?_
        refine w_retA W85 hx hh hlk hret rfl rfl (hb hby d_method_2_25) (Nat.le_of_ble_eq_true rfl) (Nat.le_of_ble_eq_true rfl) ?_
        exact ⟨_, rfl, ne_kT⟩
      · refine g_icmpY (pc' := 26) W0.here hx (hb hby d_method_2_19) rfl (feq hc19_84).2 ?_
        refine g_iloadN (pc' := 27) W0.here hx (hb hby d_method_2_26) rfl rfl ?_
        refine g_iconst (3 : Int32) (pc' := 28) W0.here hx (hb hby d_method_2_27) rfl rfl ?_
        by_cases hc28_86 : kk = (3 : Int32)
        · refine g_icmpN (pc' := 31) W0.here hx (hb hby d_method_2_28) rfl (teq hc28_86).2 ?_
          refine w_getS (pc' := 34) W0 hx (hw _ (List.mem_of_getElem? w_121)) Via.refl S_kB (hb hby d_method_2_31) rfl fun T87 W87 => ?_
          refine w_retA W87 hx hh hlk hret rfl rfl (hb hby d_method_2_34) (Nat.le_of_ble_eq_true rfl) (Nat.le_of_ble_eq_true rfl) ?_
          exact ⟨_, rfl, ne_kB⟩
        · refine g_icmpY (pc' := 35) W0.here hx (hb hby d_method_2_28) rfl (feq hc28_86).2 ?_
          refine g_iloadN (pc' := 36) W0.here hx (hb hby d_method_2_35) rfl rfl ?_
          refine g_iconst (4 : Int32) (pc' := 37) W0.here hx (hb hby d_method_2_36) rfl rfl ?_
          by_cases hc37_88 : kk = (4 : Int32)
          · refine g_icmpN (pc' := 40) W0.here hx (hb hby d_method_2_37) rfl (teq hc37_88).2 ?_
            refine w_getS (pc' := 43) W0 hx (hw _ (List.mem_of_getElem? w_62)) Via.refl S_kQ (hb hby d_method_2_40) rfl fun T89 W89 => ?_
            refine w_retA W89 hx hh hlk hret rfl rfl (hb hby d_method_2_43) (Nat.le_of_ble_eq_true rfl) (Nat.le_of_ble_eq_true rfl) ?_
            exact ⟨_, rfl, ne_kQ⟩
          · refine g_icmpY (pc' := 44) W0.here hx (hb hby d_method_2_37) rfl (feq hc37_88).2 ?_
            refine g_iloadN (pc' := 45) W0.here hx (hb hby d_method_2_44) rfl rfl ?_
            refine g_iconst (5 : Int32) (pc' := 46) W0.here hx (hb hby d_method_2_45) rfl rfl ?_
            by_cases hc46_90 : kk = (5 : Int32)
            · refine g_icmpN (pc' := 49) W0.here hx (hb hby d_method_2_46) rfl (teq hc46_90).2 ?_
              refine w_getS (pc' := 52) W0 hx (hw _ (List.mem_of_getElem? w_64)) Via.refl S_kP (hb hby d_method_2_49) rfl fun T91 W91 => ?_
              refine w_retA W91 hx hh hlk hret rfl rfl (hb hby d_method_2_52) (Nat.le_of_ble_eq_true rfl) (Nat.le_of_ble_eq_true rfl) ?_
              exact ⟨_, rfl, ne_kP⟩
            · refine g_icmpY (pc' := 53) W0.here hx (hb hby d_method_2_46) rfl (feq hc46_90).2 ?_
              refine g_iloadN (pc' := 54) W0.here hx (hb hby d_method_2_53) rfl rfl ?_
              refine g_bipush (6 : Int32) (pc' := 56) W0.here hx (hb hby d_method_2_54) rfl rfl ?_
              by_cases hc56_92 : kk = (6 : Int32)
              · refine g_icmpN (pc' := 59) W0.here hx (hb hby d_method_2_56) rfl (teq hc56_92).2 ?_
                refine w_getS (pc' := 62) W0 hx (hw _ (List.mem_of_getElem? w_119)) Via.refl S_kC (hb hby d_method_2_59) rfl fun T93 W93 => ?_
                refine w_retA W93 hx hh hlk hret rfl rfl (hb hby d_method_2_62) (Nat.le_of_ble_eq_true rfl) (Nat.le_of_ble_eq_true rfl) ?_
                exact ⟨_, rfl, ne_kC⟩
              · refine g_icmpY (pc' := 63) W0.here hx (hb hby d_method_2_56) rfl (feq hc56_92).2 ?_
                exfalso
                simp only [← Int32.toInt_inj, own_t0, own_t1, own_t2, own_t3, own_t4, own_t5, own_t6, own_t7] at h7 hc1_80 hc10_82 hc19_84 hc28_86 hc37_88 hc46_90 hc56_92
                omega
set_option maxRecDepth 65536 in
set_option maxHeartbeats 40000000 in
theorem c_tok (l : Launch) (Z : State) (a0 : Array Value) (hw : ∀ d ∈ tables_1, d.before a0 Z = true) (hE : EW Z a0 ([] : List (String × Nat))) (o : Nat) (u0 : Value) (u1 : Int32) (u2 : Int32) (h0 : Heap) (O : Ext Z.heap h0) (hz : Z.heap.size ≤ o) (E0 : Exa Z h0 o "com/example/updatable_views/updatableviews/SqlToken") (hu0 : u0.isRef = true) (x0 : Value) (F0 : Fld Z h0 o "com/example/updatable_views/updatableviews/SqlToken" "kind" "Lcom/example/updatable_views/updatableviews/SqlToken$Kind;" x0) (x1 : Value) (F1 : Fld Z h0 o "com/example/updatable_views/updatableviews/SqlToken" "start" "I" x1) (x2 : Value) (F2 : Fld Z h0 o "com/example/updatable_views/updatableviews/SqlToken" "end" "I" x2)  :
    Con l Z ([] : List (String × Nat)) (⟨"com/example/updatable_views/updatableviews/SqlToken", "<init>", "(Lcom/example/updatable_views/updatableviews/SqlToken$Kind;II)V"⟩ : MethodName) prog_10_method_1_code 4 (Option.none : Option Jvm.ClassFile.FieldType) ({ frames := 1, cells := 0, slots := 0, locals := 12 } : Room) #[(.ref o), u0, (.int u1), (.int u2)] h0 [o] (fun v h => v = none ∧ Exa Z h o "com/example/updatable_views/updatableviews/SqlToken" ∧ Fld Z h o "com/example/updatable_views/updatableviews/SqlToken" "kind" "Lcom/example/updatable_views/updatableviews/SqlToken$Kind;" u0 ∧ Fld Z h o "com/example/updatable_views/updatableviews/SqlToken" "start" "I" (.int u1) ∧ Fld Z h o "com/example/updatable_views/updatableviews/SqlToken" "end" "I" (.int u2)) := by
  refine Con.of (a0 := a0) #[.val (.ref o), .val u0, .val (.int u1), .val (.int u2)] (plainFor_of_name pn_5) hE O (allS ⟨hz, E0.lt⟩ all0) (fun m => by rcases ref_cases hu0 with rfl | ⟨_, rfl⟩ <;> rfl) ?_
  intro p e s m below meth c T0 hx hby hml hnm hret hlk hh W0
  refine g_aloadN (pc' := 1) W0.here hx (hb hby d_prog_10_1_0) rfl rfl rfl ?_
  refine w_initO (pc' := 4) W0 hx (hw _ (List.mem_of_getElem? w_48)) (hw _ (List.mem_of_getElem? w_12)) (hw _ (List.mem_of_getElem? w_13)) (by rw [hml]; rfl) (hb hby d_prog_10_1_1) (Nat.le_of_ble_eq_true rfl) (Nat.le_of_ble_eq_true rfl) rfl fun T94 W94 => ?_
  refine g_aloadN (pc' := 5) W94.here hx (hb hby d_prog_10_1_4) rfl rfl rfl ?_
  refine g_aloadN (pc' := 6) W94.here hx (hb hby d_prog_10_1_5) rfl hu0 rfl ?_
  refine w_put (pc' := 9) W94 hx (hw _ (List.mem_of_getElem? w_49)) Via.refl F0 E0 (Or.inr ⟨(hw _ (List.mem_of_getElem? w_50)), rfl, hnm⟩) (hw _ (List.mem_of_getElem? w_36)) (ty := (.object "com/example/updatable_views/updatableviews/SqlToken$Kind")) (by decide) (own_narO hu0) (own_fitsO hu0) (List.mem_of_getElem? (i := 0) rfl) (hb hby d_prog_10_1_6) rfl fun T95 h95 W95 K95 R95 F95 A95 => ?_
  have z_K95 : h0.size ≤ h95.size := K95.1
  have c96 := (F1.other R95 (Or.inr (slot_ne (Or.inr (hw _ (List.mem_of_getElem? w_52))) (Or.inr (hw _ (List.mem_of_getElem? w_50))) (by decide) (t := .int) (t' := (.object "com/example/updatable_views/updatableviews/SqlToken$Kind")) (by decide) (by decide))))
  have c97 := (F2.other R95 (Or.inr (slot_ne (Or.inr (hw _ (List.mem_of_getElem? w_54))) (Or.inr (hw _ (List.mem_of_getElem? w_50))) (by decide) (t := .int) (t' := (.object "com/example/updatable_views/updatableviews/SqlToken$Kind")) (by decide) (by decide))))
  refine g_aloadN (pc' := 10) W95.here hx (hb hby d_prog_10_1_9) rfl rfl rfl ?_
  refine g_iloadN (pc' := 11) W95.here hx (hb hby d_prog_10_1_10) rfl rfl ?_
  refine w_put (pc' := 14) W95 hx (hw _ (List.mem_of_getElem? w_51)) Via.refl c96 A95 (Or.inr ⟨(hw _ (List.mem_of_getElem? w_52)), rfl, hnm⟩) (hw _ (List.mem_of_getElem? w_36)) (ty := .int) (by decide) rfl rfl (List.mem_of_getElem? (i := 0) rfl) (hb hby d_prog_10_1_11) rfl fun T98 h98 W98 K98 R98 F98 A98 => ?_
  have z_K98 : h95.size ≤ h98.size := K98.1
  have c99 := (F95.other R98 (Or.inr (slot_ne (Or.inr (hw _ (List.mem_of_getElem? w_50))) (Or.inr (hw _ (List.mem_of_getElem? w_52))) (by decide) (t := (.object "com/example/updatable_views/updatableviews/SqlToken$Kind")) (t' := .int) (by decide) (by decide))))
  have c100 := (c97.other R98 (Or.inr (slot_ne (Or.inr (hw _ (List.mem_of_getElem? w_54))) (Or.inr (hw _ (List.mem_of_getElem? w_52))) (by decide) (t := .int) (t' := .int) (by decide) (by decide))))
  refine g_aloadN (pc' := 15) W98.here hx (hb hby d_prog_10_1_14) rfl rfl rfl ?_
  refine g_iloadN (pc' := 16) W98.here hx (hb hby d_prog_10_1_15) rfl rfl ?_
  refine w_put (pc' := 19) W98 hx (hw _ (List.mem_of_getElem? w_53)) Via.refl c100 A98 (Or.inr ⟨(hw _ (List.mem_of_getElem? w_54)), rfl, hnm⟩) (hw _ (List.mem_of_getElem? w_36)) (ty := .int) (by decide) rfl rfl (List.mem_of_getElem? (i := 0) rfl) (hb hby d_prog_10_1_16) rfl fun T101 h101 W101 K101 R101 F101 A101 => ?_
  have z_K101 : h98.size ≤ h101.size := K101.1
  have c102 := (c99.other R101 (Or.inr (slot_ne (Or.inr (hw _ (List.mem_of_getElem? w_50))) (Or.inr (hw _ (List.mem_of_getElem? w_54))) (by decide) (t := (.object "com/example/updatable_views/updatableviews/SqlToken$Kind")) (t' := .int) (by decide) (by decide))))
  have c103 := (F98.other R101 (Or.inr (slot_ne (Or.inr (hw _ (List.mem_of_getElem? w_52))) (Or.inr (hw _ (List.mem_of_getElem? w_54))) (by decide) (t := .int) (t' := .int) (by decide) (by decide))))
  refine w_retV W101 hx hh hlk hret (hb hby d_prog_10_1_19) (Nat.le_of_ble_eq_true rfl) (Nat.le_of_ble_eq_true rfl) ?_
  exact ⟨rfl, A101, c102, c103, F101⟩
set_option maxRecDepth 65536 in
set_option maxHeartbeats 40000000 in
theorem c_isSymT (l : Launch) (Z : State) (a0 : Array Value) (hw : ∀ d ∈ tables_1, d.before a0 Z = true) (hE : EW Z a0 ([] : List (String × Nat))) (cc : Int32) (fm : Value) (kW kN kT kB kQ kP kC kS : Nat) (o kd a b : Nat) (cs : List Int32) (j cj cv : Int32) (h0 : Heap) (O : Ext Z.heap h0) (G : SEnv Z cc fm) (GU : SEnvU Z) (S_kW : Sta Z Z.heap "com/example/updatable_views/updatableviews/SqlToken$Kind" "WORD" "Lcom/example/updatable_views/updatableviews/SqlToken$Kind;" (.ref kW)) (S_kN : Sta Z Z.heap "com/example/updatable_views/updatableviews/SqlToken$Kind" "NUMBER" "Lcom/example/updatable_views/updatableviews/SqlToken$Kind;" (.ref kN)) (S_kT : Sta Z Z.heap "com/example/updatable_views/updatableviews/SqlToken$Kind" "STRING" "Lcom/example/updatable_views/updatableviews/SqlToken$Kind;" (.ref kT)) (S_kB : Sta Z Z.heap "com/example/updatable_views/updatableviews/SqlToken$Kind" "BLOB" "Lcom/example/updatable_views/updatableviews/SqlToken$Kind;" (.ref kB)) (S_kQ : Sta Z Z.heap "com/example/updatable_views/updatableviews/SqlToken$Kind" "QUOTED_NAME" "Lcom/example/updatable_views/updatableviews/SqlToken$Kind;" (.ref kQ)) (S_kP : Sta Z Z.heap "com/example/updatable_views/updatableviews/SqlToken$Kind" "PARAMETER" "Lcom/example/updatable_views/updatableviews/SqlToken$Kind;" (.ref kP)) (S_kC : Sta Z Z.heap "com/example/updatable_views/updatableviews/SqlToken$Kind" "COMMENT" "Lcom/example/updatable_views/updatableviews/SqlToken$Kind;" (.ref kC)) (S_kS : Sta Z Z.heap "com/example/updatable_views/updatableviews/SqlToken$Kind" "SYMBOL" "Lcom/example/updatable_views/updatableviews/SqlToken$Kind;" (.ref kS)) (ne_kW : kW ≠ kS) (ne_kN : kN ≠ kS) (ne_kT : kT ≠ kS) (ne_kB : kB ≠ kS) (ne_kQ : kQ ≠ kS) (ne_kP : kP ≠ kS) (ne_kC : kC ≠ kS) (S0 : SG Z h0 a b cs) (hl28 : cs.length ≤ 2 ^ 28) (hj : ¬ j < 0) (hjn : j < cs.length.toInt32) (hcj : cs[j.toNatClampNeg]? = some cj) (hcv : cj = cv) (F1 : Fld Z h0 o "com/example/updatable_views/updatableviews/SqlToken" "kind" "Lcom/example/updatable_views/updatableviews/SqlToken$Kind;" (.ref kS)) (F2 : Fld Z h0 o "com/example/updatable_views/updatableviews/SqlToken" "start" "I" (.int j)) :
    Con l Z ([] : List (String × Nat)) (⟨"com/example/updatable_views/updatableviews/SqlToken", "isSymbol", "(Ljava/lang/CharSequence;C)Z"⟩ : MethodName) prog_10_method_6_code 3 (Option.some Jvm.ClassFile.FieldType.boolean) ({ frames := 5, cells := 0, slots := 0, locals := 66 } : Room) #[(.ref o), (.ref a), (.int cv)] h0 [] (pureQ (some (.int 1)) h0) := by
  refine Con.of (a0 := a0) #[.val (.ref o), .val (.ref a), .val (.int cv)] (plainFor_of_name pn_5) hE O all0 (fun m => by first | (simp [entryFrame, mkF, argsToLocals, Value.category]; done) | rfl) ?_
  intro p e s m below meth c T0 hx hby hml hnm hret hlk hh W0
  have ES0 := S0.exa
  have lt_a : a < h0.size := S0.lt
  have lt_b : b < h0.size := S0.ltb
  refine g_aloadN (pc' := 1) W0.here hx (hb hby d_prog_10_6_0) rfl rfl rfl ?_
  refine w_get (pc' := 4) W0 hx (hw _ (List.mem_of_getElem? w_49)) Via.refl F1 (hb hby d_prog_10_6_1) rfl fun T104 W104 => ?_
  refine w_getS (pc' := 7) W104 hx (hw _ (List.mem_of_getElem? w_60)) Via.refl S_kS (hb hby d_prog_10_6_4) rfl fun T105 W105 => ?_
  refine w_acmp (pc' := 10) W105 hx rfl rfl true (hb hby d_prog_10_6_7) (decide_eq_true rfl) (by decide) (by decide) ?_
  refine g_aloadN (pc' := 11) W105.here hx (hb hby d_prog_10_6_10) rfl rfl rfl ?_
  refine g_aloadN (pc' := 12) W105.here hx (hb hby d_prog_10_6_11) rfl rfl rfl ?_
  refine w_get (pc' := 15) W105 hx (hw _ (List.mem_of_getElem? w_51)) Via.refl F2 (hb hby d_prog_10_6_12) rfl fun T106 W106 => ?_
  refine w_ifacep (pc' := 20) (st := []) (y := (⟨"java/lang/CharSequence", "charAt", "(I)C"⟩ : MethodName)) (z := (⟨"java/lang/String", "charAt", "(I)C"⟩ : MethodName)) (a := a) W106 hx [(.int j)] (hw _ (List.mem_of_getElem? w_86)) (hw _ (List.mem_of_getElem? w_87)) (hw _ (List.mem_of_getElem? w_88)) (hw _ (List.mem_of_getElem? w_89)) (hw _ (List.mem_of_getElem? w_90)) (hw _ (List.mem_of_getElem? w_91)) (hw _ (List.mem_of_getElem? w_92)) (hw _ (List.mem_of_getElem? w_93)) (hw _ (List.mem_of_getElem? w_3)) (hw _ (List.mem_of_getElem? w_94)) (by decide) (c_charAt l Z a0 hw hE cc fm a b cs j cj h0 W106.old G GU S0 hl28 hj hjn hcj) ES0 (by rw [hml]; rfl) (lenOf pd_13 rfl) rfl (hb hby d_prog_10_6_15) (Nat.le_of_ble_eq_true rfl) (Nat.le_of_ble_eq_true rfl) rfl rfl (Nat.le_of_ble_eq_true rfl) (Nat.le_of_ble_eq_true rfl) rfl fun T107 W107 => ?_
  refine g_iloadN (pc' := 21) W107.here hx (hb hby d_prog_10_6_20) rfl rfl ?_
  refine g_icmpN (pc' := 24) W107.here hx (hb hby d_prog_10_6_21) rfl (teq (show cj = cv from hcv)).2 ?_
  refine g_iconst (1 : Int32) (pc' := 25) W107.here hx (hb hby d_prog_10_6_24) rfl rfl ?_
  refine g_goto (pc' := 29) W107.here hx (hb hby d_prog_10_6_25) rfl ?_
  refine w_retN (t := .boolean) W107 hx hh hlk hret (by simp) (hb hby d_prog_10_6_29) (Nat.le_of_ble_eq_true rfl) (Nat.le_of_ble_eq_true rfl) ?_
  exact ⟨rfl, rfl⟩
set_option maxRecDepth 65536 in
set_option maxHeartbeats 40000000 in
theorem c_isSymF (l : Launch) (Z : State) (a0 : Array Value) (hw : ∀ d ∈ tables_1, d.before a0 Z = true) (hE : EW Z a0 ([] : List (String × Nat))) (cc : Int32) (fm : Value) (kW kN kT kB kQ kP kC kS : Nat) (o kd a b : Nat) (cs : List Int32) (j cj cv : Int32) (h0 : Heap) (O : Ext Z.heap h0) (G : SEnv Z cc fm) (GU : SEnvU Z) (S_kW : Sta Z Z.heap "com/example/updatable_views/updatableviews/SqlToken$Kind" "WORD" "Lcom/example/updatable_views/updatableviews/SqlToken$Kind;" (.ref kW)) (S_kN : Sta Z Z.heap "com/example/updatable_views/updatableviews/SqlToken$Kind" "NUMBER" "Lcom/example/updatable_views/updatableviews/SqlToken$Kind;" (.ref kN)) (S_kT : Sta Z Z.heap "com/example/updatable_views/updatableviews/SqlToken$Kind" "STRING" "Lcom/example/updatable_views/updatableviews/SqlToken$Kind;" (.ref kT)) (S_kB : Sta Z Z.heap "com/example/updatable_views/updatableviews/SqlToken$Kind" "BLOB" "Lcom/example/updatable_views/updatableviews/SqlToken$Kind;" (.ref kB)) (S_kQ : Sta Z Z.heap "com/example/updatable_views/updatableviews/SqlToken$Kind" "QUOTED_NAME" "Lcom/example/updatable_views/updatableviews/SqlToken$Kind;" (.ref kQ)) (S_kP : Sta Z Z.heap "com/example/updatable_views/updatableviews/SqlToken$Kind" "PARAMETER" "Lcom/example/updatable_views/updatableviews/SqlToken$Kind;" (.ref kP)) (S_kC : Sta Z Z.heap "com/example/updatable_views/updatableviews/SqlToken$Kind" "COMMENT" "Lcom/example/updatable_views/updatableviews/SqlToken$Kind;" (.ref kC)) (S_kS : Sta Z Z.heap "com/example/updatable_views/updatableviews/SqlToken$Kind" "SYMBOL" "Lcom/example/updatable_views/updatableviews/SqlToken$Kind;" (.ref kS)) (ne_kW : kW ≠ kS) (ne_kN : kN ≠ kS) (ne_kT : kT ≠ kS) (ne_kB : kB ≠ kS) (ne_kQ : kQ ≠ kS) (ne_kP : kP ≠ kS) (ne_kC : kC ≠ kS) (S0 : SG Z h0 a b cs) (hl28 : cs.length ≤ 2 ^ 28) (hj : ¬ j < 0) (hjn : j < cs.length.toInt32) (hcj : cs[j.toNatClampNeg]? = some cj) (hcv : ¬ cj = cv) (F1 : Fld Z h0 o "com/example/updatable_views/updatableviews/SqlToken" "kind" "Lcom/example/updatable_views/updatableviews/SqlToken$Kind;" (.ref kS)) (F2 : Fld Z h0 o "com/example/updatable_views/updatableviews/SqlToken" "start" "I" (.int j)) :
    Con l Z ([] : List (String × Nat)) (⟨"com/example/updatable_views/updatableviews/SqlToken", "isSymbol", "(Ljava/lang/CharSequence;C)Z"⟩ : MethodName) prog_10_method_6_code 3 (Option.some Jvm.ClassFile.FieldType.boolean) ({ frames := 5, cells := 0, slots := 0, locals := 66 } : Room) #[(.ref o), (.ref a), (.int cv)] h0 [] (pureQ (some (.int 0)) h0) := by
  refine Con.of (a0 := a0) #[.val (.ref o), .val (.ref a), .val (.int cv)] (plainFor_of_name pn_5) hE O all0 (fun m => by first | (simp [entryFrame, mkF, argsToLocals, Value.category]; done) | rfl) ?_
  intro p e s m below meth c T0 hx hby hml hnm hret hlk hh W0
  have ES0 := S0.exa
  have lt_a : a < h0.size := S0.lt
  have lt_b : b < h0.size := S0.ltb
  refine g_aloadN (pc' := 1) W0.here hx (hb hby d_prog_10_6_0) rfl rfl rfl ?_
  refine w_get (pc' := 4) W0 hx (hw _ (List.mem_of_getElem? w_49)) Via.refl F1 (hb hby d_prog_10_6_1) rfl fun T108 W108 => ?_
  refine w_getS (pc' := 7) W108 hx (hw _ (List.mem_of_getElem? w_60)) Via.refl S_kS (hb hby d_prog_10_6_4) rfl fun T109 W109 => ?_
  refine w_acmp (pc' := 10) W109 hx rfl rfl true (hb hby d_prog_10_6_7) (decide_eq_true rfl) (by decide) (by decide) ?_
  refine g_aloadN (pc' := 11) W109.here hx (hb hby d_prog_10_6_10) rfl rfl rfl ?_
  refine g_aloadN (pc' := 12) W109.here hx (hb hby d_prog_10_6_11) rfl rfl rfl ?_
  refine w_get (pc' := 15) W109 hx (hw _ (List.mem_of_getElem? w_51)) Via.refl F2 (hb hby d_prog_10_6_12) rfl fun T110 W110 => ?_
  refine w_ifacep (pc' := 20) (st := []) (y := (⟨"java/lang/CharSequence", "charAt", "(I)C"⟩ : MethodName)) (z := (⟨"java/lang/String", "charAt", "(I)C"⟩ : MethodName)) (a := a) W110 hx [(.int j)] (hw _ (List.mem_of_getElem? w_86)) (hw _ (List.mem_of_getElem? w_87)) (hw _ (List.mem_of_getElem? w_88)) (hw _ (List.mem_of_getElem? w_89)) (hw _ (List.mem_of_getElem? w_90)) (hw _ (List.mem_of_getElem? w_91)) (hw _ (List.mem_of_getElem? w_92)) (hw _ (List.mem_of_getElem? w_93)) (hw _ (List.mem_of_getElem? w_3)) (hw _ (List.mem_of_getElem? w_94)) (by decide) (c_charAt l Z a0 hw hE cc fm a b cs j cj h0 W110.old G GU S0 hl28 hj hjn hcj) ES0 (by rw [hml]; rfl) (lenOf pd_13 rfl) rfl (hb hby d_prog_10_6_15) (Nat.le_of_ble_eq_true rfl) (Nat.le_of_ble_eq_true rfl) rfl rfl (Nat.le_of_ble_eq_true rfl) (Nat.le_of_ble_eq_true rfl) rfl fun T111 W111 => ?_
  refine g_iloadN (pc' := 21) W111.here hx (hb hby d_prog_10_6_20) rfl rfl ?_
  refine g_icmpY (pc' := 28) W111.here hx (hb hby d_prog_10_6_21) rfl (feq (show ¬ (cj = cv) from hcv)).2 ?_
  refine g_iconst (0 : Int32) (pc' := 29) W111.here hx (hb hby d_prog_10_6_28) rfl rfl ?_
  refine w_retN (t := .boolean) W111 hx hh hlk hret (by simp) (hb hby d_prog_10_6_29) (Nat.le_of_ble_eq_true rfl) (Nat.le_of_ble_eq_true rfl) ?_
  exact ⟨rfl, rfl⟩
set_option maxRecDepth 65536 in
set_option maxHeartbeats 40000000 in
theorem c_isSymN (l : Launch) (Z : State) (a0 : Array Value) (hw : ∀ d ∈ tables_1, d.before a0 Z = true) (hE : EW Z a0 ([] : List (String × Nat))) (cc : Int32) (fm : Value) (kW kN kT kB kQ kP kC kS : Nat) (o kd a b : Nat) (cs : List Int32) (j cj cv : Int32) (h0 : Heap) (O : Ext Z.heap h0) (G : SEnv Z cc fm) (GU : SEnvU Z) (S_kW : Sta Z Z.heap "com/example/updatable_views/updatableviews/SqlToken$Kind" "WORD" "Lcom/example/updatable_views/updatableviews/SqlToken$Kind;" (.ref kW)) (S_kN : Sta Z Z.heap "com/example/updatable_views/updatableviews/SqlToken$Kind" "NUMBER" "Lcom/example/updatable_views/updatableviews/SqlToken$Kind;" (.ref kN)) (S_kT : Sta Z Z.heap "com/example/updatable_views/updatableviews/SqlToken$Kind" "STRING" "Lcom/example/updatable_views/updatableviews/SqlToken$Kind;" (.ref kT)) (S_kB : Sta Z Z.heap "com/example/updatable_views/updatableviews/SqlToken$Kind" "BLOB" "Lcom/example/updatable_views/updatableviews/SqlToken$Kind;" (.ref kB)) (S_kQ : Sta Z Z.heap "com/example/updatable_views/updatableviews/SqlToken$Kind" "QUOTED_NAME" "Lcom/example/updatable_views/updatableviews/SqlToken$Kind;" (.ref kQ)) (S_kP : Sta Z Z.heap "com/example/updatable_views/updatableviews/SqlToken$Kind" "PARAMETER" "Lcom/example/updatable_views/updatableviews/SqlToken$Kind;" (.ref kP)) (S_kC : Sta Z Z.heap "com/example/updatable_views/updatableviews/SqlToken$Kind" "COMMENT" "Lcom/example/updatable_views/updatableviews/SqlToken$Kind;" (.ref kC)) (S_kS : Sta Z Z.heap "com/example/updatable_views/updatableviews/SqlToken$Kind" "SYMBOL" "Lcom/example/updatable_views/updatableviews/SqlToken$Kind;" (.ref kS)) (ne_kW : kW ≠ kS) (ne_kN : kN ≠ kS) (ne_kT : kT ≠ kS) (ne_kB : kB ≠ kS) (ne_kQ : kQ ≠ kS) (ne_kP : kP ≠ kS) (ne_kC : kC ≠ kS) (S0 : SG Z h0 a b cs) (hl28 : cs.length ≤ 2 ^ 28) (hj : ¬ j < 0) (hjn : j < cs.length.toInt32) (hcj : cs[j.toNatClampNeg]? = some cj) (nek : kd ≠ kS) (F1 : Fld Z h0 o "com/example/updatable_views/updatableviews/SqlToken" "kind" "Lcom/example/updatable_views/updatableviews/SqlToken$Kind;" (.ref kd)) (F2 : Fld Z h0 o "com/example/updatable_views/updatableviews/SqlToken" "start" "I" (.int j)) :
    Con l Z ([] : List (String × Nat)) (⟨"com/example/updatable_views/updatableviews/SqlToken", "isSymbol", "(Ljava/lang/CharSequence;C)Z"⟩ : MethodName) prog_10_method_6_code 3 (Option.some Jvm.ClassFile.FieldType.boolean) ({ frames := 0, cells := 0, slots := 0, locals := 0 } : Room) #[(.ref o), (.ref a), (.int cv)] h0 [] (pureQ (some (.int 0)) h0) := by
  refine Con.of (a0 := a0) #[.val (.ref o), .val (.ref a), .val (.int cv)] (plainFor_of_name pn_5) hE O all0 (fun m => by first | (simp [entryFrame, mkF, argsToLocals, Value.category]; done) | rfl) ?_
  intro p e s m below meth c T0 hx hby hml hnm hret hlk hh W0
  have ES0 := S0.exa
  have lt_a : a < h0.size := S0.lt
  have lt_b : b < h0.size := S0.ltb
  refine g_aloadN (pc' := 1) W0.here hx (hb hby d_prog_10_6_0) rfl rfl rfl ?_
  refine w_get (pc' := 4) W0 hx (hw _ (List.mem_of_getElem? w_49)) Via.refl F1 (hb hby d_prog_10_6_1) rfl fun T112 W112 => ?_
  refine w_getS (pc' := 7) W112 hx (hw _ (List.mem_of_getElem? w_60)) Via.refl S_kS (hb hby d_prog_10_6_4) rfl fun T113 W113 => ?_
  refine w_acmp (pc' := 28) W113 hx rfl rfl false (hb hby d_prog_10_6_7) (decide_eq_false fun q => nek (Value.ref.inj q)) (by decide) (by decide) ?_
  refine g_iconst (0 : Int32) (pc' := 29) W113.here hx (hb hby d_prog_10_6_28) rfl rfl ?_
  refine w_retN (t := .boolean) W113 hx hh hlk hret (by simp) (hb hby d_prog_10_6_29) (Nat.le_of_ble_eq_true rfl) (Nat.le_of_ble_eq_true rfl) ?_
  exact ⟨rfl, rfl⟩
set_option maxRecDepth 65536 in
set_option maxHeartbeats 40000000 in
theorem c_law (l : Launch) (Z : State) (a0 : Array Value) (hw : ∀ d ∈ tables_1, d.before a0 Z = true) (hE : EW Z a0 ([] : List (String × Nat))) (cc : Int32) (fm : Value) (kW kN kT kB kQ kP kC kS : Nat) (p0 p1 p2 p3 p4 p5 : Int32) (h0 : Heap) (O : Ext Z.heap h0) (G : SEnv Z cc fm) (GU : SEnvU Z) (S_kW : Sta Z Z.heap "com/example/updatable_views/updatableviews/SqlToken$Kind" "WORD" "Lcom/example/updatable_views/updatableviews/SqlToken$Kind;" (.ref kW)) (S_kN : Sta Z Z.heap "com/example/updatable_views/updatableviews/SqlToken$Kind" "NUMBER" "Lcom/example/updatable_views/updatableviews/SqlToken$Kind;" (.ref kN)) (S_kT : Sta Z Z.heap "com/example/updatable_views/updatableviews/SqlToken$Kind" "STRING" "Lcom/example/updatable_views/updatableviews/SqlToken$Kind;" (.ref kT)) (S_kB : Sta Z Z.heap "com/example/updatable_views/updatableviews/SqlToken$Kind" "BLOB" "Lcom/example/updatable_views/updatableviews/SqlToken$Kind;" (.ref kB)) (S_kQ : Sta Z Z.heap "com/example/updatable_views/updatableviews/SqlToken$Kind" "QUOTED_NAME" "Lcom/example/updatable_views/updatableviews/SqlToken$Kind;" (.ref kQ)) (S_kP : Sta Z Z.heap "com/example/updatable_views/updatableviews/SqlToken$Kind" "PARAMETER" "Lcom/example/updatable_views/updatableviews/SqlToken$Kind;" (.ref kP)) (S_kC : Sta Z Z.heap "com/example/updatable_views/updatableviews/SqlToken$Kind" "COMMENT" "Lcom/example/updatable_views/updatableviews/SqlToken$Kind;" (.ref kC)) (S_kS : Sta Z Z.heap "com/example/updatable_views/updatableviews/SqlToken$Kind" "SYMBOL" "Lcom/example/updatable_views/updatableviews/SqlToken$Kind;" (.ref kS)) (ne_kW : kW ≠ kS) (ne_kN : kN ≠ kS) (ne_kT : kT ≠ kS) (ne_kB : kB ≠ kS) (ne_kQ : kQ ≠ kS) (ne_kP : kP ≠ kS) (ne_kC : kC ≠ kS)  :
    ConL tables_1 l Z ([] : List (String × Nat)) x code maxLocals ret room_1 #[(.int p0), (.int p1), (.int p2), (.int p3), (.int p4), (.int p5)] h0 [] (fun v _ => v = some (.int 1)) := by
  refine Con.of (a0 := a0) #[.val (.int p0), .val (.int p1), .val (.int p2), .val (.int p3), .val (.int p4), .val (.int p5), .unset, .unset, .unset, .unset, .unset, .unset, .unset, .unset] (plainFor_of_name pn_4) hE O all0 (fun m => by first | (simp [entryFrame, mkF, argsToLocals, Value.category, maxLocals]; done) | rfl) ?_
  intro p e s m below meth c T0 hx hby hml hnm hret hlk hh W0
  refine g_iconst (3 : Int32) (pc' := 1) W0.here hx (hb hby at_0) rfl rfl ?_
  refine w_newarr (pc' := 3) (cap := 3) W0 hx (hw _ (List.mem_of_getElem? w_0)) (hb hby at_1) (by decide) (Nat.le_refl _) (Nat.le_of_ble_eq_true rfl) (Nat.le_of_ble_eq_true rfl) (Nat.le_of_ble_eq_true rfl) rfl rfl fun T114 h114 b114 g114 W114 K114 V114 => ?_
  have z_K114 : h0.size ≤ h114.size := K114.1
  have lt_b114 : b114 < h114.size := W114.lt (List.mem_cons_self ..)
  have V114 : Ary Z h114 b114 .char [(.int (0 : Int32)), (.int (0 : Int32)), (.int (0 : Int32))] := V114
  refine g_astore (pc' := 5) (Ls' := #[.val (.int p0), .val (.int p1), .val (.int p2), .val (.int p3), .val (.int p4), .val (.int p5), .val (.ref b114), .unset, .unset, .unset, .unset, .unset, .unset, .unset]) W114.here hx (hb hby at_3) rfl rfl rfl ?_
  refine g_aload (pc' := 7) W114.here hx (hb hby at_5) rfl rfl rfl ?_
  refine g_iconst (0 : Int32) (pc' := 8) W114.here hx (hb hby at_7) rfl rfl ?_
  refine g_iloadN (pc' := 9) W114.here hx (hb hby at_8) rfl rfl ?_
  refine g_i2c (pc' := 10) W114.here hx (hb hby at_9) rfl ?_
  obtain ⟨e0, he0⟩ : ∃ zz_ : Int32, zz_ = (p2.toUInt32.toUInt16.toUInt32.toInt32) := ⟨_, rfl⟩
  refine g_name (congrArg Value.int he0) ?_
  have hr0 : 0 ≤ e0.toInt ∧ e0.toInt < 65536 := by rw [he0]; have := c_i2c p2; omega
  refine w_castore (pc' := 11) (x' := e0) W114 hx V114 (by decide) (Nat.lt_of_lt_of_le (Nat.lt_succ_self _) (Nat.le_of_ble_eq_true rfl)) (List.mem_of_getElem? (i := 0) rfl) (own_nchar hr0) (hb hby at_10) rfl fun T115 h115 W115 K115 V115 => ?_
  have z_K115 : h114.size ≤ h115.size := K115.1
  have V115 : Ary Z h115 b114 .char [(.int e0), (.int (0 : Int32)), (.int (0 : Int32))] := V115
  refine g_aload (pc' := 13) W115.here hx (hb hby at_11) rfl rfl rfl ?_
  refine g_iconst (1 : Int32) (pc' := 14) W115.here hx (hb hby at_13) rfl rfl ?_
  refine g_iloadN (pc' := 15) W115.here hx (hb hby at_14) rfl rfl ?_
  refine g_i2c (pc' := 16) W115.here hx (hb hby at_15) rfl ?_
  obtain ⟨e1, he1⟩ : ∃ zz_ : Int32, zz_ = (p3.toUInt32.toUInt16.toUInt32.toInt32) := ⟨_, rfl⟩
  refine g_name (congrArg Value.int he1) ?_
  have hr1 : 0 ≤ e1.toInt ∧ e1.toInt < 65536 := by rw [he1]; have := c_i2c p3; omega
  refine w_castore (pc' := 17) (x' := e1) W115 hx V115 (by decide) (Nat.lt_of_lt_of_le (Nat.lt_succ_self _) (Nat.le_of_ble_eq_true rfl)) (List.mem_of_getElem? (i := 0) rfl) (own_nchar hr1) (hb hby at_16) rfl fun T116 h116 W116 K116 V116 => ?_
  have z_K116 : h115.size ≤ h116.size := K116.1
  have V116 : Ary Z h116 b114 .char [(.int e0), (.int e1), (.int (0 : Int32))] := V116
  refine g_aload (pc' := 19) W116.here hx (hb hby at_17) rfl rfl rfl ?_
  refine g_iconst (2 : Int32) (pc' := 20) W116.here hx (hb hby at_19) rfl rfl ?_
  refine g_iload (pc' := 22) W116.here hx (hb hby at_20) rfl rfl ?_
  refine g_i2c (pc' := 23) W116.here hx (hb hby at_22) rfl ?_
  obtain ⟨e2, he2⟩ : ∃ zz_ : Int32, zz_ = (p4.toUInt32.toUInt16.toUInt32.toInt32) := ⟨_, rfl⟩
  refine g_name (congrArg Value.int he2) ?_
  have hr2 : 0 ≤ e2.toInt ∧ e2.toInt < 65536 := by rw [he2]; have := c_i2c p4; omega
  refine w_castore (pc' := 24) (x' := e2) W116 hx V116 (by decide) (Nat.lt_of_lt_of_le (Nat.lt_succ_self _) (Nat.le_of_ble_eq_true rfl)) (List.mem_of_getElem? (i := 0) rfl) (own_nchar hr2) (hb hby at_23) rfl fun T117 h117 W117 K117 V117 => ?_
  have z_K117 : h116.size ≤ h117.size := K117.1
  have V117 : Ary Z h117 b114 .char [(.int e0), (.int e1), (.int e2)] := V117
  refine w_new (pc' := 27) W117 hx (hw _ (List.mem_of_getElem? w_1)) (hw _ (List.mem_of_getElem? w_2)) (hw _ (List.mem_of_getElem? w_3)) (hb hby at_24) (Nat.le_of_ble_eq_true rfl) (Nat.le_of_ble_eq_true rfl) rfl fun T118 h118 b118 g118 W118 K118 A118 D118 => ?_
  have z_K118 : h117.size ≤ h118.size := K118.1
  have ne_b114_b118 : b114 ≠ b118 := by omega
  have lt_b118 : b118 < h118.size := W118.lt (List.mem_cons_self ..)
  have F118_coder : Fld Z h118 b118 "java/lang/String" "coder" "B" (.int (0 : Int32)) := D118 (Or.inr (hw _ (List.mem_of_getElem? w_27))) (ty := .byte) (by decide)
  have F118_value : Fld Z h118 b118 "java/lang/String" "value" "[B" .null := D118 (Or.inr (hw _ (List.mem_of_getElem? w_29))) (ty := (.array .byte)) (by decide)
  refine g_dup (pc' := 28) W118.here hx (hb hby at_27) rfl rfl ?_
  refine g_aload (pc' := 30) W118.here hx (hb hby at_28) rfl rfl rfl ?_
  have c119 := (V117.keep K118 nin0)
  refine w_special (pc' := 33) (st := [(.ref b118)]) (y := (⟨"java/lang/String", "<init>", "([C)V"⟩ : MethodName)) (a := b118) W118 hx [(.ref b114)] rfl (hw _ (List.mem_of_getElem? w_4)) (hw _ (List.mem_of_getElem? w_5)) (hw _ (List.mem_of_getElem? w_3)) (hw _ (List.mem_of_getElem? w_6)) (by decide) (c_strC l Z a0 hw hE cc fm b118 b114 [e0, e1, e2] h118 W118.old G GU (Nat.succ_pos _) (Nat.le_of_ble_eq_true rfl) (own_allS hr0 (own_allS hr1 (own_allS hr2 own_all0))) c119 (by have := O.1; omega) A118 _ _ F118_coder F118_value (Ne.symm ne_b114_b118)) (allS (List.mem_of_getElem? (i := 0) rfl) all0) (by rw [hml]; rfl) (lenOf pd_14 rfl) rfl (hb hby at_30) (Nat.le_of_ble_eq_true rfl) (Nat.le_of_ble_eq_true rfl) (Nat.le_of_ble_eq_true rfl) (Nat.le_of_ble_eq_true rfl) rfl fun v120 T120 h120 W120 K120 Q120 => ?_
  have z_K120 : h118.size ≤ h120.size := K120.1
  obtain ⟨rfl, sb121, S121⟩ := Q120
  have ES121 := S121.exa
  have lt_sb121 : sb121 < h120.size := S121.ltb
  refine g_astore (pc' := 35) (Ls' := #[.val (.int p0), .val (.int p1), .val (.int p2), .val (.int p3), .val (.int p4), .val (.int p5), .val (.ref b114), .val (.ref b118), .unset, .unset, .unset, .unset, .unset, .unset]) W120.here hx (hb hby at_33) rfl rfl rfl ?_
  refine g_iloadN (pc' := 36) W120.here hx (hb hby at_35) rfl rfl ?_
  refine g_bipush (7 : Int32) (pc' := 38) W120.here hx (hb hby at_36) rfl rfl ?_
  refine g_iand (pc' := 39) W120.here hx (hb hby at_38) rfl ?_
  obtain ⟨kk, hkk⟩ : ∃ zz_ : Int32, zz_ = (p0 &&& (7 : Int32)) := ⟨_, rfl⟩
  refine g_name (congrArg Value.int hkk) ?_
  have hk8 : 0 ≤ kk.toInt ∧ kk.toInt < 8 := by rw [hkk]; have := c_mask p0 7 3 (by decide) (by decide); omega
  refine g_istore (pc' := 41) (Ls' := #[.val (.int p0), .val (.int p1), .val (.int p2), .val (.int p3), .val (.int p4), .val (.int p5), .val (.ref b114), .val (.ref b118), .val (.int kk), .unset, .unset, .unset, .unset, .unset]) W120.here hx (hb hby at_39) rfl rfl ?_
  refine g_iloadN (pc' := 42) W120.here hx (hb hby at_41) rfl rfl ?_
  refine w_ldcI (pc' := 44) W120 hx (hw _ (List.mem_of_getElem? w_30)) (hb hby at_42) rfl ?_
  refine g_iand (pc' := 45) W120.here hx (hb hby at_44) rfl ?_
  refine g_iconst (3 : Int32) (pc' := 46) W120.here hx (hb hby at_45) rfl rfl ?_
  refine g_irem (pc' := 47) W120.here hx (hb hby at_46) (by decide) rfl ?_
  obtain ⟨jj, hjj⟩ : ∃ zz_ : Int32, zz_ = ((p1 &&& (2147483647 : Int32)) % (3 : Int32)) := ⟨_, rfl⟩
  refine g_name (congrArg Value.int hjj) ?_
  have hj3 : 0 ≤ jj.toInt ∧ jj.toInt < 3 := by rw [hjj]; have q := c_mask p1 2147483647 31 (by decide) (by decide); have q2 := (c_irem (p1 &&& 2147483647) 3 3 rfl).1 (by omega); omega
  have hj : ¬ jj < 0 := by rw [Int32.lt_iff_toInt_lt]; have : (0 : Int32).toInt = 0 := rfl; omega
  have hjn : jj < [e0, e1, e2].length.toInt32 := by rw [Int32.lt_iff_toInt_lt]; show jj.toInt < 3; omega
  obtain ⟨cj, hcj⟩ : ∃ z : Int32, [e0, e1, e2][jj.toNatClampNeg]? = some z := ⟨_, List.getElem?_eq_getElem (by show jj.toInt.toNat < 3; omega)⟩
  refine g_istore (pc' := 49) (Ls' := #[.val (.int p0), .val (.int p1), .val (.int p2), .val (.int p3), .val (.int p4), .val (.int p5), .val (.ref b114), .val (.ref b118), .val (.int kk), .val (.int jj), .unset, .unset, .unset, .unset]) W120.here hx (hb hby at_47) rfl rfl ?_
  refine g_iconst (3 : Int32) (pc' := 50) W120.here hx (hb hby at_49) rfl rfl ?_
  refine g_iload (pc' := 52) W120.here hx (hb hby at_50) rfl rfl ?_
  refine g_iconst (1 : Int32) (pc' := 53) W120.here hx (hb hby at_52) rfl rfl ?_
  refine g_iadd (pc' := 54) W120.here hx (hb hby at_53) rfl ?_
  refine g_iloadN (pc' := 55) W120.here hx (hb hby at_54) rfl rfl ?_
  refine g_iconst (3 : Int32) (pc' := 56) W120.here hx (hb hby at_55) rfl rfl ?_
  refine g_iushr (pc' := 57) W120.here hx (hb hby at_56) rfl ?_
  refine g_iconst (1 : Int32) (pc' := 58) W120.here hx (hb hby at_57) rfl rfl ?_
  refine g_iand (pc' := 59) W120.here hx (hb hby at_58) rfl ?_
  refine g_iadd (pc' := 60) W120.here hx (hb hby at_59) rfl ?_
  refine w_callSp (pc' := 63) (st := []) (y := (⟨"java/lang/Math", "min", "(II)I"⟩ : MethodName)) W120 hx [(.int (3 : Int32)), (.int ((jj + (1 : Int32)) + (((p0.toUInt32 >>> ((3 : Int32) &&& 31).toUInt32).toInt32) &&& (1 : Int32))))] (hw _ (List.mem_of_getElem? w_31)) (hw _ (List.mem_of_getElem? w_32)) (hw _ (List.mem_of_getElem? w_33)) (hw _ (List.mem_of_getElem? w_34)) (by decide) (c_min l Z a0 hw hE (3 : Int32) ((jj + (1 : Int32)) + (((p0.toUInt32 >>> ((3 : Int32) &&& 31).toUInt32).toInt32) &&& (1 : Int32))) h120 W120.old) (by rw [hml]; rfl) (lenOf pd_15 rfl) rfl (hb hby at_60) (Nat.le_of_ble_eq_true rfl) (Nat.le_of_ble_eq_true rfl) rfl rfl (Nat.le_of_ble_eq_true rfl) (Nat.le_of_ble_eq_true rfl) rfl fun T122 W122 => ?_
  obtain ⟨en, hen⟩ : ∃ zz_ : Int32, zz_ = (if ((jj + (1 : Int32)) + (((p0.toUInt32 >>> ((3 : Int32) &&& 31).toUInt32).toInt32) &&& (1 : Int32))) < (3 : Int32) then ((jj + (1 : Int32)) + (((p0.toUInt32 >>> ((3 : Int32) &&& 31).toUInt32).toInt32) &&& (1 : Int32))) else (3 : Int32)) := ⟨_, rfl⟩
  refine g_name (congrArg Value.int hen) ?_
  refine g_istore (pc' := 65) (Ls' := #[.val (.int p0), .val (.int p1), .val (.int p2), .val (.int p3), .val (.int p4), .val (.int p5), .val (.ref b114), .val (.ref b118), .val (.int kk), .val (.int jj), .val (.int en), .unset, .unset, .unset]) W122.here hx (hb hby at_63) rfl rfl ?_
  refine g_iload (pc' := 67) W122.here hx (hb hby at_65) rfl rfl ?_
  refine g_iconst (1 : Int32) (pc' := 68) W122.here hx (hb hby at_67) rfl rfl ?_
  refine g_iand (pc' := 69) W122.here hx (hb hby at_68) rfl ?_
  by_cases hc69_123 : (p5 &&& (1 : Int32)) = (0 : Int32)
  · refine g_ifY (pc' := 82) W122.here hx (hb hby at_69) rfl (teq hc69_123).1 ?_
    refine g_iload (pc' := 84) W122.here hx (hb hby at_82) rfl rfl ?_
    refine g_iconst (1 : Int32) (pc' := 85) W122.here hx (hb hby at_84) rfl rfl ?_
    refine g_iushr (pc' := 86) W122.here hx (hb hby at_85) rfl ?_
    refine g_i2c (pc' := 87) W122.here hx (hb hby at_86) rfl ?_
    obtain ⟨cq, hcq⟩ : ∃ zz_ : Int32, zz_ = (((p5.toUInt32 >>> ((1 : Int32) &&& 31).toUInt32).toInt32).toUInt32.toUInt16.toUInt32.toInt32) := ⟨_, rfl⟩
    refine g_name (congrArg Value.int hcq) ?_
    refine g_istore (pc' := 89) (Ls' := #[.val (.int p0), .val (.int p1), .val (.int p2), .val (.int p3), .val (.int p4), .val (.int p5), .val (.ref b114), .val (.ref b118), .val (.int kk), .val (.int jj), .val (.int en), .val (.int cq), .unset, .unset]) W122.here hx (hb hby at_87) rfl rfl ?_
    by_cases hk7 : kk = (7 : Int32)
    · have hk7' := hk7
      refine w_new (pc' := 92) W122 hx (hw _ (List.mem_of_getElem? w_35)) (hw _ (List.mem_of_getElem? w_36)) (hw _ (List.mem_of_getElem? w_37)) (hb hby at_89) (Nat.le_of_ble_eq_true rfl) (Nat.le_of_ble_eq_true rfl) rfl fun T124 h124 b124 g124 W124 K124 A124 D124 => ?_
      have z_K124 : h120.size ≤ h124.size := K124.1
      have ne_b114_b124 : b114 ≠ b124 := by omega
      have ne_b118_b124 : b118 ≠ b124 := by omega
      have ne_sb121_b124 : sb121 ≠ b124 := by omega
      have lt_b124 : b124 < h124.size := W124.lt (List.mem_cons_self ..)
      have F124_kind : Fld Z h124 b124 "com/example/updatable_views/updatableviews/SqlToken" "kind" "Lcom/example/updatable_views/updatableviews/SqlToken$Kind;" .null := D124 (Or.inr (hw _ (List.mem_of_getElem? w_50))) (ty := (.object "com/example/updatable_views/updatableviews/SqlToken$Kind")) (by decide)
      have F124_start : Fld Z h124 b124 "com/example/updatable_views/updatableviews/SqlToken" "start" "I" (.int (0 : Int32)) := D124 (Or.inr (hw _ (List.mem_of_getElem? w_52))) (ty := .int) (by decide)
      have F124_end : Fld Z h124 b124 "com/example/updatable_views/updatableviews/SqlToken" "end" "I" (.int (0 : Int32)) := D124 (Or.inr (hw _ (List.mem_of_getElem? w_54))) (ty := .int) (by decide)
      refine g_dup (pc' := 93) W124.here hx (hb hby at_92) rfl rfl ?_
      refine g_iload (pc' := 95) W124.here hx (hb hby at_93) rfl rfl ?_
      refine w_callSp (pc' := 98) (st := [(.ref b124), (.ref b124)]) (y := (⟨"com/example/updatable_views/updatableviews/SqlTokenIsSymbolPinLaw", "kindOf", "(I)Lcom/example/updatable_views/updatableviews/SqlToken$Kind;"⟩ : MethodName)) W124 hx [(.int kk)] (hw _ (List.mem_of_getElem? w_38)) (hw _ (List.mem_of_getElem? w_39)) (hw _ (List.mem_of_getElem? w_40)) (hw _ (List.mem_of_getElem? w_41)) (by decide) (c_kindS l Z a0 hw hE kk kW kN kT kB kQ kP kC kS h124 W124.old hk7 S_kW S_kN S_kT S_kB S_kQ S_kP S_kC S_kS ne_kW ne_kN ne_kT ne_kB ne_kQ ne_kP ne_kC) (by rw [hml]; rfl) (lenOf pd_16 rfl) rfl (hb hby at_95) (Nat.le_of_ble_eq_true rfl) (Nat.le_of_ble_eq_true rfl) rfl rfl (Nat.le_of_ble_eq_true rfl) (Nat.le_of_ble_eq_true rfl) rfl fun T125 W125 => ?_
      refine g_iload (pc' := 100) W125.here hx (hb hby at_98) rfl rfl ?_
      refine g_iload (pc' := 102) W125.here hx (hb hby at_100) rfl rfl ?_
      refine w_special (pc' := 105) (st := [(.ref b124)]) (y := (⟨"com/example/updatable_views/updatableviews/SqlToken", "<init>", "(Lcom/example/updatable_views/updatableviews/SqlToken$Kind;II)V"⟩ : MethodName)) (a := b124) W125 hx [(.ref kS), (.int jj), (.int en)] rfl (hw _ (List.mem_of_getElem? w_45)) (hw _ (List.mem_of_getElem? w_46)) (hw _ (List.mem_of_getElem? w_37)) (hw _ (List.mem_of_getElem? w_47)) (by decide) (c_tok l Z a0 hw hE b124 (.ref kS) jj en h124 W125.old (by have := O.1; omega) A124 rfl _ F124_kind _ F124_start _ F124_end) (allS (List.mem_of_getElem? (i := 0) rfl) all0) (by rw [hml]; rfl) (lenOf pd_17 rfl) rfl (hb hby at_102) (Nat.le_of_ble_eq_true rfl) (Nat.le_of_ble_eq_true rfl) (Nat.le_of_ble_eq_true rfl) (Nat.le_of_ble_eq_true rfl) rfl fun v126 T126 h126 W126 K126 Q126 => ?_
      have z_K126 : h124.size ≤ h126.size := K126.1
      obtain ⟨rfl, E127, F127_0, F127_1, F127_2⟩ := Q126
      refine g_astore (pc' := 107) (Ls' := #[.val (.int p0), .val (.int p1), .val (.int p2), .val (.int p3), .val (.int p4), .val (.int p5), .val (.ref b114), .val (.ref b118), .val (.int kk), .val (.int jj), .val (.int en), .val (.int cq), .val (.ref b124), .unset]) W126.here hx (hb hby at_105) rfl rfl rfl ?_
      refine g_iconst (0 : Int32) (pc' := 108) W126.here hx (hb hby at_107) rfl rfl ?_
      refine g_istore (pc' := 110) (Ls' := #[.val (.int p0), .val (.int p1), .val (.int p2), .val (.int p3), .val (.int p4), .val (.int p5), .val (.ref b114), .val (.ref b118), .val (.int kk), .val (.int jj), .val (.int en), .val (.int cq), .val (.ref b124), .val (.int (0 : Int32))]) W126.here hx (hb hby at_108) rfl rfl ?_
      refine g_iload (pc' := 112) W126.here hx (hb hby at_110) rfl rfl ?_
      refine g_bipush (7 : Int32) (pc' := 114) W126.here hx (hb hby at_112) rfl rfl ?_
      refine g_icmpN (pc' := 117) W126.here hx (hb hby at_114) rfl (teq (show kk = (7 : Int32) from hk7)).2 ?_
      refine g_aload (pc' := 119) W126.here hx (hb hby at_117) rfl rfl rfl ?_
      refine g_iload (pc' := 121) W126.here hx (hb hby at_119) rfl rfl ?_
      have c128 := (((c119.keep K120 (ninS ne_b114_b118 nin0)).keep K124 nin0).keep K126 (ninS ne_b114_b124 nin0))
      refine w_caload (pc' := 122) (v := (.int cj)) W126 hx c128 hj (by show ([e0, e1, e2].map Value.int)[jj.toNatClampNeg]? = _; rw [List.getElem?_map, hcj]; rfl) (hb hby at_121) rfl ?_
      refine g_iload (pc' := 124) W126.here hx (hb hby at_122) rfl rfl ?_
      by_cases hc124_129 : cj = cq
      · refine g_icmpN (pc' := 127) W126.here hx (hb hby at_124) rfl (teq hc124_129).2 ?_
        refine g_iconst (1 : Int32) (pc' := 128) W126.here hx (hb hby at_127) rfl rfl ?_
        refine g_istore (pc' := 130) (Ls' := #[.val (.int p0), .val (.int p1), .val (.int p2), .val (.int p3), .val (.int p4), .val (.int p5), .val (.ref b114), .val (.ref b118), .val (.int kk), .val (.int jj), .val (.int en), .val (.int cq), .val (.ref b124), .val (.int (1 : Int32))]) W126.here hx (hb hby at_128) rfl rfl ?_
        refine g_aload (pc' := 132) W126.here hx (hb hby at_130) rfl rfl rfl ?_
        refine g_aload (pc' := 134) W126.here hx (hb hby at_132) rfl rfl rfl ?_
        refine g_iload (pc' := 136) W126.here hx (hb hby at_134) rfl rfl ?_
        have c130 := ((S121.keep K124 nin0 nin0).keep K126 (ninS ne_b118_b124 nin0) (ninS ne_sb121_b124 nin0))
        refine w_virtualp (pc' := 139) (st := []) (y := (⟨"com/example/updatable_views/updatableviews/SqlToken", "isSymbol", "(Ljava/lang/CharSequence;C)Z"⟩ : MethodName)) (z := (⟨"com/example/updatable_views/updatableviews/SqlToken", "isSymbol", "(Ljava/lang/CharSequence;C)Z"⟩ : MethodName)) (a := b124) W126 hx [(.ref b118), (.int cq)] (hw _ (List.mem_of_getElem? w_55)) (hw _ (List.mem_of_getElem? w_56)) (nfS (z := (⟨"com/example/updatable_views/updatableviews/SqlToken", "isSymbol", "(Ljava/lang/CharSequence;C)Z"⟩ : MethodName)) (hw _ (List.mem_of_getElem? w_58))) (hw _ (List.mem_of_getElem? w_58)) (hw _ (List.mem_of_getElem? w_57)) (hw _ (List.mem_of_getElem? w_37)) (hw _ (List.mem_of_getElem? w_59)) (by decide) (c_isSymT l Z a0 hw hE cc fm kW kN kT kB kQ kP kC kS b124 kS b118 sb121 [e0, e1, e2] jj cj cq h126 W126.old G GU S_kW S_kN S_kT S_kB S_kQ S_kP S_kC S_kS ne_kW ne_kN ne_kT ne_kB ne_kQ ne_kP ne_kC c130 (Nat.le_of_ble_eq_true rfl) hj hjn hcj hc124_129 F127_0 F127_1) E127 (by rw [hml]; rfl) (lenOf pd_18 rfl) rfl (hb hby at_136) (Nat.le_of_ble_eq_true rfl) (Nat.le_of_ble_eq_true rfl) rfl rfl (Nat.le_of_ble_eq_true rfl) (Nat.le_of_ble_eq_true rfl) rfl fun T131 W131 => ?_
        refine g_iload (pc' := 141) W131.here hx (hb hby at_139) rfl rfl ?_
        refine g_icmpN (pc' := 144) W131.here hx (hb hby at_141) rfl (teq (show (1 : Int32) = (1 : Int32) from (by decide))).2 ?_
        refine g_iconst (1 : Int32) (pc' := 145) W131.here hx (hb hby at_144) rfl rfl ?_
        refine g_goto (pc' := 149) W131.here hx (hb hby at_145) rfl ?_
        refine w_retN (t := .boolean) W131 hx hh hlk hret (by simp) (hb hby at_149) (Nat.le_of_ble_eq_true rfl) (Nat.le_of_ble_eq_true rfl) ?_
        exact rfl
      · refine g_icmpY (pc' := 130) W126.here hx (hb hby at_124) rfl (feq hc124_129).2 ?_
        refine g_aload (pc' := 132) W126.here hx (hb hby at_130) rfl rfl rfl ?_
        refine g_aload (pc' := 134) W126.here hx (hb hby at_132) rfl rfl rfl ?_
        refine g_iload (pc' := 136) W126.here hx (hb hby at_134) rfl rfl ?_
        have c132 := ((S121.keep K124 nin0 nin0).keep K126 (ninS ne_b118_b124 nin0) (ninS ne_sb121_b124 nin0))
        refine w_virtualp (pc' := 139) (st := []) (y := (⟨"com/example/updatable_views/updatableviews/SqlToken", "isSymbol", "(Ljava/lang/CharSequence;C)Z"⟩ : MethodName)) (z := (⟨"com/example/updatable_views/updatableviews/SqlToken", "isSymbol", "(Ljava/lang/CharSequence;C)Z"⟩ : MethodName)) (a := b124) W126 hx [(.ref b118), (.int cq)] (hw _ (List.mem_of_getElem? w_55)) (hw _ (List.mem_of_getElem? w_56)) (nfS (z := (⟨"com/example/updatable_views/updatableviews/SqlToken", "isSymbol", "(Ljava/lang/CharSequence;C)Z"⟩ : MethodName)) (hw _ (List.mem_of_getElem? w_58))) (hw _ (List.mem_of_getElem? w_58)) (hw _ (List.mem_of_getElem? w_57)) (hw _ (List.mem_of_getElem? w_37)) (hw _ (List.mem_of_getElem? w_59)) (by decide) (c_isSymF l Z a0 hw hE cc fm kW kN kT kB kQ kP kC kS b124 kS b118 sb121 [e0, e1, e2] jj cj cq h126 W126.old G GU S_kW S_kN S_kT S_kB S_kQ S_kP S_kC S_kS ne_kW ne_kN ne_kT ne_kB ne_kQ ne_kP ne_kC c132 (Nat.le_of_ble_eq_true rfl) hj hjn hcj hc124_129 F127_0 F127_1) E127 (by rw [hml]; rfl) (lenOf pd_18 rfl) rfl (hb hby at_136) (Nat.le_of_ble_eq_true rfl) (Nat.le_of_ble_eq_true rfl) rfl rfl (Nat.le_of_ble_eq_true rfl) (Nat.le_of_ble_eq_true rfl) rfl fun T133 W133 => ?_
        refine g_iload (pc' := 141) W133.here hx (hb hby at_139) rfl rfl ?_
        refine g_icmpN (pc' := 144) W133.here hx (hb hby at_141) rfl (teq (show (0 : Int32) = (0 : Int32) from (by decide))).2 ?_
        refine g_iconst (1 : Int32) (pc' := 145) W133.here hx (hb hby at_144) rfl rfl ?_
        refine g_goto (pc' := 149) W133.here hx (hb hby at_145) rfl ?_
        refine w_retN (t := .boolean) W133 hx hh hlk hret (by simp) (hb hby at_149) (Nat.le_of_ble_eq_true rfl) (Nat.le_of_ble_eq_true rfl) ?_
        exact rfl
    · have hk7' := hk7
      refine w_new (pc' := 92) W122 hx (hw _ (List.mem_of_getElem? w_35)) (hw _ (List.mem_of_getElem? w_36)) (hw _ (List.mem_of_getElem? w_37)) (hb hby at_89) (Nat.le_of_ble_eq_true rfl) (Nat.le_of_ble_eq_true rfl) rfl fun T134 h134 b134 g134 W134 K134 A134 D134 => ?_
      have z_K134 : h120.size ≤ h134.size := K134.1
      have ne_b114_b134 : b114 ≠ b134 := by omega
      have ne_b118_b134 : b118 ≠ b134 := by omega
      have ne_sb121_b134 : sb121 ≠ b134 := by omega
      have lt_b134 : b134 < h134.size := W134.lt (List.mem_cons_self ..)
      have F134_kind : Fld Z h134 b134 "com/example/updatable_views/updatableviews/SqlToken" "kind" "Lcom/example/updatable_views/updatableviews/SqlToken$Kind;" .null := D134 (Or.inr (hw _ (List.mem_of_getElem? w_50))) (ty := (.object "com/example/updatable_views/updatableviews/SqlToken$Kind")) (by decide)
      have F134_start : Fld Z h134 b134 "com/example/updatable_views/updatableviews/SqlToken" "start" "I" (.int (0 : Int32)) := D134 (Or.inr (hw _ (List.mem_of_getElem? w_52))) (ty := .int) (by decide)
      have F134_end : Fld Z h134 b134 "com/example/updatable_views/updatableviews/SqlToken" "end" "I" (.int (0 : Int32)) := D134 (Or.inr (hw _ (List.mem_of_getElem? w_54))) (ty := .int) (by decide)
      refine g_dup (pc' := 93) W134.here hx (hb hby at_92) rfl rfl ?_
      refine g_iload (pc' := 95) W134.here hx (hb hby at_93) rfl rfl ?_
      refine w_callS (pc' := 98) (st := [(.ref b134), (.ref b134)]) (y := (⟨"com/example/updatable_views/updatableviews/SqlTokenIsSymbolPinLaw", "kindOf", "(I)Lcom/example/updatable_views/updatableviews/SqlToken$Kind;"⟩ : MethodName)) W134 hx [(.int kk)] (hw _ (List.mem_of_getElem? w_38)) (hw _ (List.mem_of_getElem? w_39)) (hw _ (List.mem_of_getElem? w_40)) (hw _ (List.mem_of_getElem? w_41)) (by decide) (c_kindN l Z a0 hw hE kk kW kN kT kB kQ kP kC kS h134 W134.old hk7 hk8 S_kW S_kN S_kT S_kB S_kQ S_kP S_kC S_kS ne_kW ne_kN ne_kT ne_kB ne_kQ ne_kP ne_kC) all0 (by rw [hml]; rfl) (lenOf pd_16 rfl) rfl (hb hby at_95) (Nat.le_of_ble_eq_true rfl) (Nat.le_of_ble_eq_true rfl) (Nat.le_of_ble_eq_true rfl) (Nat.le_of_ble_eq_true rfl) rfl fun v135 T135 h135 W135 K135 Q135 => ?_
      have z_K135 : h134.size ≤ h135.size := K135.1
      obtain ⟨kd136, rfl, ne_kd136⟩ := Q135
      refine g_iload (pc' := 100) W135.here hx (hb hby at_98) rfl rfl ?_
      refine g_iload (pc' := 102) W135.here hx (hb hby at_100) rfl rfl ?_
      have c137 := (A134.keep K135)
      have c138 := (F134_kind.keep K135 nin0)
      have c139 := (F134_start.keep K135 nin0)
      have c140 := (F134_end.keep K135 nin0)
      refine w_special (pc' := 105) (st := [(.ref b134)]) (y := (⟨"com/example/updatable_views/updatableviews/SqlToken", "<init>", "(Lcom/example/updatable_views/updatableviews/SqlToken$Kind;II)V"⟩ : MethodName)) (a := b134) W135 hx [(.ref kd136), (.int jj), (.int en)] rfl (hw _ (List.mem_of_getElem? w_45)) (hw _ (List.mem_of_getElem? w_46)) (hw _ (List.mem_of_getElem? w_37)) (hw _ (List.mem_of_getElem? w_47)) (by decide) (c_tok l Z a0 hw hE b134 (.ref kd136) jj en h135 W135.old (by have := O.1; omega) c137 rfl _ c138 _ c139 _ c140) (allS (List.mem_of_getElem? (i := 0) rfl) all0) (by rw [hml]; rfl) (lenOf pd_17 rfl) rfl (hb hby at_102) (Nat.le_of_ble_eq_true rfl) (Nat.le_of_ble_eq_true rfl) (Nat.le_of_ble_eq_true rfl) (Nat.le_of_ble_eq_true rfl) rfl fun v141 T141 h141 W141 K141 Q141 => ?_
      have z_K141 : h135.size ≤ h141.size := K141.1
      obtain ⟨rfl, E142, F142_0, F142_1, F142_2⟩ := Q141
      refine g_astore (pc' := 107) (Ls' := #[.val (.int p0), .val (.int p1), .val (.int p2), .val (.int p3), .val (.int p4), .val (.int p5), .val (.ref b114), .val (.ref b118), .val (.int kk), .val (.int jj), .val (.int en), .val (.int cq), .val (.ref b134), .unset]) W141.here hx (hb hby at_105) rfl rfl rfl ?_
      refine g_iconst (0 : Int32) (pc' := 108) W141.here hx (hb hby at_107) rfl rfl ?_
      refine g_istore (pc' := 110) (Ls' := #[.val (.int p0), .val (.int p1), .val (.int p2), .val (.int p3), .val (.int p4), .val (.int p5), .val (.ref b114), .val (.ref b118), .val (.int kk), .val (.int jj), .val (.int en), .val (.int cq), .val (.ref b134), .val (.int (0 : Int32))]) W141.here hx (hb hby at_108) rfl rfl ?_
      refine g_iload (pc' := 112) W141.here hx (hb hby at_110) rfl rfl ?_
      refine g_bipush (7 : Int32) (pc' := 114) W141.here hx (hb hby at_112) rfl rfl ?_
      refine g_icmpY (pc' := 130) W141.here hx (hb hby at_114) rfl (feq (show ¬ (kk = (7 : Int32)) from hk7)).2 ?_
      refine g_aload (pc' := 132) W141.here hx (hb hby at_130) rfl rfl rfl ?_
      refine g_aload (pc' := 134) W141.here hx (hb hby at_132) rfl rfl rfl ?_
      refine g_iload (pc' := 136) W141.here hx (hb hby at_134) rfl rfl ?_
      have c143 := (((S121.keep K134 nin0 nin0).keep K135 nin0 nin0).keep K141 (ninS ne_b118_b134 nin0) (ninS ne_sb121_b134 nin0))
      refine w_virtualp (pc' := 139) (st := []) (y := (⟨"com/example/updatable_views/updatableviews/SqlToken", "isSymbol", "(Ljava/lang/CharSequence;C)Z"⟩ : MethodName)) (z := (⟨"com/example/updatable_views/updatableviews/SqlToken", "isSymbol", "(Ljava/lang/CharSequence;C)Z"⟩ : MethodName)) (a := b134) W141 hx [(.ref b118), (.int cq)] (hw _ (List.mem_of_getElem? w_55)) (hw _ (List.mem_of_getElem? w_56)) (nfS (z := (⟨"com/example/updatable_views/updatableviews/SqlToken", "isSymbol", "(Ljava/lang/CharSequence;C)Z"⟩ : MethodName)) (hw _ (List.mem_of_getElem? w_58))) (hw _ (List.mem_of_getElem? w_58)) (hw _ (List.mem_of_getElem? w_57)) (hw _ (List.mem_of_getElem? w_37)) (hw _ (List.mem_of_getElem? w_59)) (by decide) (c_isSymN l Z a0 hw hE cc fm kW kN kT kB kQ kP kC kS b134 kd136 b118 sb121 [e0, e1, e2] jj cj cq h141 W141.old G GU S_kW S_kN S_kT S_kB S_kQ S_kP S_kC S_kS ne_kW ne_kN ne_kT ne_kB ne_kQ ne_kP ne_kC c143 (Nat.le_of_ble_eq_true rfl) hj hjn hcj ne_kd136 F142_0 F142_1) E142 (by rw [hml]; rfl) (lenOf pd_18 rfl) rfl (hb hby at_136) (Nat.le_of_ble_eq_true rfl) (Nat.le_of_ble_eq_true rfl) rfl rfl (Nat.le_of_ble_eq_true rfl) (Nat.le_of_ble_eq_true rfl) rfl fun T144 W144 => ?_
      refine g_iload (pc' := 141) W144.here hx (hb hby at_139) rfl rfl ?_
      refine g_icmpN (pc' := 144) W144.here hx (hb hby at_141) rfl (teq (show (0 : Int32) = (0 : Int32) from (by decide))).2 ?_
      refine g_iconst (1 : Int32) (pc' := 145) W144.here hx (hb hby at_144) rfl rfl ?_
      refine g_goto (pc' := 149) W144.here hx (hb hby at_145) rfl ?_
      refine w_retN (t := .boolean) W144 hx hh hlk hret (by simp) (hb hby at_149) (Nat.le_of_ble_eq_true rfl) (Nat.le_of_ble_eq_true rfl) ?_
      exact rfl
  · refine g_ifN (pc' := 72) W122.here hx (hb hby at_69) rfl (feq hc69_123).1 ?_
    refine g_aload (pc' := 74) W122.here hx (hb hby at_72) rfl rfl rfl ?_
    refine g_iload (pc' := 76) W122.here hx (hb hby at_74) rfl rfl ?_
    have c145 := (c119.keep K120 (ninS ne_b114_b118 nin0))
    refine w_caload (pc' := 77) (v := (.int cj)) W122 hx c145 hj (by show ([e0, e1, e2].map Value.int)[jj.toNatClampNeg]? = _; rw [List.getElem?_map, hcj]; rfl) (hb hby at_76) rfl ?_
    refine g_istore (pc' := 79) (Ls' := #[.val (.int p0), .val (.int p1), .val (.int p2), .val (.int p3), .val (.int p4), .val (.int p5), .val (.ref b114), .val (.ref b118), .val (.int kk), .val (.int jj), .val (.int en), .val (.int cj), .unset, .unset]) W122.here hx (hb hby at_77) rfl rfl ?_
    refine g_goto (pc' := 89) W122.here hx (hb hby at_79) rfl ?_
    by_cases hk7 : kk = (7 : Int32)
    · have hk7' := hk7
      refine w_new (pc' := 92) W122 hx (hw _ (List.mem_of_getElem? w_35)) (hw _ (List.mem_of_getElem? w_36)) (hw _ (List.mem_of_getElem? w_37)) (hb hby at_89) (Nat.le_of_ble_eq_true rfl) (Nat.le_of_ble_eq_true rfl) rfl fun T146 h146 b146 g146 W146 K146 A146 D146 => ?_
      have z_K146 : h120.size ≤ h146.size := K146.1
      have ne_b114_b146 : b114 ≠ b146 := by omega
      have ne_b118_b146 : b118 ≠ b146 := by omega
      have ne_sb121_b146 : sb121 ≠ b146 := by omega
      have lt_b146 : b146 < h146.size := W146.lt (List.mem_cons_self ..)
      have F146_kind : Fld Z h146 b146 "com/example/updatable_views/updatableviews/SqlToken" "kind" "Lcom/example/updatable_views/updatableviews/SqlToken$Kind;" .null := D146 (Or.inr (hw _ (List.mem_of_getElem? w_50))) (ty := (.object "com/example/updatable_views/updatableviews/SqlToken$Kind")) (by decide)
      have F146_start : Fld Z h146 b146 "com/example/updatable_views/updatableviews/SqlToken" "start" "I" (.int (0 : Int32)) := D146 (Or.inr (hw _ (List.mem_of_getElem? w_52))) (ty := .int) (by decide)
      have F146_end : Fld Z h146 b146 "com/example/updatable_views/updatableviews/SqlToken" "end" "I" (.int (0 : Int32)) := D146 (Or.inr (hw _ (List.mem_of_getElem? w_54))) (ty := .int) (by decide)
      refine g_dup (pc' := 93) W146.here hx (hb hby at_92) rfl rfl ?_
      refine g_iload (pc' := 95) W146.here hx (hb hby at_93) rfl rfl ?_
      refine w_callSp (pc' := 98) (st := [(.ref b146), (.ref b146)]) (y := (⟨"com/example/updatable_views/updatableviews/SqlTokenIsSymbolPinLaw", "kindOf", "(I)Lcom/example/updatable_views/updatableviews/SqlToken$Kind;"⟩ : MethodName)) W146 hx [(.int kk)] (hw _ (List.mem_of_getElem? w_38)) (hw _ (List.mem_of_getElem? w_39)) (hw _ (List.mem_of_getElem? w_40)) (hw _ (List.mem_of_getElem? w_41)) (by decide) (c_kindS l Z a0 hw hE kk kW kN kT kB kQ kP kC kS h146 W146.old hk7 S_kW S_kN S_kT S_kB S_kQ S_kP S_kC S_kS ne_kW ne_kN ne_kT ne_kB ne_kQ ne_kP ne_kC) (by rw [hml]; rfl) (lenOf pd_16 rfl) rfl (hb hby at_95) (Nat.le_of_ble_eq_true rfl) (Nat.le_of_ble_eq_true rfl) rfl rfl (Nat.le_of_ble_eq_true rfl) (Nat.le_of_ble_eq_true rfl) rfl fun T147 W147 => ?_
      refine g_iload (pc' := 100) W147.here hx (hb hby at_98) rfl rfl ?_
      refine g_iload (pc' := 102) W147.here hx (hb hby at_100) rfl rfl ?_
      refine w_special (pc' := 105) (st := [(.ref b146)]) (y := (⟨"com/example/updatable_views/updatableviews/SqlToken", "<init>", "(Lcom/example/updatable_views/updatableviews/SqlToken$Kind;II)V"⟩ : MethodName)) (a := b146) W147 hx [(.ref kS), (.int jj), (.int en)] rfl (hw _ (List.mem_of_getElem? w_45)) (hw _ (List.mem_of_getElem? w_46)) (hw _ (List.mem_of_getElem? w_37)) (hw _ (List.mem_of_getElem? w_47)) (by decide) (c_tok l Z a0 hw hE b146 (.ref kS) jj en h146 W147.old (by have := O.1; omega) A146 rfl _ F146_kind _ F146_start _ F146_end) (allS (List.mem_of_getElem? (i := 0) rfl) all0) (by rw [hml]; rfl) (lenOf pd_17 rfl) rfl (hb hby at_102) (Nat.le_of_ble_eq_true rfl) (Nat.le_of_ble_eq_true rfl) (Nat.le_of_ble_eq_true rfl) (Nat.le_of_ble_eq_true rfl) rfl fun v148 T148 h148 W148 K148 Q148 => ?_
      have z_K148 : h146.size ≤ h148.size := K148.1
      obtain ⟨rfl, E149, F149_0, F149_1, F149_2⟩ := Q148
      refine g_astore (pc' := 107) (Ls' := #[.val (.int p0), .val (.int p1), .val (.int p2), .val (.int p3), .val (.int p4), .val (.int p5), .val (.ref b114), .val (.ref b118), .val (.int kk), .val (.int jj), .val (.int en), .val (.int cj), .val (.ref b146), .unset]) W148.here hx (hb hby at_105) rfl rfl rfl ?_
      refine g_iconst (0 : Int32) (pc' := 108) W148.here hx (hb hby at_107) rfl rfl ?_
      refine g_istore (pc' := 110) (Ls' := #[.val (.int p0), .val (.int p1), .val (.int p2), .val (.int p3), .val (.int p4), .val (.int p5), .val (.ref b114), .val (.ref b118), .val (.int kk), .val (.int jj), .val (.int en), .val (.int cj), .val (.ref b146), .val (.int (0 : Int32))]) W148.here hx (hb hby at_108) rfl rfl ?_
      refine g_iload (pc' := 112) W148.here hx (hb hby at_110) rfl rfl ?_
      refine g_bipush (7 : Int32) (pc' := 114) W148.here hx (hb hby at_112) rfl rfl ?_
      refine g_icmpN (pc' := 117) W148.here hx (hb hby at_114) rfl (teq (show kk = (7 : Int32) from hk7)).2 ?_
      refine g_aload (pc' := 119) W148.here hx (hb hby at_117) rfl rfl rfl ?_
      refine g_iload (pc' := 121) W148.here hx (hb hby at_119) rfl rfl ?_
      have c150 := ((c145.keep K146 nin0).keep K148 (ninS ne_b114_b146 nin0))
      refine w_caload (pc' := 122) (v := (.int cj)) W148 hx c150 hj (by show ([e0, e1, e2].map Value.int)[jj.toNatClampNeg]? = _; rw [List.getElem?_map, hcj]; rfl) (hb hby at_121) rfl ?_
      refine g_iload (pc' := 124) W148.here hx (hb hby at_122) rfl rfl ?_
      refine g_icmpN (pc' := 127) W148.here hx (hb hby at_124) rfl (teq (show cj = cj from rfl)).2 ?_
      refine g_iconst (1 : Int32) (pc' := 128) W148.here hx (hb hby at_127) rfl rfl ?_
      refine g_istore (pc' := 130) (Ls' := #[.val (.int p0), .val (.int p1), .val (.int p2), .val (.int p3), .val (.int p4), .val (.int p5), .val (.ref b114), .val (.ref b118), .val (.int kk), .val (.int jj), .val (.int en), .val (.int cj), .val (.ref b146), .val (.int (1 : Int32))]) W148.here hx (hb hby at_128) rfl rfl ?_
      refine g_aload (pc' := 132) W148.here hx (hb hby at_130) rfl rfl rfl ?_
      refine g_aload (pc' := 134) W148.here hx (hb hby at_132) rfl rfl rfl ?_
      refine g_iload (pc' := 136) W148.here hx (hb hby at_134) rfl rfl ?_
      have c151 := ((S121.keep K146 nin0 nin0).keep K148 (ninS ne_b118_b146 nin0) (ninS ne_sb121_b146 nin0))
      refine w_virtualp (pc' := 139) (st := []) (y := (⟨"com/example/updatable_views/updatableviews/SqlToken", "isSymbol", "(Ljava/lang/CharSequence;C)Z"⟩ : MethodName)) (z := (⟨"com/example/updatable_views/updatableviews/SqlToken", "isSymbol", "(Ljava/lang/CharSequence;C)Z"⟩ : MethodName)) (a := b146) W148 hx [(.ref b118), (.int cj)] (hw _ (List.mem_of_getElem? w_55)) (hw _ (List.mem_of_getElem? w_56)) (nfS (z := (⟨"com/example/updatable_views/updatableviews/SqlToken", "isSymbol", "(Ljava/lang/CharSequence;C)Z"⟩ : MethodName)) (hw _ (List.mem_of_getElem? w_58))) (hw _ (List.mem_of_getElem? w_58)) (hw _ (List.mem_of_getElem? w_57)) (hw _ (List.mem_of_getElem? w_37)) (hw _ (List.mem_of_getElem? w_59)) (by decide) (c_isSymT l Z a0 hw hE cc fm kW kN kT kB kQ kP kC kS b146 kS b118 sb121 [e0, e1, e2] jj cj cj h148 W148.old G GU S_kW S_kN S_kT S_kB S_kQ S_kP S_kC S_kS ne_kW ne_kN ne_kT ne_kB ne_kQ ne_kP ne_kC c151 (Nat.le_of_ble_eq_true rfl) hj hjn hcj rfl F149_0 F149_1) E149 (by rw [hml]; rfl) (lenOf pd_18 rfl) rfl (hb hby at_136) (Nat.le_of_ble_eq_true rfl) (Nat.le_of_ble_eq_true rfl) rfl rfl (Nat.le_of_ble_eq_true rfl) (Nat.le_of_ble_eq_true rfl) rfl fun T152 W152 => ?_
      refine g_iload (pc' := 141) W152.here hx (hb hby at_139) rfl rfl ?_
      refine g_icmpN (pc' := 144) W152.here hx (hb hby at_141) rfl (teq (show (1 : Int32) = (1 : Int32) from (by decide))).2 ?_
      refine g_iconst (1 : Int32) (pc' := 145) W152.here hx (hb hby at_144) rfl rfl ?_
      refine g_goto (pc' := 149) W152.here hx (hb hby at_145) rfl ?_
      refine w_retN (t := .boolean) W152 hx hh hlk hret (by simp) (hb hby at_149) (Nat.le_of_ble_eq_true rfl) (Nat.le_of_ble_eq_true rfl) ?_
      exact rfl
    · have hk7' := hk7
      refine w_new (pc' := 92) W122 hx (hw _ (List.mem_of_getElem? w_35)) (hw _ (List.mem_of_getElem? w_36)) (hw _ (List.mem_of_getElem? w_37)) (hb hby at_89) (Nat.le_of_ble_eq_true rfl) (Nat.le_of_ble_eq_true rfl) rfl fun T153 h153 b153 g153 W153 K153 A153 D153 => ?_
      have z_K153 : h120.size ≤ h153.size := K153.1
      have ne_b114_b153 : b114 ≠ b153 := by omega
      have ne_b118_b153 : b118 ≠ b153 := by omega
      have ne_sb121_b153 : sb121 ≠ b153 := by omega
      have lt_b153 : b153 < h153.size := W153.lt (List.mem_cons_self ..)
      have F153_kind : Fld Z h153 b153 "com/example/updatable_views/updatableviews/SqlToken" "kind" "Lcom/example/updatable_views/updatableviews/SqlToken$Kind;" .null := D153 (Or.inr (hw _ (List.mem_of_getElem? w_50))) (ty := (.object "com/example/updatable_views/updatableviews/SqlToken$Kind")) (by decide)
      have F153_start : Fld Z h153 b153 "com/example/updatable_views/updatableviews/SqlToken" "start" "I" (.int (0 : Int32)) := D153 (Or.inr (hw _ (List.mem_of_getElem? w_52))) (ty := .int) (by decide)
      have F153_end : Fld Z h153 b153 "com/example/updatable_views/updatableviews/SqlToken" "end" "I" (.int (0 : Int32)) := D153 (Or.inr (hw _ (List.mem_of_getElem? w_54))) (ty := .int) (by decide)
      refine g_dup (pc' := 93) W153.here hx (hb hby at_92) rfl rfl ?_
      refine g_iload (pc' := 95) W153.here hx (hb hby at_93) rfl rfl ?_
      refine w_callS (pc' := 98) (st := [(.ref b153), (.ref b153)]) (y := (⟨"com/example/updatable_views/updatableviews/SqlTokenIsSymbolPinLaw", "kindOf", "(I)Lcom/example/updatable_views/updatableviews/SqlToken$Kind;"⟩ : MethodName)) W153 hx [(.int kk)] (hw _ (List.mem_of_getElem? w_38)) (hw _ (List.mem_of_getElem? w_39)) (hw _ (List.mem_of_getElem? w_40)) (hw _ (List.mem_of_getElem? w_41)) (by decide) (c_kindN l Z a0 hw hE kk kW kN kT kB kQ kP kC kS h153 W153.old hk7 hk8 S_kW S_kN S_kT S_kB S_kQ S_kP S_kC S_kS ne_kW ne_kN ne_kT ne_kB ne_kQ ne_kP ne_kC) all0 (by rw [hml]; rfl) (lenOf pd_16 rfl) rfl (hb hby at_95) (Nat.le_of_ble_eq_true rfl) (Nat.le_of_ble_eq_true rfl) (Nat.le_of_ble_eq_true rfl) (Nat.le_of_ble_eq_true rfl) rfl fun v154 T154 h154 W154 K154 Q154 => ?_
      have z_K154 : h153.size ≤ h154.size := K154.1
      obtain ⟨kd155, rfl, ne_kd155⟩ := Q154
      refine g_iload (pc' := 100) W154.here hx (hb hby at_98) rfl rfl ?_
      refine g_iload (pc' := 102) W154.here hx (hb hby at_100) rfl rfl ?_
      have c156 := (A153.keep K154)
      have c157 := (F153_kind.keep K154 nin0)
      have c158 := (F153_start.keep K154 nin0)
      have c159 := (F153_end.keep K154 nin0)
      refine w_special (pc' := 105) (st := [(.ref b153)]) (y := (⟨"com/example/updatable_views/updatableviews/SqlToken", "<init>", "(Lcom/example/updatable_views/updatableviews/SqlToken$Kind;II)V"⟩ : MethodName)) (a := b153) W154 hx [(.ref kd155), (.int jj), (.int en)] rfl (hw _ (List.mem_of_getElem? w_45)) (hw _ (List.mem_of_getElem? w_46)) (hw _ (List.mem_of_getElem? w_37)) (hw _ (List.mem_of_getElem? w_47)) (by decide) (c_tok l Z a0 hw hE b153 (.ref kd155) jj en h154 W154.old (by have := O.1; omega) c156 rfl _ c157 _ c158 _ c159) (allS (List.mem_of_getElem? (i := 0) rfl) all0) (by rw [hml]; rfl) (lenOf pd_17 rfl) rfl (hb hby at_102) (Nat.le_of_ble_eq_true rfl) (Nat.le_of_ble_eq_true rfl) (Nat.le_of_ble_eq_true rfl) (Nat.le_of_ble_eq_true rfl) rfl fun v160 T160 h160 W160 K160 Q160 => ?_
      have z_K160 : h154.size ≤ h160.size := K160.1
      obtain ⟨rfl, E161, F161_0, F161_1, F161_2⟩ := Q160
      refine g_astore (pc' := 107) (Ls' := #[.val (.int p0), .val (.int p1), .val (.int p2), .val (.int p3), .val (.int p4), .val (.int p5), .val (.ref b114), .val (.ref b118), .val (.int kk), .val (.int jj), .val (.int en), .val (.int cj), .val (.ref b153), .unset]) W160.here hx (hb hby at_105) rfl rfl rfl ?_
      refine g_iconst (0 : Int32) (pc' := 108) W160.here hx (hb hby at_107) rfl rfl ?_
      refine g_istore (pc' := 110) (Ls' := #[.val (.int p0), .val (.int p1), .val (.int p2), .val (.int p3), .val (.int p4), .val (.int p5), .val (.ref b114), .val (.ref b118), .val (.int kk), .val (.int jj), .val (.int en), .val (.int cj), .val (.ref b153), .val (.int (0 : Int32))]) W160.here hx (hb hby at_108) rfl rfl ?_
      refine g_iload (pc' := 112) W160.here hx (hb hby at_110) rfl rfl ?_
      refine g_bipush (7 : Int32) (pc' := 114) W160.here hx (hb hby at_112) rfl rfl ?_
      refine g_icmpY (pc' := 130) W160.here hx (hb hby at_114) rfl (feq (show ¬ (kk = (7 : Int32)) from hk7)).2 ?_
      refine g_aload (pc' := 132) W160.here hx (hb hby at_130) rfl rfl rfl ?_
      refine g_aload (pc' := 134) W160.here hx (hb hby at_132) rfl rfl rfl ?_
      refine g_iload (pc' := 136) W160.here hx (hb hby at_134) rfl rfl ?_
      have c162 := (((S121.keep K153 nin0 nin0).keep K154 nin0 nin0).keep K160 (ninS ne_b118_b153 nin0) (ninS ne_sb121_b153 nin0))
      refine w_virtualp (pc' := 139) (st := []) (y := (⟨"com/example/updatable_views/updatableviews/SqlToken", "isSymbol", "(Ljava/lang/CharSequence;C)Z"⟩ : MethodName)) (z := (⟨"com/example/updatable_views/updatableviews/SqlToken", "isSymbol", "(Ljava/lang/CharSequence;C)Z"⟩ : MethodName)) (a := b153) W160 hx [(.ref b118), (.int cj)] (hw _ (List.mem_of_getElem? w_55)) (hw _ (List.mem_of_getElem? w_56)) (nfS (z := (⟨"com/example/updatable_views/updatableviews/SqlToken", "isSymbol", "(Ljava/lang/CharSequence;C)Z"⟩ : MethodName)) (hw _ (List.mem_of_getElem? w_58))) (hw _ (List.mem_of_getElem? w_58)) (hw _ (List.mem_of_getElem? w_57)) (hw _ (List.mem_of_getElem? w_37)) (hw _ (List.mem_of_getElem? w_59)) (by decide) (c_isSymN l Z a0 hw hE cc fm kW kN kT kB kQ kP kC kS b153 kd155 b118 sb121 [e0, e1, e2] jj cj cj h160 W160.old G GU S_kW S_kN S_kT S_kB S_kQ S_kP S_kC S_kS ne_kW ne_kN ne_kT ne_kB ne_kQ ne_kP ne_kC c162 (Nat.le_of_ble_eq_true rfl) hj hjn hcj ne_kd155 F161_0 F161_1) E161 (by rw [hml]; rfl) (lenOf pd_18 rfl) rfl (hb hby at_136) (Nat.le_of_ble_eq_true rfl) (Nat.le_of_ble_eq_true rfl) rfl rfl (Nat.le_of_ble_eq_true rfl) (Nat.le_of_ble_eq_true rfl) rfl fun T163 W163 => ?_
      refine g_iload (pc' := 141) W163.here hx (hb hby at_139) rfl rfl ?_
      refine g_icmpN (pc' := 144) W163.here hx (hb hby at_141) rfl (teq (show (0 : Int32) = (0 : Int32) from (by decide))).2 ?_
      refine g_iconst (1 : Int32) (pc' := 145) W163.here hx (hb hby at_144) rfl rfl ?_
      refine g_goto (pc' := 149) W163.here hx (hb hby at_145) rfl ?_
      refine w_retN (t := .boolean) W163 hx hh hlk hret (by simp) (hb hby at_149) (Nat.le_of_ble_eq_true rfl) (Nat.le_of_ble_eq_true rfl) ?_
      exact rfl
set_option maxRecDepth 65536 in
set_option maxHeartbeats 40000000 in
theorem comes_1 {Post : Tables → Env → Array Value → State → Outcome → State → Prop} (hpost : ∀ tb e args s v u, (limb_1_1.after args s (.returned v) u = true ∧ limb_1_2.after args s (.returned v) u = true ∧ True) → FrameEnd s (.returned v) u (Jvm.fieldLocs frame_1_writes args s ++ Jvm.arrayLocs frame_1_arrays args s ++ Jvm.staticLocs frame_1_statics s) 24 128 → Post tb e args s (.returned v) u) :
    ArmFor flags0 classFile x code maxLocals ret World_1 tables_1 room_1 Calls_1 rest_1 Pre_1 Post := by
  intro l hfl _ _ p e ha hc hk s m args below hf hA hF happ hP
  obtain ⟨hcalls, hrest, hpre⟩ := hP
  obtain ⟨-, -, -, hnamed, -, -, -, hat⟩ := (Spec.applies_iff hf).mp happ
  obtain ⟨hg, hn⟩ := and_e (Cond.before_iff.mp (show (Jvm.Cond.and given_1 narrow_1).before args s = true from hpre))
  obtain ⟨hg0, hg⟩ := and_e hg
  obtain ⟨w0, w1, w2, w3, w4, w5, rfl⟩ : ∃ w0 w1 w2 w3 w4 w5 : Value, args = #[w0, w1, w2, w3, w4, w5] := by
    have hs : args.size = 6 := by simpa [Cond.value, given_1] using hg0
    obtain ⟨L⟩ := args
    match L, hs with
    | [w0, w1, w2, w3, w4, w5], _ => exact ⟨w0, w1, w2, w3, w4, w5, rfl⟩
  have hw := fun d (hd : d ∈ tables_1) => atoms_spec (ws := Jvm.Cond.code x code maxLocals ret :: tables_1) hat d (List.mem_cons_of_mem _ hd)
  have hfit : Fit s := fun {y c} hc i hi => by
    obtain ⟨ha, rfl⟩ := Array.getElem?_eq_some_iff.mp hc
    have q := List.all_eq_true.mp ((Array.all_eq_true_iff_forall_mem.mp hF) _ (Array.getElem_mem ha)) i (List.mem_range.mpr hi)
    simpa [Array.getElem?_eq_getElem hi] using q
  obtain ⟨hg1, hg⟩ := and_e hg
  obtain ⟨p0, ep0⟩ := is_v hg1
  obtain rfl : w0 = (.int p0) := Option.some.inj ep0
  obtain ⟨hg2, hg⟩ := and_e hg
  obtain ⟨p1, ep1⟩ := is_v hg2
  obtain rfl : w1 = (.int p1) := Option.some.inj ep1
  obtain ⟨hg3, hg⟩ := and_e hg
  obtain ⟨p2, ep2⟩ := is_v hg3
  obtain rfl : w2 = (.int p2) := Option.some.inj ep2
  obtain ⟨hg4, hg⟩ := and_e hg
  obtain ⟨p3, ep3⟩ := is_v hg4
  obtain rfl : w3 = (.int p3) := Option.some.inj ep3
  obtain ⟨hg5, hg⟩ := and_e hg
  obtain ⟨p4, ep4⟩ := is_v hg5
  obtain rfl : w4 = (.int p4) := Option.some.inj ep4
  have hg6 := hg
  obtain ⟨p5, ep5⟩ := is_v hg6
  obtain rfl : w5 = (.int p5) := Option.some.inj ep5
  obtain ⟨n1, hn⟩ := and_e hn
  obtain ⟨n2, hn⟩ := and_e hn
  obtain ⟨n3, hn⟩ := and_e hn
  obtain ⟨n4, hn⟩ := and_e hn
  obtain ⟨n5, hn⟩ := and_e hn
  obtain ⟨n6, hn⟩ := and_e hn
  obtain ⟨n7, hn⟩ := and_e hn
  obtain ⟨n8, hn⟩ := and_e hn
  obtain ⟨n9, hn⟩ := and_e hn
  obtain ⟨n10, hn⟩ := and_e hn
  obtain ⟨n11, hn⟩ := and_e hn
  obtain ⟨n12, hn⟩ := and_e hn
  obtain ⟨n13, hn⟩ := and_e hn
  obtain ⟨n14, hn⟩ := and_e hn
  obtain ⟨n15, hn⟩ := and_e hn
  have n16 := hn
  have hsets := (atoms_of jdkStatics_1 (show (jdkStatics_1.foldr Cond.and restOwn_1).before _ s = true by rw [← rest_1_c_eq]; exact hrest)).1
  obtain ⟨kW, ekW⟩ := exa_v n1
  obtain ⟨kS, ekS⟩ := exa_v n2
  obtain ⟨kQ, ekQ⟩ := exa_v n5
  obtain ⟨kP, ekP⟩ := exa_v n7
  obtain ⟨kT, ekT⟩ := exa_v n9
  obtain ⟨kC, ekC⟩ := exa_v n11
  obtain ⟨kB, ekB⟩ := exa_v n13
  obtain ⟨kN, ekN⟩ := exa_v n15
  have FkW := own_fldI ekW n3
  have FkS := own_fldI ekS n4
  have FkQ := own_fldI ekQ n6
  have FkP := own_fldI ekP n8
  have FkT := own_fldI ekT n10
  have FkC := own_fldI ekC n12
  have FkB := own_fldI ekB n14
  have FkN := own_fldI ekN n16
  obtain ⟨cc, ecc⟩ := is_v (Cond.before_iff.mp (hsets _ (List.mem_of_getElem? (i := 1) rfl)))
  have hcc : ¬ cc = 0 := fun q => by
    have q1 := not_v (Cond.before_iff.mp (hsets _ (List.mem_of_getElem? (i := 2) rfl)))
    exact absurd q (gotF (Cond.eq_ints ecc (Term.int_eval 0)) q1)
  obtain ⟨fm, efm, hfm⟩ := isR_v (Cond.before_iff.mp (hsets _ (List.mem_of_getElem? (i := 8) rfl)))
  have hG : SEnv s cc fm := ⟨Sta.start ecc (Or.inl (hsets _ (List.mem_of_getElem? (i := 0) rfl))), hcc, Sta.start efm (Or.inl (hsets _ (List.mem_of_getElem? (i := 7) rfl))), hfm⟩
  have hEW : EW s #[] ([] : List (String × Nat)) := EW.nil
  have hU__assertionsDisabled : Sta s s.heap "java/lang/StringUTF16" "$assertionsDisabled" "Z" (.int 1) := Sta.start (eqv_i (Z := s) (F := Jvm.Term.int (1 : Int32)) (y := 1) rfl (Cond.before_iff.mp (hsets _ (List.mem_of_getElem? (i := 12) rfl)))) (Or.inl (hsets _ (List.mem_of_getElem? (i := 11) rfl)))
  have hU_HI_BYTE_SHIFT : Sta s s.heap "java/lang/StringUTF16" "HI_BYTE_SHIFT" "I" (.int 0) := Sta.start (eqv_i (Z := s) (F := Jvm.Term.int (0 : Int32)) (y := 0) rfl (Cond.before_iff.mp (hsets _ (List.mem_of_getElem? (i := 15) rfl)))) (Or.inl (hsets _ (List.mem_of_getElem? (i := 14) rfl)))
  have hU_LO_BYTE_SHIFT : Sta s s.heap "java/lang/StringUTF16" "LO_BYTE_SHIFT" "I" (.int 8) := Sta.start (eqv_i (Z := s) (F := Jvm.Term.int (8 : Int32)) (y := 8) rfl (Cond.before_iff.mp (hsets _ (List.mem_of_getElem? (i := 18) rfl)))) (Or.inl (hsets _ (List.mem_of_getElem? (i := 17) rfl)))
  have hGU : SEnvU s := ⟨hU__assertionsDisabled, hU_HI_BYTE_SHIFT, hU_LO_BYTE_SHIFT⟩
  obtain ⟨t, o, h1, h2, h3, v, L, rfl, ⟨rfl, N, -⟩, hq⟩ := c_law l s _ hw EW.nil cc fm kW kN kT kB kQ kP kC kS p0 p1 p2 p3 p4 p5 s.heap ⟨Nat.le_refl _, fun _ _ q => q⟩ hG hGU (Sta.start ekW (Or.inr ⟨(hw _ (List.mem_of_getElem? w_43)), (hw _ (List.mem_of_getElem? w_44))⟩)) (Sta.start ekN (Or.inr ⟨(hw _ (List.mem_of_getElem? w_43)), (hw _ (List.mem_of_getElem? w_129))⟩)) (Sta.start ekT (Or.inr ⟨(hw _ (List.mem_of_getElem? w_43)), (hw _ (List.mem_of_getElem? w_118))⟩)) (Sta.start ekB (Or.inr ⟨(hw _ (List.mem_of_getElem? w_43)), (hw _ (List.mem_of_getElem? w_122))⟩)) (Sta.start ekQ (Or.inr ⟨(hw _ (List.mem_of_getElem? w_43)), (hw _ (List.mem_of_getElem? w_63))⟩)) (Sta.start ekP (Or.inr ⟨(hw _ (List.mem_of_getElem? w_43)), (hw _ (List.mem_of_getElem? w_65))⟩)) (Sta.start ekC (Or.inr ⟨(hw _ (List.mem_of_getElem? w_43)), (hw _ (List.mem_of_getElem? w_120))⟩)) (Sta.start ekS (Or.inr ⟨(hw _ (List.mem_of_getElem? w_43)), (hw _ (List.mem_of_getElem? w_61))⟩)) (FkW.ne FkS (by simp)) (FkN.ne FkS (by simp)) (FkT.ne FkS (by simp)) (FkB.ne FkS (by simp)) (FkQ.ne FkS (by simp)) (FkP.ne FkS (by simp)) (FkC.ne FkS (by simp))
    p e ha hc hk s m _ below hf ((Spec.applies_iff_loose hf).mp happ).1 ⟨rfl, State.Warmed39.refl s, rfl⟩ trivial
  refine ⟨t, _, h1, h2, h3, hpost _ _ _ _ _ _ ⟨Cond.after_iff.mpr rfl, Cond.after_iff.mpr (eq_i res_at (Term.int_eval (1)) rfl), trivial⟩ ⟨hq.1, hq.2.1, (hq.2.2.sift fun y hy => Or.inr (N y hy)).mono (by decide) (by decide)⟩⟩
theorem main_1_1 : Claimed_1_1 := comes_1 fun _ _ _ _ _ _ h hF => ⟨h.1, hF⟩
theorem main_1_2 : Claimed_1_2 := comes_1 fun _ _ _ _ _ _ h hF => ⟨h.2.1, hF⟩
end Jvm.Pilot.@@N@@
namespace Jvm.Pilot.@@N@@
open Jvm Jvm.ClassFile Sem Op Lib Jvm.Free Jvm.Stand Jvm.Pilot.@@N@@.Jvm.D
/-! MADE BY PROGRAM (witnessworld.py) out of the Statement's table words and the real class files: 23 classes; the members and pool entries that the words name. The judged class is class 1, her method 2. -/
namespace start1
open Jvm.ClassFile
def u (s : String) : CpInfo := .utf8 (stringToUtf16 s)
/-- a pool by its gaps: so many unusable entries, then the entry; so many at the end -/
def gap : Nat → List CpInfo → List CpInfo
  | 0, r => r
  | n + 1, r => .unusable :: gap n r
def poolList (es : List (Nat × CpInfo)) (last : Nat) : List CpInfo := es.foldr (fun e r => gap e.1 (e.2 :: r)) (gap last [])
def pool (es : List (Nat × CpInfo)) (last : Nat) : Array CpInfo := ⟨poolList es last⟩
def fileOf (pool : Array CpInfo) (this : Nat) (attrs : Array Attribute := #[]) (ms : Array MethodInfo := #[]) (fl : Nat := 33) (sup : Nat := 0) (ifs : Array Nat := #[]) (fds : Array FieldInfo := #[]) : ClassFile where
  minorVersion := 0
  majorVersion := 65
  constantPool := pool
  accessFlags := fl
  thisClass := this
  superClass := sup
  interfaces := ifs
  fields := fds
  methods := ms
  attributes := attrs
def plain (name : String) (sup : Option ClassId) : Class where
  name := name
  kind := .ordinary
  loader := none
  accessFlags := 33
  super := sup
  interfaces := #[]
  cf := none
  fields := #[]
  methods := #[]
  instanceTypes := #[]
  staticTypes := #[]
  resolved := #[]
  callSites := []
  init := .initialized
  statics := none
  mirror := none

def pool0 : Array CpInfo := pool [(5, u "<init>"), (0, u "()V"), (1, .class_ 10), (1, u "java/lang/Object")] 113

def k0c0 : Code := { maxStack := 0, maxLocals := 1, code := object_method_1_code, exceptionTable := #[], attributes := #[] }
def k0m0 : Method := { name := "<init>", desc := "()V", sig := { parameters := [], returnType := none }, accessFlags := 1, code := some k0c0 }
/-- java/lang/Object -/
def k0 : Class := { plain "java/lang/Object" none with
  accessFlags := 33
  interfaces := #[]
  cf := some (fileOf pool0 8 #[] #[{ accessFlags := 1, nameIndex := 5, descriptorIndex := 6, attributes := #[] }] 33 0 #[] #[])
  fields := #[]
  methods := #[k0m0]
  instanceTypes := #[]
  staticTypes := #[]
  resolved := Array.replicate 124 none
  statics := none }

def pool1 : Array CpInfo := pool [(2, .class_ 4), (1, u "java/lang/Object"), (0, u "<init>"), (0, u "()V"), (0, .fieldref 8 9), (0, .class_ 10), (0, .nameAndType 11 12), (0, u "com/example/updatable_views/updatableviews/SqlToken$Kind"), (0, u "WORD"), (0, u "Lcom/example/updatable_views/updatableviews/SqlToken$Kind;"), (0, .fieldref 8 14), (0, .nameAndType 15 12), (0, u "NUMBER"), (0, .fieldref 8 17), (0, .nameAndType 18 12), (0, u "STRING"), (0, .fieldref 8 20), (0, .nameAndType 21 12), (0, u "BLOB"), (0, .fieldref 8 23), (0, .nameAndType 24 12), (0, u "QUOTED_NAME"), (0, .fieldref 8 26), (0, .nameAndType 27 12), (0, u "PARAMETER"), (0, .fieldref 8 29), (0, .nameAndType 30 12), (0, u "COMMENT"), (0, .fieldref 8 32), (0, .nameAndType 33 12), (0, u "SYMBOL"), (0, .class_ 35), (0, u "java/lang/String"), (0, .methodref 34 37), (0, .nameAndType 5 38), (0, u "([C)V"), (0, .integer 2147483647), (0, .methodref 41 42), (0, .class_ 43), (0, .nameAndType 44 45), (0, u "java/lang/Math"), (0, u "min"), (0, u "(II)I"), (0, .class_ 47), (0, u "com/example/updatable_views/updatableviews/SqlToken"), (0, .methodref 49 50), (0, .class_ 51), (0, .nameAndType 52 53), (0, u "com/example/updatable_views/updatableviews/SqlTokenIsSymbolPinLaw"), (0, u "kindOf"), (0, u "(I)Lcom/example/updatable_views/updatableviews/SqlToken$Kind;"), (0, .methodref 46 55), (0, .nameAndType 5 56), (0, u "(Lcom/example/updatable_views/updatableviews/SqlToken$Kind;II)V"), (0, .methodref 46 58), (0, .nameAndType 59 60), (0, u "isSymbol"), (0, u "(Ljava/lang/CharSequence;C)Z"), (3, u "law"), (0, u "(IIIIII)Z")] 6

def k1m0 : Method := { name := "<init>", desc := "()V", sig := { parameters := [], returnType := none }, accessFlags := 1, code := none }
def k1c1 : Code := { maxStack := 2, maxLocals := 1, code := method_2_code, exceptionTable := #[], attributes := #[] }
def k1m1 : Method := { name := "kindOf", desc := "(I)Lcom/example/updatable_views/updatableviews/SqlToken$Kind;", sig := { parameters := [.int], returnType := some (.object "com/example/updatable_views/updatableviews/SqlToken$Kind") }, accessFlags := 10, code := some k1c1 }
def k1c2 : Code := { maxStack := 5, maxLocals := 14, code := code, exceptionTable := #[], attributes := #[] }
def k1m2 : Method := { name := "law", desc := "(IIIIII)Z", sig := { parameters := [.int, .int, .int, .int, .int, .int], returnType := some .boolean }, accessFlags := 9, code := some k1c2 }
/-- com/example/updatable_views/updatableviews/SqlTokenIsSymbolPinLaw -/
def k1 : Class := { plain "com/example/updatable_views/updatableviews/SqlTokenIsSymbolPinLaw" (some 0) with
  accessFlags := 49
  interfaces := #[]
  cf := some (fileOf pool1 49 #[] #[{ accessFlags := 1, nameIndex := 5, descriptorIndex := 6, attributes := #[] }, { accessFlags := 10, nameIndex := 52, descriptorIndex := 53, attributes := #[] }, { accessFlags := 9, nameIndex := 64, descriptorIndex := 65, attributes := #[] }] 49 2 #[] #[])
  fields := #[]
  methods := #[k1m0, k1m1, k1m2]
  instanceTypes := #[]
  staticTypes := #[]
  resolved := Array.replicate 72 none
  statics := none }

def pool2 : Array CpInfo := pool [(1, .class_ 2), (0, u "java/io/Serializable"), (0, .class_ 4), (0, u "java/lang/Object")] 2

/-- java/io/Serializable -/
def k2 : Class := { plain "java/io/Serializable" (some 0) with
  accessFlags := 1537
  interfaces := #[]
  cf := some (fileOf pool2 1 #[] #[] 1537 3 #[] #[])
  fields := #[]
  methods := #[]
  instanceTypes := #[]
  staticTypes := #[]
  resolved := Array.replicate 7 none
  statics := none }

def pool3 : Array CpInfo := pool [(1, .class_ 2), (0, u "java/lang/Comparable"), (0, .class_ 4), (0, u "java/lang/Object")] 7

/-- java/lang/Comparable -/
def k3 : Class := { plain "java/lang/Comparable" (some 0) with
  accessFlags := 1537
  interfaces := #[]
  cf := some (fileOf pool3 1 #[] #[] 1537 3 #[] #[])
  fields := #[]
  methods := #[]
  instanceTypes := #[]
  staticTypes := #[]
  resolved := Array.replicate 12 none
  statics := none }

def pool4 : Array CpInfo := pool [(2, .class_ 4), (1, u "java/lang/CharSequence"), (40, u "charAt"), (0, u "(I)C"), (0, .class_ 48), (0, u "java/lang/CharSequence$1CodePointIterator"), (10, .class_ 60), (0, u "java/lang/CharSequence$1CharIterator"), (5, .class_ 67), (0, u "java/lang/Object")] 63

def k4m0 : Method := { name := "charAt", desc := "(I)C", sig := { parameters := [.int], returnType := some .char }, accessFlags := 1025, code := none }
/-- java/lang/CharSequence -/
def k4 : Class := { plain "java/lang/CharSequence" (some 0) with
  accessFlags := 1537
  interfaces := #[]
  cf := some (fileOf pool4 2 #[.nestMembers #[47, 59]] #[{ accessFlags := 1025, nameIndex := 45, descriptorIndex := 46, attributes := #[] }] 1537 66 #[] #[])
  fields := #[]
  methods := #[k4m0]
  instanceTypes := #[]
  staticTypes := #[]
  resolved := Array.replicate 131 none
  statics := none }

def pool5 : Array CpInfo := pool [(1, .class_ 2), (0, u "java/lang/constant/Constable"), (0, .class_ 4), (0, u "java/lang/Object")] 6

/-- java/lang/constant/Constable -/
def k5 : Class := { plain "java/lang/constant/Constable" (some 0) with
  accessFlags := 1537
  interfaces := #[]
  cf := some (fileOf pool5 1 #[] #[] 1537 3 #[] #[])
  fields := #[]
  methods := #[]
  instanceTypes := #[]
  staticTypes := #[]
  resolved := Array.replicate 11 none
  statics := none }

def pool6 : Array CpInfo := pool [(1, .class_ 2), (0, u "java/lang/constant/ConstantDesc"), (0, .class_ 4), (0, u "java/lang/Object")] 32

/-- java/lang/constant/ConstantDesc -/
def k6 : Class := { plain "java/lang/constant/ConstantDesc" (some 0) with
  accessFlags := 1537
  interfaces := #[]
  cf := some (fileOf pool6 1 #[] #[] 1537 3 #[] #[])
  fields := #[]
  methods := #[]
  instanceTypes := #[]
  staticTypes := #[]
  resolved := Array.replicate 37 none
  statics := none }

def pool7 : Array CpInfo := pool [(1, .methodref 2 3), (0, .class_ 4), (0, .nameAndType 5 6), (0, u "java/lang/Object"), (0, u "<init>"), (0, u "()V"), (2, .fieldref 10 11), (0, .class_ 12), (0, .nameAndType 13 14), (0, u "java/lang/String"), (0, u "value"), (0, u "[B"), (0, .fieldref 10 16), (0, .nameAndType 17 18), (0, u "coder"), (0, u "B"), (2, u "hash"), (0, u "I"), (2, u "hashIsZero"), (0, u "Z"), (0, .methodref 10 28), (0, .nameAndType 5 29), (0, u "([CIILjava/lang/Void;)V"), (8, .fieldref 10 39), (0, .nameAndType 40 26), (0, u "COMPACT_STRINGS"), (1, .class_ 44), (1, u "java/lang/StringUTF16"), (0, u "compress"), (1, .methodref 42 48), (0, .nameAndType 49 50), (0, u "coderFromArrayLen"), (0, u "([BI)B"), (56, .class_ 109), (1, u "java/lang/StringLatin1"), (32, u "()Z"), (34, .methodref 42 178), (0, .nameAndType 45 179), (0, u "([CII)[B"), (183, u "([BI)C"), (27, u "(II)V"), (35, u "(I)C"), (64, .methodref 10 493), (0, .nameAndType 494 142), (0, u "isLatin1"), (0, .methodref 107 496), (0, .nameAndType 497 363), (0, u "charAt"), (0, .methodref 42 496), (2, u "checkIndex"), (73, .class_ 576), (0, u "java/lang/CharSequence"), (22, u "CASE_INSENSITIVE_ORDER"), (0, u "Ljava/util/Comparator;"), (409, u "([C)V"), (42, .fieldref 1054 1055), (0, .class_ 1056), (0, .nameAndType 1057 1058), (0, u "jdk/internal/util/Preconditions"), (0, u "SIOOBE_FORMATTER"), (0, u "Ljava/util/function/BiFunction;"), (0, .methodref 1054 1060), (0, .nameAndType 501 1061), (0, u "(IILjava/util/function/BiFunction;)I"), (39, u "serialPersistentFields"), (0, u "[Ljava/io/ObjectStreamField;"), (0, .class_ 1104), (0, u "java/lang/String$CaseInsensitiveComparator"), (1, .class_ 1107), (0, u "java/io/Serializable"), (0, .class_ 1109), (0, u "java/lang/Comparable"), (0, .class_ 1111), (0, u "java/lang/constant/Constable"), (0, .class_ 1113), (0, u "java/lang/constant/ConstantDesc"), (2, u "serialVersionUID"), (0, u "J"), (3, u "REPL"), (0, u "C"), (2, u "LATIN1"), (1, u "UTF16")] 323

def k7m0 : Method := { name := "<init>", desc := "()V", sig := { parameters := [], returnType := none }, accessFlags := 1, code := none }
def k7c1 : Code := { maxStack := 5, maxLocals := 2, code := jdk_42_method_3_code, exceptionTable := #[], attributes := #[] }
def k7m1 : Method := { name := "<init>", desc := "([C)V", sig := { parameters := [(.array .char)], returnType := none }, accessFlags := 1, code := some k7c1 }
def k7c2 : Code := { maxStack := 2, maxLocals := 2, code := jdk_42_method_56_code, exceptionTable := #[], attributes := #[] }
def k7m2 : Method := { name := "charAt", desc := "(I)C", sig := { parameters := [.int], returnType := some .char }, accessFlags := 1, code := some k7c2 }
def k7c3 : Code := { maxStack := 4, maxLocals := 6, code := jdk_42_method_149_code, exceptionTable := #[], attributes := #[] }
def k7m3 : Method := { name := "<init>", desc := "([CIILjava/lang/Void;)V", sig := { parameters := [(.array .char), .int, .int, (.object "java/lang/Void")], returnType := none }, accessFlags := 2, code := some k7c3 }
def k7c4 : Code := { maxStack := 1, maxLocals := 1, code := jdk_42_method_154_code, exceptionTable := #[], attributes := #[] }
def k7m4 : Method := { name := "isLatin1", desc := "()Z", sig := { parameters := [], returnType := some .boolean }, accessFlags := 0, code := some k7c4 }
def k7c5 : Code := { maxStack := 3, maxLocals := 2, code := jdk_42_method_155_code, exceptionTable := #[], attributes := #[] }
def k7m5 : Method := { name := "checkIndex", desc := "(II)V", sig := { parameters := [.int, .int], returnType := none }, accessFlags := 8, code := some k7c5 }
/-- java/lang/String -/
def k7 : Class := { plain "java/lang/String" (some 0) with
  accessFlags := 49
  interfaces := #[2, 3, 4, 5, 6]
  cf := some (fileOf pool7 10 #[.nestMembers #[1103]] #[{ accessFlags := 1, nameIndex := 5, descriptorIndex := 6, attributes := #[] }, { accessFlags := 1, nameIndex := 5, descriptorIndex := 1010, attributes := #[] }, { accessFlags := 1, nameIndex := 497, descriptorIndex := 427, attributes := #[] }, { accessFlags := 2, nameIndex := 5, descriptorIndex := 29, attributes := #[] }, { accessFlags := 0, nameIndex := 494, descriptorIndex := 142, attributes := #[] }, { accessFlags := 8, nameIndex := 501, descriptorIndex := 391, attributes := #[] }] 49 2 #[1106, 1108, 575, 1110, 1112] #[{ accessFlags := 18, nameIndex := 13, descriptorIndex := 14, attributes := #[] }, { accessFlags := 18, nameIndex := 17, descriptorIndex := 18, attributes := #[] }, { accessFlags := 2, nameIndex := 21, descriptorIndex := 22, attributes := #[] }, { accessFlags := 2, nameIndex := 25, descriptorIndex := 26, attributes := #[] }, { accessFlags := 26, nameIndex := 1116, descriptorIndex := 1117, attributes := #[] }, { accessFlags := 24, nameIndex := 40, descriptorIndex := 26, attributes := #[] }, { accessFlags := 26, nameIndex := 1101, descriptorIndex := 1102, attributes := #[] }, { accessFlags := 26, nameIndex := 1121, descriptorIndex := 1122, attributes := #[] }, { accessFlags := 25, nameIndex := 599, descriptorIndex := 600, attributes := #[] }, { accessFlags := 24, nameIndex := 1125, descriptorIndex := 18, attributes := #[] }, { accessFlags := 24, nameIndex := 1127, descriptorIndex := 18, attributes := #[] }])
  fields := #[{ name := "value", type := (.array .byte), accessFlags := 18, slot := 0, constantValue := 0 }, { name := "coder", type := .byte, accessFlags := 18, slot := 1, constantValue := 0 }, { name := "hash", type := .int, accessFlags := 2, slot := 2, constantValue := 0 }, { name := "hashIsZero", type := .boolean, accessFlags := 2, slot := 3, constantValue := 0 }, { name := "serialVersionUID", type := .long, accessFlags := 26, slot := 0, constantValue := 0 }, { name := "COMPACT_STRINGS", type := .boolean, accessFlags := 24, slot := 1, constantValue := 0 }, { name := "serialPersistentFields", type := (.array (.object "java/io/ObjectStreamField")), accessFlags := 26, slot := 2, constantValue := 0 }, { name := "REPL", type := .char, accessFlags := 26, slot := 3, constantValue := 0 }, { name := "CASE_INSENSITIVE_ORDER", type := (.object "java/util/Comparator"), accessFlags := 25, slot := 4, constantValue := 0 }, { name := "LATIN1", type := .byte, accessFlags := 24, slot := 5, constantValue := 0 }, { name := "UTF16", type := .byte, accessFlags := 24, slot := 6, constantValue := 0 }]
  methods := #[k7m0, k7m1, k7m2, k7m3, k7m4, k7m5]
  instanceTypes := #[(.array .byte), .byte, .int, .boolean]
  staticTypes := #[.long, .boolean, (.array (.object "java/io/ObjectStreamField")), .char, (.object "java/util/Comparator"), .byte, .byte]
  resolved := Array.replicate 1451 none
  statics := some 0 }

def pool8 : Array CpInfo := pool [(3, .class_ 4), (0, u "java/lang/String"), (1, .class_ 8), (1, u "java/lang/Object"), (0, u "<init>"), (0, u "()V"), (0, .methodref 12 13), (0, .class_ 14), (0, .nameAndType 15 16), (0, u "java/lang/StringUTF16"), (0, u "newBytesLength"), (0, u "(I)I"), (3, .integer 1073741823), (23, .fieldref 12 45), (0, .nameAndType 46 47), (0, u "$assertionsDisabled"), (0, u "Z"), (0, .methodref 12 49), (0, .nameAndType 50 51), (0, u "length"), (0, u "([B)I"), (7, .fieldref 12 60), (0, .nameAndType 61 62), (0, u "HI_BYTE_SHIFT"), (0, u "I"), (0, .fieldref 12 64), (0, .nameAndType 65 62), (0, u "LO_BYTE_SHIFT"), (1, .methodref 12 68), (0, .nameAndType 69 70), (0, u "checkIndex"), (0, u "(I[B)V"), (0, .methodref 12 72), (0, .nameAndType 73 74), (0, u "getChar"), (0, u "([BI)C"), (32, .methodref 12 108), (0, .nameAndType 109 110), (0, u "newBytesFor"), (0, u "(I)[B"), (0, .methodref 12 112), (0, .nameAndType 113 114), (0, u "putChar"), (0, u "([BII)V"), (0, .methodref 12 116), (0, .nameAndType 117 118), (0, u "compress"), (0, u "([CI[BII)I"), (0, .methodref 12 120), (0, .nameAndType 121 122), (0, u "toBytes"), (0, u "([CII)[B"), (138, u "coderFromArrayLen"), (0, u "([BI)B"), (106, .class_ 371), (1, u "java/lang/StringUTF16$LinesSpliterator"), (20, u "charAt"), (21, .methodref 3 415), (0, .nameAndType 69 416), (0, u "(II)V"), (13, u "MAX_LENGTH"), (196, .class_ 628), (0, u "java/lang/StringUTF16$CodePointsSpliterator"), (0, .class_ 630), (0, u "java/lang/StringUTF16$CharsSpliterator")] 4

def k8m0 : Method := { name := "<init>", desc := "()V", sig := { parameters := [], returnType := none }, accessFlags := 0, code := none }
def k8c1 : Code := { maxStack := 1, maxLocals := 1, code := jdk_52_method_2_code, exceptionTable := #[], attributes := #[] }
def k8m1 : Method := { name := "newBytesFor", desc := "(I)[B", sig := { parameters := [.int], returnType := some (.array .byte) }, accessFlags := 9, code := some k8c1 }
def k8c2 : Code := { maxStack := 4, maxLocals := 1, code := jdk_52_method_3_code, exceptionTable := #[], attributes := #[] }
def k8m2 : Method := { name := "newBytesLength", desc := "(I)I", sig := { parameters := [.int], returnType := some .int }, accessFlags := 9, code := some k8c2 }
def k8c3 : Code := { maxStack := 4, maxLocals := 3, code := jdk_52_method_4_code, exceptionTable := #[], attributes := #[] }
def k8m3 : Method := { name := "putChar", desc := "([BII)V", sig := { parameters := [(.array .byte), .int, .int], returnType := none }, accessFlags := 8, code := some k8c3 }
def k8c4 : Code := { maxStack := 3, maxLocals := 2, code := jdk_52_method_5_code, exceptionTable := #[], attributes := #[] }
def k8m4 : Method := { name := "getChar", desc := "([BI)C", sig := { parameters := [(.array .byte), .int], returnType := some .char }, accessFlags := 8, code := some k8c4 }
def k8c5 : Code := { maxStack := 2, maxLocals := 1, code := jdk_52_method_6_code, exceptionTable := #[], attributes := #[] }
def k8m5 : Method := { name := "length", desc := "([B)I", sig := { parameters := [(.array .byte)], returnType := some .int }, accessFlags := 9, code := some k8c5 }
def k8c6 : Code := { maxStack := 4, maxLocals := 5, code := jdk_52_method_14_code, exceptionTable := #[], attributes := #[] }
def k8m6 : Method := { name := "toBytes", desc := "([CII)[B", sig := { parameters := [(.array .char), .int, .int], returnType := some (.array .byte) }, accessFlags := 9, code := some k8c6 }
def k8c7 : Code := { maxStack := 2, maxLocals := 2, code := jdk_52_method_15_code, exceptionTable := #[], attributes := #[] }
def k8m7 : Method := { name := "coderFromArrayLen", desc := "([BI)B", sig := { parameters := [(.array .byte), .int], returnType := some .byte }, accessFlags := 8, code := some k8c7 }
def k8c8 : Code := { maxStack := 5, maxLocals := 6, code := jdk_52_method_16_code, exceptionTable := #[], attributes := #[] }
def k8m8 : Method := { name := "compress", desc := "([CII)[B", sig := { parameters := [(.array .char), .int, .int], returnType := some (.array .byte) }, accessFlags := 9, code := some k8c8 }
def k8c9 : Code := { maxStack := 3, maxLocals := 7, code := jdk_52_method_21_code, exceptionTable := #[], attributes := #[] }
def k8m9 : Method := { name := "compress", desc := "([CI[BII)I", sig := { parameters := [(.array .char), .int, (.array .byte), .int, .int], returnType := some .int }, accessFlags := 9, code := some k8c9 }
def k8c10 : Code := { maxStack := 2, maxLocals := 2, code := jdk_52_method_83_code, exceptionTable := #[], attributes := #[] }
def k8m10 : Method := { name := "charAt", desc := "([BI)C", sig := { parameters := [(.array .byte), .int], returnType := some .char }, accessFlags := 9, code := some k8c10 }
def k8c11 : Code := { maxStack := 2, maxLocals := 2, code := jdk_52_method_91_code, exceptionTable := #[], attributes := #[] }
def k8m11 : Method := { name := "checkIndex", desc := "(I[B)V", sig := { parameters := [.int, (.array .byte)], returnType := none }, accessFlags := 9, code := some k8c11 }
/-- java/lang/StringUTF16 -/
def k8 : Class := { plain "java/lang/StringUTF16" (some 0) with
  accessFlags := 48
  interfaces := #[]
  cf := some (fileOf pool8 12 #[.nestMembers #[627, 629, 369]] #[{ accessFlags := 0, nameIndex := 9, descriptorIndex := 10, attributes := #[] }, { accessFlags := 9, nameIndex := 109, descriptorIndex := 110, attributes := #[] }, { accessFlags := 9, nameIndex := 15, descriptorIndex := 16, attributes := #[] }, { accessFlags := 8, nameIndex := 113, descriptorIndex := 114, attributes := #[] }, { accessFlags := 8, nameIndex := 73, descriptorIndex := 74, attributes := #[] }, { accessFlags := 9, nameIndex := 50, descriptorIndex := 51, attributes := #[] }, { accessFlags := 9, nameIndex := 121, descriptorIndex := 122, attributes := #[] }, { accessFlags := 8, nameIndex := 261, descriptorIndex := 262, attributes := #[] }, { accessFlags := 9, nameIndex := 117, descriptorIndex := 122, attributes := #[] }, { accessFlags := 9, nameIndex := 117, descriptorIndex := 118, attributes := #[] }, { accessFlags := 9, nameIndex := 392, descriptorIndex := 74, attributes := #[] }, { accessFlags := 9, nameIndex := 69, descriptorIndex := 70, attributes := #[] }] 48 6 #[] #[{ accessFlags := 26, nameIndex := 61, descriptorIndex := 62, attributes := #[] }, { accessFlags := 26, nameIndex := 65, descriptorIndex := 62, attributes := #[] }, { accessFlags := 24, nameIndex := 430, descriptorIndex := 62, attributes := #[] }, { accessFlags := 4120, nameIndex := 46, descriptorIndex := 47, attributes := #[] }])
  fields := #[{ name := "HI_BYTE_SHIFT", type := .int, accessFlags := 26, slot := 0, constantValue := 0 }, { name := "LO_BYTE_SHIFT", type := .int, accessFlags := 26, slot := 1, constantValue := 0 }, { name := "MAX_LENGTH", type := .int, accessFlags := 24, slot := 2, constantValue := 0 }, { name := "$assertionsDisabled", type := .boolean, accessFlags := 4120, slot := 3, constantValue := 0 }]
  methods := #[k8m0, k8m1, k8m2, k8m3, k8m4, k8m5, k8m6, k8m7, k8m8, k8m9, k8m10, k8m11]
  instanceTypes := #[]
  staticTypes := #[.int, .int, .int, .boolean]
  resolved := Array.replicate 635 none
  statics := some 1 }

def pool9 : Array CpInfo := pool [(1, .class_ 2), (0, u "java/lang/Math"), (1, .class_ 6), (1, u "java/lang/Object"), (0, u "<init>"), (0, u "()V"), (89, .class_ 100), (1, u "java/lang/Math$RandomNumberGeneratorHolder"), (71, u "negativeZeroFloatBits"), (0, u "J"), (2, u "negativeZeroDoubleBits"), (24, u "min"), (43, u "$assertionsDisabled"), (0, u "Z"), (88, u "(II)I"), (2, u "twoToTheDoubleScaleDown"), (0, u "D"), (4, u "twoToTheDoubleScaleUp"), (9, u "E"), (3, u "PI"), (2, u "TAU"), (2, u "DEGREES_TO_RADIANS"), (0, u "RADIANS_TO_DEGREES")] 94

def k9m0 : Method := { name := "<init>", desc := "()V", sig := { parameters := [], returnType := none }, accessFlags := 2, code := none }
def k9c1 : Code := { maxStack := 2, maxLocals := 2, code := jdk_29_method_69_code, exceptionTable := #[], attributes := #[] }
def k9m1 : Method := { name := "min", desc := "(II)I", sig := { parameters := [.int, .int], returnType := some .int }, accessFlags := 9, code := some k9c1 }
/-- java/lang/Math -/
def k9 : Class := { plain "java/lang/Math" (some 0) with
  accessFlags := 49
  interfaces := #[]
  cf := some (fileOf pool9 1 #[.nestMembers #[98]] #[{ accessFlags := 2, nameIndex := 7, descriptorIndex := 8, attributes := #[] }, { accessFlags := 9, nameIndex := 201, descriptorIndex := 335, attributes := #[] }] 49 4 #[] #[{ accessFlags := 25, nameIndex := 354, descriptorIndex := 339, attributes := #[] }, { accessFlags := 25, nameIndex := 358, descriptorIndex := 339, attributes := #[] }, { accessFlags := 25, nameIndex := 361, descriptorIndex := 339, attributes := #[] }, { accessFlags := 26, nameIndex := 364, descriptorIndex := 339, attributes := #[] }, { accessFlags := 26, nameIndex := 365, descriptorIndex := 339, attributes := #[] }, { accessFlags := 26, nameIndex := 172, descriptorIndex := 173, attributes := #[] }, { accessFlags := 26, nameIndex := 176, descriptorIndex := 173, attributes := #[] }, { accessFlags := 8, nameIndex := 344, descriptorIndex := 339, attributes := #[] }, { accessFlags := 8, nameIndex := 338, descriptorIndex := 339, attributes := #[] }, { accessFlags := 4120, nameIndex := 245, descriptorIndex := 246, attributes := #[] }])
  fields := #[{ name := "E", type := .double, accessFlags := 25, slot := 0, constantValue := 0 }, { name := "PI", type := .double, accessFlags := 25, slot := 1, constantValue := 0 }, { name := "TAU", type := .double, accessFlags := 25, slot := 2, constantValue := 0 }, { name := "DEGREES_TO_RADIANS", type := .double, accessFlags := 26, slot := 3, constantValue := 0 }, { name := "RADIANS_TO_DEGREES", type := .double, accessFlags := 26, slot := 4, constantValue := 0 }, { name := "negativeZeroFloatBits", type := .long, accessFlags := 26, slot := 5, constantValue := 0 }, { name := "negativeZeroDoubleBits", type := .long, accessFlags := 26, slot := 6, constantValue := 0 }, { name := "twoToTheDoubleScaleUp", type := .double, accessFlags := 8, slot := 7, constantValue := 0 }, { name := "twoToTheDoubleScaleDown", type := .double, accessFlags := 8, slot := 8, constantValue := 0 }, { name := "$assertionsDisabled", type := .boolean, accessFlags := 4120, slot := 9, constantValue := 0 }]
  methods := #[k9m0, k9m1]
  instanceTypes := #[]
  staticTypes := #[.double, .double, .double, .double, .double, .long, .long, .double, .double, .boolean]
  resolved := Array.replicate 460 none
  statics := none }

def pool10 : Array CpInfo := pool [(1, .methodref 2 3), (0, .class_ 4), (0, .nameAndType 5 6), (0, u "java/lang/Object"), (0, u "<init>"), (0, u "()V"), (0, .fieldref 8 9), (0, .class_ 10), (0, .nameAndType 11 12), (0, u "com/example/updatable_views/updatableviews/SqlToken"), (0, u "kind"), (0, u "Lcom/example/updatable_views/updatableviews/SqlToken$Kind;"), (0, .fieldref 8 14), (0, .nameAndType 15 16), (0, u "start"), (0, u "I"), (0, .fieldref 8 18), (0, .nameAndType 19 16), (0, u "end"), (1, .class_ 23), (1, u "com/example/updatable_views/updatableviews/SqlToken$Kind"), (7, .interfaceMethodref 32 33), (0, .class_ 34), (0, .nameAndType 35 36), (0, u "java/lang/CharSequence"), (0, u "charAt"), (0, u "(I)C"), (1, .fieldref 21 39), (0, .nameAndType 40 12), (0, u "SYMBOL"), (0, u "(Lcom/example/updatable_views/updatableviews/SqlToken$Kind;II)V"), (6, u "isSymbol"), (0, u "(Ljava/lang/CharSequence;C)Z")] 5

def k10c0 : Code := { maxStack := 2, maxLocals := 4, code := prog_10_method_1_code, exceptionTable := #[], attributes := #[] }
def k10m0 : Method := { name := "<init>", desc := "(Lcom/example/updatable_views/updatableviews/SqlToken$Kind;II)V", sig := { parameters := [(.object "com/example/updatable_views/updatableviews/SqlToken$Kind"), .int, .int], returnType := none }, accessFlags := 0, code := some k10c0 }
def k10c1 : Code := { maxStack := 2, maxLocals := 3, code := prog_10_method_6_code, exceptionTable := #[], attributes := #[] }
def k10m1 : Method := { name := "isSymbol", desc := "(Ljava/lang/CharSequence;C)Z", sig := { parameters := [(.object "java/lang/CharSequence"), .char], returnType := some .boolean }, accessFlags := 0, code := some k10c1 }
/-- com/example/updatable_views/updatableviews/SqlToken -/
def k10 : Class := { plain "com/example/updatable_views/updatableviews/SqlToken" (some 0) with
  accessFlags := 48
  interfaces := #[]
  cf := some (fileOf pool10 8 #[.nestMembers #[21]] #[{ accessFlags := 0, nameIndex := 5, descriptorIndex := 41, attributes := #[] }, { accessFlags := 0, nameIndex := 48, descriptorIndex := 49, attributes := #[] }] 48 2 #[] #[{ accessFlags := 18, nameIndex := 11, descriptorIndex := 12, attributes := #[] }, { accessFlags := 18, nameIndex := 15, descriptorIndex := 16, attributes := #[] }, { accessFlags := 18, nameIndex := 19, descriptorIndex := 16, attributes := #[] }])
  fields := #[{ name := "kind", type := (.object "com/example/updatable_views/updatableviews/SqlToken$Kind"), accessFlags := 18, slot := 0, constantValue := 0 }, { name := "start", type := .int, accessFlags := 18, slot := 1, constantValue := 0 }, { name := "end", type := .int, accessFlags := 18, slot := 2, constantValue := 0 }]
  methods := #[k10m0, k10m1]
  instanceTypes := #[(.object "com/example/updatable_views/updatableviews/SqlToken$Kind"), .int, .int]
  staticTypes := #[]
  resolved := Array.replicate 55 none
  statics := none }

def pool11 : Array CpInfo := pool [(2, .class_ 4), (1, u "java/lang/Enum"), (0, u "name"), (0, u "Ljava/lang/String;"), (2, u "ordinal"), (0, u "I"), (1, .class_ 14), (1, u "java/lang/Object"), (4, u "hash"), (86, .class_ 108), (1, u "java/lang/Enum$EnumDesc"), (2, .class_ 112), (0, u "java/lang/constant/Constable"), (0, .class_ 114), (0, u "java/lang/Comparable"), (0, .class_ 116), (0, u "java/io/Serializable")] 87

/-- java/lang/Enum -/
def k11 : Class := { plain "java/lang/Enum" (some 0) with
  accessFlags := 1057
  interfaces := #[5, 3, 2]
  cf := some (fileOf pool11 2 #[.nestMembers #[106]] #[] 1057 12 #[111, 113, 115] #[{ accessFlags := 18, nameIndex := 5, descriptorIndex := 6, attributes := #[] }, { accessFlags := 18, nameIndex := 9, descriptorIndex := 10, attributes := #[] }, { accessFlags := 2, nameIndex := 19, descriptorIndex := 10, attributes := #[] }])
  fields := #[{ name := "name", type := (.object "java/lang/String"), accessFlags := 18, slot := 0, constantValue := 0 }, { name := "ordinal", type := .int, accessFlags := 18, slot := 1, constantValue := 0 }, { name := "hash", type := .int, accessFlags := 2, slot := 2, constantValue := 0 }]
  methods := #[]
  instanceTypes := #[(.object "java/lang/String"), .int, .int]
  staticTypes := #[]
  resolved := Array.replicate 204 none
  statics := none }

def pool12 : Array CpInfo := pool [(1, .class_ 2), (0, u "com/example/updatable_views/updatableviews/SqlToken$Kind"), (2, u "WORD"), (0, u "Lcom/example/updatable_views/updatableviews/SqlToken$Kind;"), (2, u "NUMBER"), (2, u "STRING"), (2, u "BLOB"), (2, u "QUOTED_NAME"), (2, u "PARAMETER"), (2, u "COMMENT"), (2, u "SYMBOL"), (2, u "$VALUES"), (0, u "[Lcom/example/updatable_views/updatableviews/SqlToken$Kind;"), (6, .class_ 40), (1, u "java/lang/Enum"), (31, .class_ 73), (0, u "com/example/updatable_views/updatableviews/SqlToken")] 2

/-- com/example/updatable_views/updatableviews/SqlToken$Kind -/
def k12 : Class := { plain "com/example/updatable_views/updatableviews/SqlToken$Kind" (some 11) with
  accessFlags := 16432
  interfaces := #[]
  cf := some (fileOf pool12 1 #[.nestHost 72] #[] 16432 38 #[] #[{ accessFlags := 16409, nameIndex := 5, descriptorIndex := 6, attributes := #[] }, { accessFlags := 16409, nameIndex := 9, descriptorIndex := 6, attributes := #[] }, { accessFlags := 16409, nameIndex := 12, descriptorIndex := 6, attributes := #[] }, { accessFlags := 16409, nameIndex := 15, descriptorIndex := 6, attributes := #[] }, { accessFlags := 16409, nameIndex := 18, descriptorIndex := 6, attributes := #[] }, { accessFlags := 16409, nameIndex := 21, descriptorIndex := 6, attributes := #[] }, { accessFlags := 16409, nameIndex := 24, descriptorIndex := 6, attributes := #[] }, { accessFlags := 16409, nameIndex := 27, descriptorIndex := 6, attributes := #[] }, { accessFlags := 4122, nameIndex := 30, descriptorIndex := 31, attributes := #[] }])
  fields := #[{ name := "WORD", type := (.object "com/example/updatable_views/updatableviews/SqlToken$Kind"), accessFlags := 16409, slot := 0, constantValue := 0 }, { name := "NUMBER", type := (.object "com/example/updatable_views/updatableviews/SqlToken$Kind"), accessFlags := 16409, slot := 1, constantValue := 0 }, { name := "STRING", type := (.object "com/example/updatable_views/updatableviews/SqlToken$Kind"), accessFlags := 16409, slot := 2, constantValue := 0 }, { name := "BLOB", type := (.object "com/example/updatable_views/updatableviews/SqlToken$Kind"), accessFlags := 16409, slot := 3, constantValue := 0 }, { name := "QUOTED_NAME", type := (.object "com/example/updatable_views/updatableviews/SqlToken$Kind"), accessFlags := 16409, slot := 4, constantValue := 0 }, { name := "PARAMETER", type := (.object "com/example/updatable_views/updatableviews/SqlToken$Kind"), accessFlags := 16409, slot := 5, constantValue := 0 }, { name := "COMMENT", type := (.object "com/example/updatable_views/updatableviews/SqlToken$Kind"), accessFlags := 16409, slot := 6, constantValue := 0 }, { name := "SYMBOL", type := (.object "com/example/updatable_views/updatableviews/SqlToken$Kind"), accessFlags := 16409, slot := 7, constantValue := 0 }, { name := "$VALUES", type := (.array (.object "com/example/updatable_views/updatableviews/SqlToken$Kind")), accessFlags := 4122, slot := 8, constantValue := 0 }]
  methods := #[]
  instanceTypes := #[(.object "java/lang/String"), .int, .int]
  staticTypes := #[(.object "com/example/updatable_views/updatableviews/SqlToken$Kind"), (.object "com/example/updatable_views/updatableviews/SqlToken$Kind"), (.object "com/example/updatable_views/updatableviews/SqlToken$Kind"), (.object "com/example/updatable_views/updatableviews/SqlToken$Kind"), (.object "com/example/updatable_views/updatableviews/SqlToken$Kind"), (.object "com/example/updatable_views/updatableviews/SqlToken$Kind"), (.object "com/example/updatable_views/updatableviews/SqlToken$Kind"), (.object "com/example/updatable_views/updatableviews/SqlToken$Kind"), (.array (.object "com/example/updatable_views/updatableviews/SqlToken$Kind"))]
  resolved := Array.replicate 76 none
  statics := some 2 }

def pool13 : Array CpInfo := pool [(2, .class_ 4), (1, u "java/lang/Object"), (0, u "<init>"), (0, u "()V"), (17, .class_ 26), (1, u "jdk/internal/util/Preconditions"), (6, u "checkIndex"), (21, .class_ 56), (0, u "jdk/internal/util/Preconditions$4"), (57, .class_ 115), (0, u "jdk/internal/util/Preconditions$1"), (7, u "SIOOBE_FORMATTER"), (0, u "Ljava/util/function/BiFunction;"), (0, .class_ 126), (0, u "jdk/internal/util/Preconditions$2"), (3, u "AIOOBE_FORMATTER"), (0, .class_ 132), (0, u "jdk/internal/util/Preconditions$3"), (3, u "IOOBE_FORMATTER"), (41, u "(IILjava/util/function/BiFunction;)I")] 15

def k13m0 : Method := { name := "<init>", desc := "()V", sig := { parameters := [], returnType := none }, accessFlags := 1, code := none }
def k13c1 : Code := { maxStack := 3, maxLocals := 3, code := jdk_41_method_11_code, exceptionTable := #[], attributes := #[] }
def k13m1 : Method := { name := "checkIndex", desc := "(IILjava/util/function/BiFunction;)I", sig := { parameters := [.int, .int, (.object "java/util/function/BiFunction")], returnType := some .int }, accessFlags := 9, code := some k13c1 }
/-- jdk/internal/util/Preconditions -/
def k13 : Class := { plain "jdk/internal/util/Preconditions" (some 0) with
  accessFlags := 33
  interfaces := #[]
  cf := some (fileOf pool13 24 #[.nestMembers #[55, 131, 125, 114]] #[{ accessFlags := 1, nameIndex := 5, descriptorIndex := 6, attributes := #[] }, { accessFlags := 9, nameIndex := 33, descriptorIndex := 178, attributes := #[] }] 33 2 #[] #[{ accessFlags := 25, nameIndex := 123, descriptorIndex := 124, attributes := #[] }, { accessFlags := 25, nameIndex := 130, descriptorIndex := 124, attributes := #[] }, { accessFlags := 25, nameIndex := 136, descriptorIndex := 124, attributes := #[] }])
  fields := #[{ name := "SIOOBE_FORMATTER", type := (.object "java/util/function/BiFunction"), accessFlags := 25, slot := 0, constantValue := 0 }, { name := "AIOOBE_FORMATTER", type := (.object "java/util/function/BiFunction"), accessFlags := 25, slot := 1, constantValue := 0 }, { name := "IOOBE_FORMATTER", type := (.object "java/util/function/BiFunction"), accessFlags := 25, slot := 2, constantValue := 0 }]
  methods := #[k13m0, k13m1]
  instanceTypes := #[]
  staticTypes := #[(.object "java/util/function/BiFunction"), (.object "java/util/function/BiFunction"), (.object "java/util/function/BiFunction")]
  resolved := Array.replicate 194 none
  statics := some 3 }

def pool14 : Array CpInfo := pool [(1, .class_ 2), (0, u "java/lang/String"), (1, .class_ 6), (1, u "java/lang/Object"), (0, u "<init>"), (0, u "()V"), (0, .methodref 1 10), (0, .nameAndType 11 12), (0, u "checkIndex"), (0, u "(II)V"), (1, .class_ 16), (1, u "java/lang/StringLatin1"), (36, u "([BI)C"), (67, u "$assertionsDisabled"), (0, u "Z"), (98, .class_ 223), (1, u "java/lang/StringLatin1$LinesSpliterator"), (28, u "charAt"), (137, .class_ 391), (0, u "java/lang/StringLatin1$CharsSpliterator")] 3

def k14m0 : Method := { name := "<init>", desc := "()V", sig := { parameters := [], returnType := none }, accessFlags := 0, code := none }
def k14c1 : Code := { maxStack := 2, maxLocals := 2, code := jdk_43_method_2_code, exceptionTable := #[], attributes := #[] }
def k14m1 : Method := { name := "charAt", desc := "([BI)C", sig := { parameters := [(.array .byte), .int], returnType := some .char }, accessFlags := 9, code := some k14c1 }
/-- java/lang/StringLatin1 -/
def k14 : Class := { plain "java/lang/StringLatin1" (some 0) with
  accessFlags := 48
  interfaces := #[]
  cf := some (fileOf pool14 14 #[.nestMembers #[390, 221]] #[{ accessFlags := 0, nameIndex := 7, descriptorIndex := 8, attributes := #[] }, { accessFlags := 9, nameIndex := 252, descriptorIndex := 53, attributes := #[] }] 48 4 #[] #[{ accessFlags := 4120, nameIndex := 121, descriptorIndex := 122, attributes := #[] }])
  fields := #[{ name := "$assertionsDisabled", type := .boolean, accessFlags := 4120, slot := 0, constantValue := 0 }]
  methods := #[k14m0, k14m1]
  instanceTypes := #[]
  staticTypes := #[.boolean]
  resolved := Array.replicate 395 none
  statics := none }

def pool15 : Array CpInfo := pool [(9, u "<init>"), (6, .class_ 18), (1, u "java/lang/Object"), (0, u "()V"), (1, .class_ 23), (1, u "jdk/internal/util/ArraysSupport"), (0, u "LOG2_ARRAY_LONG_INDEX_SCALE"), (0, u "I"), (2, u "U"), (0, u "Ljdk/internal/misc/Unsafe;"), (8, u "BIG_ENDIAN"), (0, u "Z"), (8, u "LOG2_BYTE_BIT_SIZE"), (4, u "LOG2_ARRAY_INT_INDEX_SCALE"), (54, u "JLA"), (0, u "Ljdk/internal/access/JavaLangAccess;"), (11, u "LOG2_ARRAY_BOOLEAN_INDEX_SCALE"), (9, u "LOG2_ARRAY_BYTE_INDEX_SCALE"), (5, u "LOG2_ARRAY_CHAR_INDEX_SCALE"), (5, u "LOG2_ARRAY_SHORT_INDEX_SCALE"), (18, u "LOG2_ARRAY_FLOAT_INDEX_SCALE"), (24, u "LOG2_ARRAY_DOUBLE_INDEX_SCALE"), (89, u "T_BOOLEAN"), (2, u "T_CHAR"), (1, u "T_FLOAT"), (1, u "T_DOUBLE"), (1, u "T_BYTE"), (1, u "T_SHORT"), (1, u "T_INT"), (1, u "T_LONG"), (1, u "SOFT_MAX_ARRAY_LENGTH")] 83

def k15m0 : Method := { name := "<init>", desc := "()V", sig := { parameters := [], returnType := none }, accessFlags := 2, code := none }
/-- jdk/internal/util/ArraysSupport -/
def k15 : Class := { plain "jdk/internal/util/ArraysSupport" (some 0) with
  accessFlags := 33
  interfaces := #[]
  cf := some (fileOf pool15 21 #[] #[{ accessFlags := 2, nameIndex := 9, descriptorIndex := 19, attributes := #[] }] 33 16 #[] #[{ accessFlags := 24, nameIndex := 28, descriptorIndex := 29, attributes := #[] }, { accessFlags := 26, nameIndex := 38, descriptorIndex := 39, attributes := #[] }, { accessFlags := 25, nameIndex := 121, descriptorIndex := 25, attributes := #[] }, { accessFlags := 25, nameIndex := 131, descriptorIndex := 25, attributes := #[] }, { accessFlags := 25, nameIndex := 137, descriptorIndex := 25, attributes := #[] }, { accessFlags := 25, nameIndex := 143, descriptorIndex := 25, attributes := #[] }, { accessFlags := 25, nameIndex := 53, descriptorIndex := 25, attributes := #[] }, { accessFlags := 25, nameIndex := 24, descriptorIndex := 25, attributes := #[] }, { accessFlags := 25, nameIndex := 162, descriptorIndex := 25, attributes := #[] }, { accessFlags := 25, nameIndex := 187, descriptorIndex := 25, attributes := #[] }, { accessFlags := 26, nameIndex := 48, descriptorIndex := 25, attributes := #[] }, { accessFlags := 25, nameIndex := 277, descriptorIndex := 25, attributes := #[] }, { accessFlags := 25, nameIndex := 280, descriptorIndex := 25, attributes := #[] }, { accessFlags := 25, nameIndex := 282, descriptorIndex := 25, attributes := #[] }, { accessFlags := 25, nameIndex := 284, descriptorIndex := 25, attributes := #[] }, { accessFlags := 25, nameIndex := 286, descriptorIndex := 25, attributes := #[] }, { accessFlags := 25, nameIndex := 288, descriptorIndex := 25, attributes := #[] }, { accessFlags := 25, nameIndex := 290, descriptorIndex := 25, attributes := #[] }, { accessFlags := 25, nameIndex := 292, descriptorIndex := 25, attributes := #[] }, { accessFlags := 26, nameIndex := 108, descriptorIndex := 109, attributes := #[] }, { accessFlags := 25, nameIndex := 294, descriptorIndex := 25, attributes := #[] }])
  fields := #[{ name := "U", type := (.object "jdk/internal/misc/Unsafe"), accessFlags := 24, slot := 0, constantValue := 0 }, { name := "BIG_ENDIAN", type := .boolean, accessFlags := 26, slot := 1, constantValue := 0 }, { name := "LOG2_ARRAY_BOOLEAN_INDEX_SCALE", type := .int, accessFlags := 25, slot := 2, constantValue := 0 }, { name := "LOG2_ARRAY_BYTE_INDEX_SCALE", type := .int, accessFlags := 25, slot := 3, constantValue := 0 }, { name := "LOG2_ARRAY_CHAR_INDEX_SCALE", type := .int, accessFlags := 25, slot := 4, constantValue := 0 }, { name := "LOG2_ARRAY_SHORT_INDEX_SCALE", type := .int, accessFlags := 25, slot := 5, constantValue := 0 }, { name := "LOG2_ARRAY_INT_INDEX_SCALE", type := .int, accessFlags := 25, slot := 6, constantValue := 0 }, { name := "LOG2_ARRAY_LONG_INDEX_SCALE", type := .int, accessFlags := 25, slot := 7, constantValue := 0 }, { name := "LOG2_ARRAY_FLOAT_INDEX_SCALE", type := .int, accessFlags := 25, slot := 8, constantValue := 0 }, { name := "LOG2_ARRAY_DOUBLE_INDEX_SCALE", type := .int, accessFlags := 25, slot := 9, constantValue := 0 }, { name := "LOG2_BYTE_BIT_SIZE", type := .int, accessFlags := 26, slot := 10, constantValue := 0 }, { name := "T_BOOLEAN", type := .int, accessFlags := 25, slot := 11, constantValue := 0 }, { name := "T_CHAR", type := .int, accessFlags := 25, slot := 12, constantValue := 0 }, { name := "T_FLOAT", type := .int, accessFlags := 25, slot := 13, constantValue := 0 }, { name := "T_DOUBLE", type := .int, accessFlags := 25, slot := 14, constantValue := 0 }, { name := "T_BYTE", type := .int, accessFlags := 25, slot := 15, constantValue := 0 }, { name := "T_SHORT", type := .int, accessFlags := 25, slot := 16, constantValue := 0 }, { name := "T_INT", type := .int, accessFlags := 25, slot := 17, constantValue := 0 }, { name := "T_LONG", type := .int, accessFlags := 25, slot := 18, constantValue := 0 }, { name := "JLA", type := (.object "jdk/internal/access/JavaLangAccess"), accessFlags := 26, slot := 19, constantValue := 0 }, { name := "SOFT_MAX_ARRAY_LENGTH", type := .int, accessFlags := 25, slot := 20, constantValue := 0 }]
  methods := #[k15m0]
  instanceTypes := #[]
  staticTypes := #[(.object "jdk/internal/misc/Unsafe"), .boolean, .int, .int, .int, .int, .int, .int, .int, .int, .int, .int, .int, .int, .int, .int, .int, .int, .int, (.object "jdk/internal/access/JavaLangAccess"), .int]
  resolved := Array.replicate 378 none
  statics := none }

def pool16 : Array CpInfo := pool [(1, u "java/lang/Cloneable"), (0, .class_ 1), (0, u "java/lang/Object"), (0, .class_ 3)] 3

/-- java/lang/Cloneable -/
def k16 : Class := { plain "java/lang/Cloneable" (some 0) with
  accessFlags := 1537
  interfaces := #[]
  cf := some (fileOf pool16 2 #[] #[] 1537 4 #[] #[])
  fields := #[]
  methods := #[]
  instanceTypes := #[]
  staticTypes := #[]
  resolved := Array.replicate 8 none
  statics := none }

/-- the primitive byte -/
def k17 : Class := { plain "byte" none with kind := .primitive 'B', accessFlags := 0x411 }
/-- [B -/
def k18 : Class := { plain "[B" (some 0) with kind := .array 17 .byte, interfaces := #[16, 2], accessFlags := 1041 }

/-- the primitive char -/
def k19 : Class := { plain "char" none with kind := .primitive 'C', accessFlags := 0x411 }
/-- [C -/
def k20 : Class := { plain "[C" (some 0) with kind := .array 19 .char, interfaces := #[16, 2], accessFlags := 1041 }

/-- the primitive int -/
def k21 : Class := { plain "int" none with kind := .primitive 'I', accessFlags := 0x411 }
/-- [I -/
def k22 : Class := { plain "[I" (some 0) with kind := .array 21 .int, interfaces := #[16, 2], accessFlags := 1041 }

def heap : Heap := #[{ cls := 7, slots := #[.long 0, .int 1, .null, .int 0, .null, .int 0, .int 0], vm := .statics 7 },
  { cls := 8, slots := #[.int 0, .int 8, .int 0, .int 1], vm := .statics 8 },
  { cls := 12, slots := #[.ref 4, .ref 5, .ref 6, .ref 7, .ref 8, .ref 9, .ref 10, .ref 11, .null], vm := .statics 12 },
  { cls := 13, slots := #[.null, .null, .null], vm := .statics 13 },
  { cls := 12, slots := #[.null, .int 0, .int 0], vm := .none },
  { cls := 12, slots := #[.null, .int 1, .int 0], vm := .none },
  { cls := 12, slots := #[.null, .int 2, .int 0], vm := .none },
  { cls := 12, slots := #[.null, .int 3, .int 0], vm := .none },
  { cls := 12, slots := #[.null, .int 4, .int 0], vm := .none },
  { cls := 12, slots := #[.null, .int 5, .int 0], vm := .none },
  { cls := 12, slots := #[.null, .int 6, .int 0], vm := .none },
  { cls := 12, slots := #[.null, .int 7, .int 0], vm := .none }]
def classes : Array Class := #[k0, k1, k2, k3, k4, k5, k6, k7, k8, k9, k10, k11, k12, k13, k14, k15, k16, k17, k18, k19, k20, k21, k22]
def interned : List (Array UInt16 × Addr) := []
def slotsUsed : Nat := 47
def theMethod : MethodId := ⟨1, 2⟩
def args0 : Array Value := #[.int 15, .int 1, .int 65, .int 8364, .int 67, .int 16728]
def aboutOver (below : List Frame) : State where
  vm := { classes := classes, interned := interned.toArray }
  heap := heap
  slotsUsed := slotsUsed
  threads := #[{ frames := .invoking theMethod args0 :: below }]
def below0 : List Frame := [.native { method := ⟨0, 0⟩, args := #[] }]
def about1 : State := aboutOver below0
def p0 : Program := .bare "" "" ""
def e0 : Env := launch0.env 0 0 0
theorem w_frames : about1.frames = Frame.invoking theMethod args0 :: below0 := rfl
set_option maxRecDepth 65536 in
theorem w_args : argsFit about1.vm theMethod args0 = true := by decide +kernel
set_option maxRecDepth 65536 in
theorem w_heap : heapFits about1 = true := by decide +kernel
set_option maxRecDepth 65536 in
theorem w_runnable : about1.curStatus? = some .runnable := by decide +kernel
set_option maxRecDepth 65536 in
theorem w_alone : about1.alone = true := by decide +kernel
set_option maxRecDepth 65536 in
theorem w_named : about1.methodNamed? x = some theMethod := by decide +kernel
set_option maxRecDepth 65536 in
theorem w_hears : about1.hears theMethod below0 = true := by decide +kernel
set_option maxRecDepth 65536 in
theorem w_ripe : about1.ripe theMethod args0 below0 = true := by decide +kernel
theorem w_running : about1.status = .running := rfl
set_option maxRecDepth 65536 in
theorem w_room : about1.hasRoom e0.platform room_1 = true :=
  launch0.hasRoom_least _ room_1 (by decide +kernel) (by decide +kernel) (by decide +kernel) (by decide +kernel) (by decide +kernel) (by decide +kernel)
theorem allAtoms_all (ts : List Jvm.Cond) (a : Array Jvm.Value) (st : Jvm.State) : (allAtoms ts).before a st = ts.all (fun c => c.before a st) := by
  induction ts with
  | nil => rfl
  | cons c t ih =>
    show (Jvm.Cond.and c (allAtoms t)).before a st = _
    rw [Jvm.Cond.before_and, ih, List.all_cons]
def words1 : List Jvm.Cond := Jvm.Cond.code x code maxLocals ret :: tables_1
/-- a 'code' word, met by the world's own term for the bytes: nothing is compared byte by byte -/
theorem code_word {y : MethodName} {bytes : ByteArray} {mx : Nat} {rt : Option FieldType} {a : Array Value} {s : State} {m : MethodId} {meth : Method} {c : Code} (h1 : s.methodNamed? y = some m) (h2 : s.vm.method? m = some meth) (h3 : meth.code = some c) (h4 : c.code = bytes)
    (h5 : (c.maxLocals == mx && c.exceptionTable.isEmpty && decide (c.maxStack ≤ mostOperands) && decide (meth.sig.returnType = rt) && !meth.locks && decide (parseMethodDescriptor y.desc = some meth.sig)) = true) : (Jvm.Cond.code y bytes mx rt).before a s = true := by
  simp only [Bool.and_eq_true, beq_iff_eq, Bool.not_eq_true', decide_eq_true_eq] at h5
  obtain ⟨⟨⟨⟨⟨g1, g2⟩, g3⟩, g4⟩, g5⟩, g6⟩ := h5
  simp [Cond.before, Cond.holds, Cond.value, h1, h2, h3, h4, g1, g2, g3, g4, g5, g6]
def isCode : Jvm.Cond → Bool
  | .code _ _ _ _ => true
  | _ => false
theorem all_split {L : List Jvm.Cond} {P : Jvm.Cond → Bool} (h1 : L.all (fun c => isCode c || P c) = true) (h2 : ∀ c ∈ L.filter isCode, P c = true) : L.all P = true := by
  refine List.all_eq_true.mpr fun c hc => ?_
  have h := List.all_eq_true.mp h1 c hc
  rcases Bool.eq_false_or_eq_true (isCode c) with hi | hi
  · exact h2 c (List.mem_filter.mpr ⟨hc, hi⟩)
  · simpa [hi] using h
set_option maxRecDepth 65536 in
theorem w_c0 : (Jvm.Cond.code x code maxLocals ret).before args0 about1 = true := code_word (m := ⟨1, 2⟩) (meth := k1m2) (c := k1c2) (by decide +kernel) rfl rfl rfl (by decide +kernel)
set_option maxRecDepth 65536 in
theorem w_c1 : (Jvm.Cond.code ({ cls := "java/lang/String", name := "<init>", desc := "([C)V" } : Jvm.MethodName) jdk_42_method_3_code (2 : Nat) (Option.none : Option Jvm.ClassFile.FieldType)).before args0 about1 = true := code_word (m := ⟨7, 1⟩) (meth := k7m1) (c := k7c1) (by decide +kernel) rfl rfl rfl (by decide +kernel)
set_option maxRecDepth 65536 in
theorem w_c2 : (Jvm.Cond.code ({ cls := "java/lang/String", name := "<init>", desc := "([CIILjava/lang/Void;)V" } : Jvm.MethodName) jdk_42_method_149_code (6 : Nat) (Option.none : Option Jvm.ClassFile.FieldType)).before args0 about1 = true := code_word (m := ⟨7, 3⟩) (meth := k7m3) (c := k7c3) (by decide +kernel) rfl rfl rfl (by decide +kernel)
set_option maxRecDepth 65536 in
theorem w_c3 : (Jvm.Cond.code ({ cls := "java/lang/Object", name := "<init>", desc := "()V" } : Jvm.MethodName) object_method_1_code (1 : Nat) (Option.none : Option Jvm.ClassFile.FieldType)).before args0 about1 = true := code_word (m := ⟨0, 0⟩) (meth := k0m0) (c := k0c0) (by decide +kernel) rfl rfl rfl (by decide +kernel)
set_option maxRecDepth 65536 in
theorem w_c4 : (Jvm.Cond.code ({ cls := "java/lang/StringUTF16", name := "compress", desc := "([CII)[B" } : Jvm.MethodName) jdk_52_method_16_code (6 : Nat) (Option.some (Jvm.ClassFile.FieldType.array Jvm.ClassFile.FieldType.byte))).before args0 about1 = true := code_word (m := ⟨8, 8⟩) (meth := k8m8) (c := k8c8) (by decide +kernel) rfl rfl rfl (by decide +kernel)
set_option maxRecDepth 65536 in
theorem w_c5 : (Jvm.Cond.code ({ cls := "java/lang/StringUTF16", name := "compress", desc := "([CI[BII)I" } : Jvm.MethodName) jdk_52_method_21_code (7 : Nat) (Option.some Jvm.ClassFile.FieldType.int)).before args0 about1 = true := code_word (m := ⟨8, 9⟩) (meth := k8m9) (c := k8c9) (by decide +kernel) rfl rfl rfl (by decide +kernel)
set_option maxRecDepth 65536 in
theorem w_c6 : (Jvm.Cond.code ({ cls := "java/lang/StringUTF16", name := "coderFromArrayLen", desc := "([BI)B" } : Jvm.MethodName) jdk_52_method_15_code (2 : Nat) (Option.some Jvm.ClassFile.FieldType.byte)).before args0 about1 = true := code_word (m := ⟨8, 7⟩) (meth := k8m7) (c := k8c7) (by decide +kernel) rfl rfl rfl (by decide +kernel)
set_option maxRecDepth 65536 in
theorem w_c7 : (Jvm.Cond.code ({ cls := "java/lang/Math", name := "min", desc := "(II)I" } : Jvm.MethodName) jdk_29_method_69_code (2 : Nat) (Option.some Jvm.ClassFile.FieldType.int)).before args0 about1 = true := code_word (m := ⟨9, 1⟩) (meth := k9m1) (c := k9c1) (by decide +kernel) rfl rfl rfl (by decide +kernel)
set_option maxRecDepth 65536 in
theorem w_c8 : (Jvm.Cond.code ({ cls := "com/example/updatable_views/updatableviews/SqlTokenIsSymbolPinLaw", name := "kindOf", desc := "(I)Lcom/example/updatable_views/updatableviews/SqlToken$Kind;" } : Jvm.MethodName) method_2_code (1 : Nat) (Option.some (Jvm.ClassFile.FieldType.object "com/example/updatable_views/updatableviews/SqlToken$Kind"))).before args0 about1 = true := code_word (m := ⟨1, 1⟩) (meth := k1m1) (c := k1c1) (by decide +kernel) rfl rfl rfl (by decide +kernel)
set_option maxRecDepth 65536 in
theorem w_c9 : (Jvm.Cond.code ({ cls := "com/example/updatable_views/updatableviews/SqlToken", name := "<init>", desc := "(Lcom/example/updatable_views/updatableviews/SqlToken$Kind;II)V" } : Jvm.MethodName) prog_10_method_1_code (4 : Nat) (Option.none : Option Jvm.ClassFile.FieldType)).before args0 about1 = true := code_word (m := ⟨10, 0⟩) (meth := k10m0) (c := k10c0) (by decide +kernel) rfl rfl rfl (by decide +kernel)
set_option maxRecDepth 65536 in
theorem w_c10 : (Jvm.Cond.code ({ cls := "com/example/updatable_views/updatableviews/SqlToken", name := "isSymbol", desc := "(Ljava/lang/CharSequence;C)Z" } : Jvm.MethodName) prog_10_method_6_code (3 : Nat) (Option.some Jvm.ClassFile.FieldType.boolean)).before args0 about1 = true := code_word (m := ⟨10, 1⟩) (meth := k10m1) (c := k10c1) (by decide +kernel) rfl rfl rfl (by decide +kernel)
set_option maxRecDepth 65536 in
theorem w_c11 : (Jvm.Cond.code ({ cls := "java/lang/StringUTF16", name := "toBytes", desc := "([CII)[B" } : Jvm.MethodName) jdk_52_method_14_code (5 : Nat) (Option.some (Jvm.ClassFile.FieldType.array Jvm.ClassFile.FieldType.byte))).before args0 about1 = true := code_word (m := ⟨8, 6⟩) (meth := k8m6) (c := k8c6) (by decide +kernel) rfl rfl rfl (by decide +kernel)
set_option maxRecDepth 65536 in
theorem w_c12 : (Jvm.Cond.code ({ cls := "java/lang/StringUTF16", name := "newBytesFor", desc := "(I)[B" } : Jvm.MethodName) jdk_52_method_2_code (1 : Nat) (Option.some (Jvm.ClassFile.FieldType.array Jvm.ClassFile.FieldType.byte))).before args0 about1 = true := code_word (m := ⟨8, 1⟩) (meth := k8m1) (c := k8c1) (by decide +kernel) rfl rfl rfl (by decide +kernel)
set_option maxRecDepth 65536 in
theorem w_c13 : (Jvm.Cond.code ({ cls := "java/lang/StringUTF16", name := "newBytesLength", desc := "(I)I" } : Jvm.MethodName) jdk_52_method_3_code (1 : Nat) (Option.some Jvm.ClassFile.FieldType.int)).before args0 about1 = true := code_word (m := ⟨8, 2⟩) (meth := k8m2) (c := k8c2) (by decide +kernel) rfl rfl rfl (by decide +kernel)
set_option maxRecDepth 65536 in
theorem w_c14 : (Jvm.Cond.code ({ cls := "java/lang/StringUTF16", name := "putChar", desc := "([BII)V" } : Jvm.MethodName) jdk_52_method_4_code (3 : Nat) (Option.none : Option Jvm.ClassFile.FieldType)).before args0 about1 = true := code_word (m := ⟨8, 3⟩) (meth := k8m3) (c := k8c3) (by decide +kernel) rfl rfl rfl (by decide +kernel)
set_option maxRecDepth 65536 in
theorem w_c15 : (Jvm.Cond.code ({ cls := "java/lang/StringUTF16", name := "getChar", desc := "([BI)C" } : Jvm.MethodName) jdk_52_method_5_code (2 : Nat) (Option.some Jvm.ClassFile.FieldType.char)).before args0 about1 = true := code_word (m := ⟨8, 4⟩) (meth := k8m4) (c := k8c4) (by decide +kernel) rfl rfl rfl (by decide +kernel)
set_option maxRecDepth 65536 in
theorem w_c16 : (Jvm.Cond.code ({ cls := "java/lang/String", name := "charAt", desc := "(I)C" } : Jvm.MethodName) jdk_42_method_56_code (2 : Nat) (Option.some Jvm.ClassFile.FieldType.char)).before args0 about1 = true := code_word (m := ⟨7, 2⟩) (meth := k7m2) (c := k7c2) (by decide +kernel) rfl rfl rfl (by decide +kernel)
set_option maxRecDepth 65536 in
theorem w_c17 : (Jvm.Cond.code ({ cls := "java/lang/String", name := "isLatin1", desc := "()Z" } : Jvm.MethodName) jdk_42_method_154_code (1 : Nat) (Option.some Jvm.ClassFile.FieldType.boolean)).before args0 about1 = true := code_word (m := ⟨7, 4⟩) (meth := k7m4) (c := k7c4) (by decide +kernel) rfl rfl rfl (by decide +kernel)
set_option maxRecDepth 65536 in
theorem w_c18 : (Jvm.Cond.code ({ cls := "java/lang/StringUTF16", name := "charAt", desc := "([BI)C" } : Jvm.MethodName) jdk_52_method_83_code (2 : Nat) (Option.some Jvm.ClassFile.FieldType.char)).before args0 about1 = true := code_word (m := ⟨8, 10⟩) (meth := k8m10) (c := k8c10) (by decide +kernel) rfl rfl rfl (by decide +kernel)
set_option maxRecDepth 65536 in
theorem w_c19 : (Jvm.Cond.code ({ cls := "java/lang/StringUTF16", name := "checkIndex", desc := "(I[B)V" } : Jvm.MethodName) jdk_52_method_91_code (2 : Nat) (Option.none : Option Jvm.ClassFile.FieldType)).before args0 about1 = true := code_word (m := ⟨8, 11⟩) (meth := k8m11) (c := k8c11) (by decide +kernel) rfl rfl rfl (by decide +kernel)
set_option maxRecDepth 65536 in
theorem w_c20 : (Jvm.Cond.code ({ cls := "java/lang/StringUTF16", name := "length", desc := "([B)I" } : Jvm.MethodName) jdk_52_method_6_code (1 : Nat) (Option.some Jvm.ClassFile.FieldType.int)).before args0 about1 = true := code_word (m := ⟨8, 5⟩) (meth := k8m5) (c := k8c5) (by decide +kernel) rfl rfl rfl (by decide +kernel)
set_option maxRecDepth 65536 in
theorem w_c21 : (Jvm.Cond.code ({ cls := "java/lang/String", name := "checkIndex", desc := "(II)V" } : Jvm.MethodName) jdk_42_method_155_code (2 : Nat) (Option.none : Option Jvm.ClassFile.FieldType)).before args0 about1 = true := code_word (m := ⟨7, 5⟩) (meth := k7m5) (c := k7c5) (by decide +kernel) rfl rfl rfl (by decide +kernel)
set_option maxRecDepth 65536 in
theorem w_c22 : (Jvm.Cond.code ({ cls := "jdk/internal/util/Preconditions", name := "checkIndex", desc := "(IILjava/util/function/BiFunction;)I" } : Jvm.MethodName) jdk_41_method_11_code (3 : Nat) (Option.some Jvm.ClassFile.FieldType.int)).before args0 about1 = true := code_word (m := ⟨13, 1⟩) (meth := k13m1) (c := k13c1) (by decide +kernel) rfl rfl rfl (by decide +kernel)
set_option maxRecDepth 65536 in
theorem w_c23 : (Jvm.Cond.code ({ cls := "java/lang/StringLatin1", name := "charAt", desc := "([BI)C" } : Jvm.MethodName) jdk_43_method_2_code (2 : Nat) (Option.some Jvm.ClassFile.FieldType.char)).before args0 about1 = true := code_word (m := ⟨14, 1⟩) (meth := k14m1) (c := k14c1) (by decide +kernel) rfl rfl rfl (by decide +kernel)
def codes1 : List Jvm.Cond := [Jvm.Cond.code x code maxLocals ret, Jvm.Cond.code ({ cls := "java/lang/String", name := "<init>", desc := "([C)V" } : Jvm.MethodName) jdk_42_method_3_code (2 : Nat) (Option.none : Option Jvm.ClassFile.FieldType), Jvm.Cond.code ({ cls := "java/lang/String", name := "<init>", desc := "([CIILjava/lang/Void;)V" } : Jvm.MethodName) jdk_42_method_149_code (6 : Nat) (Option.none : Option Jvm.ClassFile.FieldType), Jvm.Cond.code ({ cls := "java/lang/Object", name := "<init>", desc := "()V" } : Jvm.MethodName) object_method_1_code (1 : Nat) (Option.none : Option Jvm.ClassFile.FieldType), Jvm.Cond.code ({ cls := "java/lang/StringUTF16", name := "compress", desc := "([CII)[B" } : Jvm.MethodName) jdk_52_method_16_code (6 : Nat) (Option.some (Jvm.ClassFile.FieldType.array Jvm.ClassFile.FieldType.byte)), Jvm.Cond.code ({ cls := "java/lang/StringUTF16", name := "compress", desc := "([CI[BII)I" } : Jvm.MethodName) jdk_52_method_21_code (7 : Nat) (Option.some Jvm.ClassFile.FieldType.int), Jvm.Cond.code ({ cls := "java/lang/StringUTF16", name := "coderFromArrayLen", desc := "([BI)B" } : Jvm.MethodName) jdk_52_method_15_code (2 : Nat) (Option.some Jvm.ClassFile.FieldType.byte), Jvm.Cond.code ({ cls := "java/lang/Math", name := "min", desc := "(II)I" } : Jvm.MethodName) jdk_29_method_69_code (2 : Nat) (Option.some Jvm.ClassFile.FieldType.int), Jvm.Cond.code ({ cls := "com/example/updatable_views/updatableviews/SqlTokenIsSymbolPinLaw", name := "kindOf", desc := "(I)Lcom/example/updatable_views/updatableviews/SqlToken$Kind;" } : Jvm.MethodName) method_2_code (1 : Nat) (Option.some (Jvm.ClassFile.FieldType.object "com/example/updatable_views/updatableviews/SqlToken$Kind")), Jvm.Cond.code ({ cls := "com/example/updatable_views/updatableviews/SqlToken", name := "<init>", desc := "(Lcom/example/updatable_views/updatableviews/SqlToken$Kind;II)V" } : Jvm.MethodName) prog_10_method_1_code (4 : Nat) (Option.none : Option Jvm.ClassFile.FieldType), Jvm.Cond.code ({ cls := "com/example/updatable_views/updatableviews/SqlToken", name := "isSymbol", desc := "(Ljava/lang/CharSequence;C)Z" } : Jvm.MethodName) prog_10_method_6_code (3 : Nat) (Option.some Jvm.ClassFile.FieldType.boolean), Jvm.Cond.code ({ cls := "java/lang/StringUTF16", name := "toBytes", desc := "([CII)[B" } : Jvm.MethodName) jdk_52_method_14_code (5 : Nat) (Option.some (Jvm.ClassFile.FieldType.array Jvm.ClassFile.FieldType.byte)), Jvm.Cond.code ({ cls := "java/lang/StringUTF16", name := "newBytesFor", desc := "(I)[B" } : Jvm.MethodName) jdk_52_method_2_code (1 : Nat) (Option.some (Jvm.ClassFile.FieldType.array Jvm.ClassFile.FieldType.byte)), Jvm.Cond.code ({ cls := "java/lang/StringUTF16", name := "newBytesLength", desc := "(I)I" } : Jvm.MethodName) jdk_52_method_3_code (1 : Nat) (Option.some Jvm.ClassFile.FieldType.int), Jvm.Cond.code ({ cls := "java/lang/StringUTF16", name := "putChar", desc := "([BII)V" } : Jvm.MethodName) jdk_52_method_4_code (3 : Nat) (Option.none : Option Jvm.ClassFile.FieldType), Jvm.Cond.code ({ cls := "java/lang/StringUTF16", name := "getChar", desc := "([BI)C" } : Jvm.MethodName) jdk_52_method_5_code (2 : Nat) (Option.some Jvm.ClassFile.FieldType.char), Jvm.Cond.code ({ cls := "java/lang/String", name := "charAt", desc := "(I)C" } : Jvm.MethodName) jdk_42_method_56_code (2 : Nat) (Option.some Jvm.ClassFile.FieldType.char), Jvm.Cond.code ({ cls := "java/lang/String", name := "isLatin1", desc := "()Z" } : Jvm.MethodName) jdk_42_method_154_code (1 : Nat) (Option.some Jvm.ClassFile.FieldType.boolean), Jvm.Cond.code ({ cls := "java/lang/StringUTF16", name := "charAt", desc := "([BI)C" } : Jvm.MethodName) jdk_52_method_83_code (2 : Nat) (Option.some Jvm.ClassFile.FieldType.char), Jvm.Cond.code ({ cls := "java/lang/StringUTF16", name := "checkIndex", desc := "(I[B)V" } : Jvm.MethodName) jdk_52_method_91_code (2 : Nat) (Option.none : Option Jvm.ClassFile.FieldType), Jvm.Cond.code ({ cls := "java/lang/StringUTF16", name := "length", desc := "([B)I" } : Jvm.MethodName) jdk_52_method_6_code (1 : Nat) (Option.some Jvm.ClassFile.FieldType.int), Jvm.Cond.code ({ cls := "java/lang/String", name := "checkIndex", desc := "(II)V" } : Jvm.MethodName) jdk_42_method_155_code (2 : Nat) (Option.none : Option Jvm.ClassFile.FieldType), Jvm.Cond.code ({ cls := "jdk/internal/util/Preconditions", name := "checkIndex", desc := "(IILjava/util/function/BiFunction;)I" } : Jvm.MethodName) jdk_41_method_11_code (3 : Nat) (Option.some Jvm.ClassFile.FieldType.int), Jvm.Cond.code ({ cls := "java/lang/StringLatin1", name := "charAt", desc := "([BI)C" } : Jvm.MethodName) jdk_43_method_2_code (2 : Nat) (Option.some Jvm.ClassFile.FieldType.char)]
set_option maxRecDepth 65536 in
theorem codes_eq : words1.filter isCode = codes1 := rfl
theorem w_codes : ∀ c ∈ words1.filter isCode, c.before args0 about1 = true := by
  rw [codes_eq]
  intro c hc
  simp only [codes1, List.mem_cons, List.not_mem_nil, or_false] at hc
  rcases hc with rfl | rfl | rfl | rfl | rfl | rfl | rfl | rfl | rfl | rfl | rfl | rfl | rfl | rfl | rfl | rfl | rfl | rfl | rfl | rfl | rfl | rfl | rfl | rfl
  · exact w_c0
  · exact w_c1
  · exact w_c2
  · exact w_c3
  · exact w_c4
  · exact w_c5
  · exact w_c6
  · exact w_c7
  · exact w_c8
  · exact w_c9
  · exact w_c10
  · exact w_c11
  · exact w_c12
  · exact w_c13
  · exact w_c14
  · exact w_c15
  · exact w_c16
  · exact w_c17
  · exact w_c18
  · exact w_c19
  · exact w_c20
  · exact w_c21
  · exact w_c22
  · exact w_c23
set_option maxRecDepth 65536 in
theorem w_t1 : (words1.take 24).all (fun c => isCode c || c.before args0 about1) = true := by decide +kernel
set_option maxRecDepth 65536 in
theorem w_t2 : ((words1.drop 24).take 24).all (fun c => isCode c || c.before args0 about1) = true := by decide +kernel
set_option maxRecDepth 65536 in
theorem w_t3 : (((words1.drop 24).drop 24).take 24).all (fun c => isCode c || c.before args0 about1) = true := by decide +kernel
set_option maxRecDepth 65536 in
theorem w_t4 : ((((words1.drop 24).drop 24).drop 24).take 24).all (fun c => isCode c || c.before args0 about1) = true := by decide +kernel
set_option maxRecDepth 65536 in
theorem w_t5 : (((((words1.drop 24).drop 24).drop 24).drop 24).take 24).all (fun c => isCode c || c.before args0 about1) = true := by decide +kernel
set_option maxRecDepth 65536 in
theorem w_t6 : (((((words1.drop 24).drop 24).drop 24).drop 24).drop 24).all (fun c => isCode c || c.before args0 about1) = true := by decide +kernel
theorem w_tables : (allAtoms (Jvm.Cond.code x code maxLocals ret :: tables_1)).before args0 about1 = true := by
  rw [allAtoms_all]
  show words1.all (fun c => c.before args0 about1) = true
  refine all_split ?_ w_codes
  rw [← List.take_append_drop 24 words1, List.all_append, w_t1, ← List.take_append_drop 24 (words1.drop 24), List.all_append, w_t2, ← List.take_append_drop 24 ((words1.drop 24).drop 24), List.all_append, w_t3, ← List.take_append_drop 24 (((words1.drop 24).drop 24).drop 24), List.all_append, w_t4, ← List.take_append_drop 24 ((((words1.drop 24).drop 24).drop 24).drop 24), List.all_append, w_t5, w_t6]
  rfl
set_option maxRecDepth 65536 in
theorem w_rest : rest_1_c.before args0 about1 = true := by decide +kernel
set_option maxRecDepth 65536 in
theorem w_case : (Jvm.Cond.and given_1 narrow_1).before args0 about1 = true := by decide +kernel
theorem w_applies : (headSpec (Jvm.Cond.code x code maxLocals ret :: tables_1) room_1).applies x e0.platform about1 = true :=
  (Spec.applies_iff w_frames).mpr ⟨w_running, w_runnable, w_alone, w_named, w_hears, w_ripe, w_room, w_tables⟩
theorem atStart : AtStart classFile x code maxLocals ret World_1 tables_1 room_1 Calls_1 rest_1 Pre_1 launch0 p0 e0 about1 theMethod args0 below0 :=
  ⟨lists_1, trivial, launch0.admits_env _ _ _, launch0.least_env, fairChoices_fair.cas, fairChoices_fair.clock, w_frames, w_args, w_heap, w_applies, trivial, w_rest, w_case⟩
end start1
theorem witness_1 : WitnessClaimed_1 := ⟨start1.p0, start1.e0, start1.about1, start1.theMethod, start1.args0, start1.below0, start1.atStart⟩
end Jvm.Pilot.@@N@@
