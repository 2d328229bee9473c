import JvmDerived
import JvmDerived.Pilot.@@N@@Statement
import JvmDerived.Pilot.@@N@@Code
set_option linter.unusedVariables false
set_option linter.unusedSimpArgs false
namespace Jvm.Pilot.@@N@@
open Jvm Jvm.ClassFile Sem Op Lib Jvm.Free Jvm.Stand Jvm.LawKit Jvm.RoadKit Bundle Jvm.Pilot.@@N@@.Jvm.D
section OwnBase
def Gets (tb : Tables) (e : Env) (below : List Frame) (P : Outcome → State → Prop) (T : State) (g : JFrame) : Prop := ∃ t o, Steps tb e below (T.setTop g) t ∧ t.status = .running ∧ Ended t below o ∧ P o t
theorem Gets.by {tb : Tables} {e : Env} {below : List Frame} {P : Outcome → State → Prop} {T T' : State} {g g' : JFrame} (h : Gets tb e below P T' g') (k : ∀ t, Steps tb e below (T'.setTop g') t → Steps tb e below (T.setTop g) t) : Gets tb e below P T g := by
  obtain ⟨t, o, h1, h2⟩ := h
  exact ⟨t, o, k t h1, h2⟩
theorem g_iloadN {tb : Tables} [Ours tb] {e : Env} {below : List Frame} {T : State} {m : MethodId} {c : Code} {P : Outcome → State → Prop} {pc pc' : Nat} {Ls : Array Slot} {st : List Value} {j : Fin 4} {v : Int32} (H : At T m c below) (hx : tb.exec = Jvm.exec) (hd : decode c.code pc = .ok (.iload_n j, 1)) (hl : Ls[j.val]? = some (.val (.int v))) (hp : pc + 1 = pc')
    (k : Gets tb e below P T (mkF m pc' Ls (.int v :: st))) : Gets tb e below P T (mkF m pc Ls (st)) := by
  subst hp; refine k.by fun t qq => ?_; exact XS.iloadN H hx rfl hd hl qq
theorem g_iload {tb : Tables} [Ours tb] {e : Env} {below : List Frame} {T : State} {m : MethodId} {c : Code} {P : Outcome → State → Prop} {pc pc' : Nat} {Ls : Array Slot} {st : List Value} {j : Nat} {v : Int32} (H : At T m c below) (hx : tb.exec = Jvm.exec) (hd : decode c.code pc = .ok (.iload j, 2)) (hl : Ls[j]? = some (.val (.int v))) (hp : pc + 2 = pc')
    (k : Gets tb e below P T (mkF m pc' Ls (.int v :: st))) : Gets tb e below P T (mkF m pc Ls (st)) := by
  subst hp; refine k.by fun t qq => ?_; exact XS.iload H hx rfl hd hl qq
theorem g_istoreN {tb : Tables} [Ours tb] {e : Env} {below : List Frame} {T : State} {m : MethodId} {c : Code} {P : Outcome → State → Prop} {pc pc' : Nat} {Ls : Array Slot} {st : List Value} {j : Fin 4} {v : Int32} {Ls' : Array Slot} (H : At T m c below) (hx : tb.exec = Jvm.exec) (hd : decode c.code pc = .ok (.istore_n j, 1)) (hl : storeLocals Ls j.val (.int v) = some Ls') (hp : pc + 1 = pc')
    (k : Gets tb e below P T (mkF m pc' Ls' (st))) : Gets tb e below P T (mkF m pc Ls (.int v :: st)) := by
  subst hp; refine k.by fun t qq => ?_; exact XS.istoreN H hx rfl hd rfl hl qq
theorem g_istore {tb : Tables} [Ours tb] {e : Env} {below : List Frame} {T : State} {m : MethodId} {c : Code} {P : Outcome → State → Prop} {pc pc' : Nat} {Ls : Array Slot} {st : List Value} {j : Nat} {v : Int32} {Ls' : Array Slot} (H : At T m c below) (hx : tb.exec = Jvm.exec) (hd : decode c.code pc = .ok (.istore j, 2)) (hl : storeLocals Ls j (.int v) = some Ls') (hp : pc + 2 = pc')
    (k : Gets tb e below P T (mkF m pc' Ls' (st))) : Gets tb e below P T (mkF m pc Ls (.int v :: st)) := by
  subst hp; refine k.by fun t qq => ?_; exact XS.istore H hx rfl hd rfl hl qq
theorem g_lloadN {tb : Tables} [Ours tb] {e : Env} {below : List Frame} {T : State} {m : MethodId} {c : Code} {P : Outcome → State → Prop} {pc pc' : Nat} {Ls : Array Slot} {st : List Value} {j : Fin 4} {v : Int64} (H : At T m c below) (hx : tb.exec = Jvm.exec) (hd : decode c.code pc = .ok (.lload_n j, 1)) (hl : Ls[j.val]? = some (.val (.long v))) (hp : pc + 1 = pc')
    (k : Gets tb e below P T (mkF m pc' Ls (.long v :: st))) : Gets tb e below P T (mkF m pc Ls (st)) := by
  subst hp; refine k.by fun t qq => ?_; exact XS.lloadN H hx rfl hd hl qq
theorem g_lload {tb : Tables} [Ours tb] {e : Env} {below : List Frame} {T : State} {m : MethodId} {c : Code} {P : Outcome → State → Prop} {pc pc' : Nat} {Ls : Array Slot} {st : List Value} {j : Nat} {v : Int64} (H : At T m c below) (hx : tb.exec = Jvm.exec) (hd : decode c.code pc = .ok (.lload j, 2)) (hl : Ls[j]? = some (.val (.long v))) (hp : pc + 2 = pc')
    (k : Gets tb e below P T (mkF m pc' Ls (.long v :: st))) : Gets tb e below P T (mkF m pc Ls (st)) := by
  subst hp; refine k.by fun t qq => ?_; exact XS.lload H hx rfl hd hl qq
theorem g_lstoreN {tb : Tables} [Ours tb] {e : Env} {below : List Frame} {T : State} {m : MethodId} {c : Code} {P : Outcome → State → Prop} {pc pc' : Nat} {Ls : Array Slot} {st : List Value} {j : Fin 4} {v : Int64} {Ls' : Array Slot} (H : At T m c below) (hx : tb.exec = Jvm.exec) (hd : decode c.code pc = .ok (.lstore_n j, 1)) (hl : storeLocals Ls j.val (.long v) = some Ls') (hp : pc + 1 = pc')
    (k : Gets tb e below P T (mkF m pc' Ls' (st))) : Gets tb e below P T (mkF m pc Ls (.long v :: st)) := by
  subst hp; refine k.by fun t qq => ?_; exact XS.lstoreN H hx rfl hd rfl hl qq
theorem g_lstore {tb : Tables} [Ours tb] {e : Env} {below : List Frame} {T : State} {m : MethodId} {c : Code} {P : Outcome → State → Prop} {pc pc' : Nat} {Ls : Array Slot} {st : List Value} {j : Nat} {v : Int64} {Ls' : Array Slot} (H : At T m c below) (hx : tb.exec = Jvm.exec) (hd : decode c.code pc = .ok (.lstore j, 2)) (hl : storeLocals Ls j (.long v) = some Ls') (hp : pc + 2 = pc')
    (k : Gets tb e below P T (mkF m pc' Ls' (st))) : Gets tb e below P T (mkF m pc Ls (.long v :: st)) := by
  subst hp; refine k.by fun t qq => ?_; exact XS.lstore H hx rfl hd rfl hl qq
theorem g_aloadN {tb : Tables} [Ours tb] {e : Env} {below : List Frame} {T : State} {m : MethodId} {c : Code} {P : Outcome → State → Prop} {pc pc' : Nat} {Ls : Array Slot} {st : List Value} {j : Fin 4} {v : Value} (H : At T m c below) (hx : tb.exec = Jvm.exec) (hd : decode c.code pc = .ok (.aload_n j, 1)) (hl : Ls[j.val]? = some (.val v)) (hv : v.isRef = true) (hp : pc + 1 = pc')
    (k : Gets tb e below P T (mkF m pc' Ls (v :: st))) : Gets tb e below P T (mkF m pc Ls (st)) := by
  subst hp; refine k.by fun t qq => ?_; exact XS.aloadN H hx rfl hd hl hv qq
theorem g_aload {tb : Tables} [Ours tb] {e : Env} {below : List Frame} {T : State} {m : MethodId} {c : Code} {P : Outcome → State → Prop} {pc pc' : Nat} {Ls : Array Slot} {st : List Value} {j : Nat} {v : Value} (H : At T m c below) (hx : tb.exec = Jvm.exec) (hd : decode c.code pc = .ok (.aload j, 2)) (hl : Ls[j]? = some (.val v)) (hv : v.isRef = true) (hp : pc + 2 = pc')
    (k : Gets tb e below P T (mkF m pc' Ls (v :: st))) : Gets tb e below P T (mkF m pc Ls (st)) := by
  subst hp; refine k.by fun t qq => ?_; exact XS.aload H hx rfl hd hl hv qq
theorem g_astoreN {tb : Tables} [Ours tb] {e : Env} {below : List Frame} {T : State} {m : MethodId} {c : Code} {P : Outcome → State → Prop} {pc pc' : Nat} {Ls : Array Slot} {st : List Value} {j : Fin 4} {v : Value} {Ls' : Array Slot} (H : At T m c below) (hx : tb.exec = Jvm.exec) (hd : decode c.code pc = .ok (.astore_n j, 1)) (hv : v.isRef = true) (hl : storeLocals Ls j.val v = some Ls') (hp : pc + 1 = pc')
    (k : Gets tb e below P T (mkF m pc' Ls' (st))) : Gets tb e below P T (mkF m pc Ls (v :: st)) := by
  subst hp; refine k.by fun t qq => ?_; exact XS.astoreN H hx rfl hd rfl hv hl qq
theorem g_astore {tb : Tables} [Ours tb] {e : Env} {below : List Frame} {T : State} {m : MethodId} {c : Code} {P : Outcome → State → Prop} {pc pc' : Nat} {Ls : Array Slot} {st : List Value} {j : Nat} {v : Value} {Ls' : Array Slot} (H : At T m c below) (hx : tb.exec = Jvm.exec) (hd : decode c.code pc = .ok (.astore j, 2)) (hv : v.isRef = true) (hl : storeLocals Ls j v = some Ls') (hp : pc + 2 = pc')
    (k : Gets tb e below P T (mkF m pc' Ls' (st))) : Gets tb e below P T (mkF m pc Ls (v :: st)) := by
  subst hp; refine k.by fun t qq => ?_; exact XS.astore H hx rfl hd rfl hv hl qq
theorem g_iconst {tb : Tables} [Ours tb] {e : Env} {below : List Frame} {T : State} {m : MethodId} {c : Code} {P : Outcome → State → Prop} {pc pc' : Nat} {Ls : Array Slot} {st : List Value} {i : Int} (v : Int32) (H : At T m c below) (hx : tb.exec = Jvm.exec) (hd : decode c.code pc = .ok (.iconst i, 1)) (hv : Int32.ofInt i = v) (hp : pc + 1 = pc')
    (k : Gets tb e below P T (mkF m pc' Ls (.int v :: st))) : Gets tb e below P T (mkF m pc Ls st) := by
  subst hp; subst hv; refine k.by fun t qq => ?_; exact XS.iconst H hx rfl hd qq
theorem g_bipush {tb : Tables} [Ours tb] {e : Env} {below : List Frame} {T : State} {m : MethodId} {c : Code} {P : Outcome → State → Prop} {pc pc' : Nat} {Ls : Array Slot} {st : List Value} {i : Int} (v : Int32) (H : At T m c below) (hx : tb.exec = Jvm.exec) (hd : decode c.code pc = .ok (.bipush i, 2)) (hv : (Int8.ofInt i).toInt32 = v) (hp : pc + 2 = pc')
    (k : Gets tb e below P T (mkF m pc' Ls (.int v :: st))) : Gets tb e below P T (mkF m pc Ls st) := by
  subst hp; subst hv; refine k.by fun t qq => ?_; exact XS.bipush H hx rfl hd qq
theorem g_sipush {tb : Tables} [Ours tb] {e : Env} {below : List Frame} {T : State} {m : MethodId} {c : Code} {P : Outcome → State → Prop} {pc pc' : Nat} {Ls : Array Slot} {st : List Value} {i : Int} (v : Int32) (H : At T m c below) (hx : tb.exec = Jvm.exec) (hd : decode c.code pc = .ok (.sipush i, 3)) (hv : (Int16.ofInt i).toInt32 = v) (hp : pc + 3 = pc')
    (k : Gets tb e below P T (mkF m pc' Ls (.int v :: st))) : Gets tb e below P T (mkF m pc Ls st) := by
  subst hp; subst hv; refine k.by fun t qq => ?_; exact XS.sipush H hx rfl hd qq
theorem g_aconstNull {tb : Tables} [Ours tb] {e : Env} {below : List Frame} {T : State} {m : MethodId} {c : Code} {P : Outcome → State → Prop} {pc pc' : Nat} {Ls : Array Slot} {st : List Value}  (H : At T m c below) (hx : tb.exec = Jvm.exec) (hd : decode c.code pc = .ok (.aconst_null, 1))  (hp : pc + 1 = pc')
    (k : Gets tb e below P T (mkF m pc' Ls (.null :: st))) : Gets tb e below P T (mkF m pc Ls (st)) := by
  subst hp; refine k.by fun t qq => ?_; exact XS.aconstNull H hx rfl hd  qq
theorem g_iadd {tb : Tables} [Ours tb] {e : Env} {below : List Frame} {T : State} {m : MethodId} {c : Code} {P : Outcome → State → Prop} {pc pc' : Nat} {Ls : Array Slot} {st : List Value} {x y : Int32} (H : At T m c below) (hx : tb.exec = Jvm.exec) (hd : decode c.code pc = .ok (.iadd, 1))  (hp : pc + 1 = pc')
    (k : Gets tb e below P T (mkF m pc' Ls (.int (x + y) :: st))) : Gets tb e below P T (mkF m pc Ls (.int y :: .int x :: st)) := by
  subst hp; refine k.by fun t qq => ?_; exact XS.iadd H hx rfl hd rfl qq
theorem g_isub {tb : Tables} [Ours tb] {e : Env} {below : List Frame} {T : State} {m : MethodId} {c : Code} {P : Outcome → State → Prop} {pc pc' : Nat} {Ls : Array Slot} {st : List Value} {x y : Int32} (H : At T m c below) (hx : tb.exec = Jvm.exec) (hd : decode c.code pc = .ok (.isub, 1))  (hp : pc + 1 = pc')
    (k : Gets tb e below P T (mkF m pc' Ls (.int (x - y) :: st))) : Gets tb e below P T (mkF m pc Ls (.int y :: .int x :: st)) := by
  subst hp; refine k.by fun t qq => ?_; exact XS.isub H hx rfl hd rfl qq
theorem g_imul {tb : Tables} [Ours tb] {e : Env} {below : List Frame} {T : State} {m : MethodId} {c : Code} {P : Outcome → State → Prop} {pc pc' : Nat} {Ls : Array Slot} {st : List Value} {x y : Int32} (H : At T m c below) (hx : tb.exec = Jvm.exec) (hd : decode c.code pc = .ok (.imul, 1))  (hp : pc + 1 = pc')
    (k : Gets tb e below P T (mkF m pc' Ls (.int (x * y) :: st))) : Gets tb e below P T (mkF m pc Ls (.int y :: .int x :: st)) := by
  subst hp; refine k.by fun t qq => ?_; exact XS.imul H hx rfl hd rfl qq
theorem g_iand {tb : Tables} [Ours tb] {e : Env} {below : List Frame} {T : State} {m : MethodId} {c : Code} {P : Outcome → State → Prop} {pc pc' : Nat} {Ls : Array Slot} {st : List Value} {x y : Int32} (H : At T m c below) (hx : tb.exec = Jvm.exec) (hd : decode c.code pc = .ok (.iand, 1))  (hp : pc + 1 = pc')
    (k : Gets tb e below P T (mkF m pc' Ls (.int (x &&& y) :: st))) : Gets tb e below P T (mkF m pc Ls (.int y :: .int x :: st)) := by
  subst hp; refine k.by fun t qq => ?_; exact XS.iand H hx rfl hd rfl qq
theorem g_ior {tb : Tables} [Ours tb] {e : Env} {below : List Frame} {T : State} {m : MethodId} {c : Code} {P : Outcome → State → Prop} {pc pc' : Nat} {Ls : Array Slot} {st : List Value} {x y : Int32} (H : At T m c below) (hx : tb.exec = Jvm.exec) (hd : decode c.code pc = .ok (.ior, 1))  (hp : pc + 1 = pc')
    (k : Gets tb e below P T (mkF m pc' Ls (.int (x ||| y) :: st))) : Gets tb e below P T (mkF m pc Ls (.int y :: .int x :: st)) := by
  subst hp; refine k.by fun t qq => ?_; exact XS.ior H hx rfl hd rfl qq
theorem g_ixor {tb : Tables} [Ours tb] {e : Env} {below : List Frame} {T : State} {m : MethodId} {c : Code} {P : Outcome → State → Prop} {pc pc' : Nat} {Ls : Array Slot} {st : List Value} {x y : Int32} (H : At T m c below) (hx : tb.exec = Jvm.exec) (hd : decode c.code pc = .ok (.ixor, 1))  (hp : pc + 1 = pc')
    (k : Gets tb e below P T (mkF m pc' Ls (.int (x ^^^ y) :: st))) : Gets tb e below P T (mkF m pc Ls (.int y :: .int x :: st)) := by
  subst hp; refine k.by fun t qq => ?_; exact XS.ixor H hx rfl hd rfl qq
theorem g_ishl {tb : Tables} [Ours tb] {e : Env} {below : List Frame} {T : State} {m : MethodId} {c : Code} {P : Outcome → State → Prop} {pc pc' : Nat} {Ls : Array Slot} {st : List Value} {x y : Int32} (H : At T m c below) (hx : tb.exec = Jvm.exec) (hd : decode c.code pc = .ok (.ishl, 1))  (hp : pc + 1 = pc')
    (k : Gets tb e below P T (mkF m pc' Ls (.int (x <<< (y &&& 31)) :: st))) : Gets tb e below P T (mkF m pc Ls (.int y :: .int x :: st)) := by
  subst hp; refine k.by fun t qq => ?_; exact XS.ishl H hx rfl hd rfl qq
theorem g_ishr {tb : Tables} [Ours tb] {e : Env} {below : List Frame} {T : State} {m : MethodId} {c : Code} {P : Outcome → State → Prop} {pc pc' : Nat} {Ls : Array Slot} {st : List Value} {x y : Int32} (H : At T m c below) (hx : tb.exec = Jvm.exec) (hd : decode c.code pc = .ok (.ishr, 1))  (hp : pc + 1 = pc')
    (k : Gets tb e below P T (mkF m pc' Ls (.int (x >>> (y &&& 31)) :: st))) : Gets tb e below P T (mkF m pc Ls (.int y :: .int x :: st)) := by
  subst hp; refine k.by fun t qq => ?_; exact XS.ishr H hx rfl hd rfl qq
theorem g_iushr {tb : Tables} [Ours tb] {e : Env} {below : List Frame} {T : State} {m : MethodId} {c : Code} {P : Outcome → State → Prop} {pc pc' : Nat} {Ls : Array Slot} {st : List Value} {x y : Int32} (H : At T m c below) (hx : tb.exec = Jvm.exec) (hd : decode c.code pc = .ok (.iushr, 1))  (hp : pc + 1 = pc')
    (k : Gets tb e below P T (mkF m pc' Ls (.int ((x.toUInt32 >>> (y &&& 31).toUInt32).toInt32) :: st))) : Gets tb e below P T (mkF m pc Ls (.int y :: .int x :: st)) := by
  subst hp; refine k.by fun t qq => ?_; exact XS.iushr H hx rfl hd rfl qq
theorem g_ladd {tb : Tables} [Ours tb] {e : Env} {below : List Frame} {T : State} {m : MethodId} {c : Code} {P : Outcome → State → Prop} {pc pc' : Nat} {Ls : Array Slot} {st : List Value} {x y : Int64} (H : At T m c below) (hx : tb.exec = Jvm.exec) (hd : decode c.code pc = .ok (.ladd, 1))  (hp : pc + 1 = pc')
    (k : Gets tb e below P T (mkF m pc' Ls (.long (x + y) :: st))) : Gets tb e below P T (mkF m pc Ls (.long y :: .long x :: st)) := by
  subst hp; refine k.by fun t qq => ?_; exact XS.ladd H hx rfl hd rfl qq
theorem g_lsub {tb : Tables} [Ours tb] {e : Env} {below : List Frame} {T : State} {m : MethodId} {c : Code} {P : Outcome → State → Prop} {pc pc' : Nat} {Ls : Array Slot} {st : List Value} {x y : Int64} (H : At T m c below) (hx : tb.exec = Jvm.exec) (hd : decode c.code pc = .ok (.lsub, 1))  (hp : pc + 1 = pc')
    (k : Gets tb e below P T (mkF m pc' Ls (.long (x - y) :: st))) : Gets tb e below P T (mkF m pc Ls (.long y :: .long x :: st)) := by
  subst hp; refine k.by fun t qq => ?_; exact XS.lsub H hx rfl hd rfl qq
theorem g_lmul {tb : Tables} [Ours tb] {e : Env} {below : List Frame} {T : State} {m : MethodId} {c : Code} {P : Outcome → State → Prop} {pc pc' : Nat} {Ls : Array Slot} {st : List Value} {x y : Int64} (H : At T m c below) (hx : tb.exec = Jvm.exec) (hd : decode c.code pc = .ok (.lmul, 1))  (hp : pc + 1 = pc')
    (k : Gets tb e below P T (mkF m pc' Ls (.long (x * y) :: st))) : Gets tb e below P T (mkF m pc Ls (.long y :: .long x :: st)) := by
  subst hp; refine k.by fun t qq => ?_; exact XS.lmul H hx rfl hd rfl qq
theorem g_land {tb : Tables} [Ours tb] {e : Env} {below : List Frame} {T : State} {m : MethodId} {c : Code} {P : Outcome → State → Prop} {pc pc' : Nat} {Ls : Array Slot} {st : List Value} {x y : Int64} (H : At T m c below) (hx : tb.exec = Jvm.exec) (hd : decode c.code pc = .ok (.land, 1))  (hp : pc + 1 = pc')
    (k : Gets tb e below P T (mkF m pc' Ls (.long (x &&& y) :: st))) : Gets tb e below P T (mkF m pc Ls (.long y :: .long x :: st)) := by
  subst hp; refine k.by fun t qq => ?_; exact XS.land H hx rfl hd rfl qq
theorem g_lor {tb : Tables} [Ours tb] {e : Env} {below : List Frame} {T : State} {m : MethodId} {c : Code} {P : Outcome → State → Prop} {pc pc' : Nat} {Ls : Array Slot} {st : List Value} {x y : Int64} (H : At T m c below) (hx : tb.exec = Jvm.exec) (hd : decode c.code pc = .ok (.lor, 1))  (hp : pc + 1 = pc')
    (k : Gets tb e below P T (mkF m pc' Ls (.long (x ||| y) :: st))) : Gets tb e below P T (mkF m pc Ls (.long y :: .long x :: st)) := by
  subst hp; refine k.by fun t qq => ?_; exact XS.lor H hx rfl hd rfl qq
theorem g_lxor {tb : Tables} [Ours tb] {e : Env} {below : List Frame} {T : State} {m : MethodId} {c : Code} {P : Outcome → State → Prop} {pc pc' : Nat} {Ls : Array Slot} {st : List Value} {x y : Int64} (H : At T m c below) (hx : tb.exec = Jvm.exec) (hd : decode c.code pc = .ok (.lxor, 1))  (hp : pc + 1 = pc')
    (k : Gets tb e below P T (mkF m pc' Ls (.long (x ^^^ y) :: st))) : Gets tb e below P T (mkF m pc Ls (.long y :: .long x :: st)) := by
  subst hp; refine k.by fun t qq => ?_; exact XS.lxor H hx rfl hd rfl qq
theorem g_lshl {tb : Tables} [Ours tb] {e : Env} {below : List Frame} {T : State} {m : MethodId} {c : Code} {P : Outcome → State → Prop} {pc pc' : Nat} {Ls : Array Slot} {st : List Value} {x : Int64} {y : Int32} (H : At T m c below) (hx : tb.exec = Jvm.exec) (hd : decode c.code pc = .ok (.lshl, 1))  (hp : pc + 1 = pc')
    (k : Gets tb e below P T (mkF m pc' Ls (.long (x <<< (y &&& 0x3f).toInt64) :: st))) : Gets tb e below P T (mkF m pc Ls (.int y :: .long x :: st)) := by
  subst hp; refine k.by fun t qq => ?_; exact XS.lshl H hx rfl hd rfl qq
theorem g_lshr {tb : Tables} [Ours tb] {e : Env} {below : List Frame} {T : State} {m : MethodId} {c : Code} {P : Outcome → State → Prop} {pc pc' : Nat} {Ls : Array Slot} {st : List Value} {x : Int64} {y : Int32} (H : At T m c below) (hx : tb.exec = Jvm.exec) (hd : decode c.code pc = .ok (.lshr, 1))  (hp : pc + 1 = pc')
    (k : Gets tb e below P T (mkF m pc' Ls (.long (x >>> (y &&& 0x3f).toInt64) :: st))) : Gets tb e below P T (mkF m pc Ls (.int y :: .long x :: st)) := by
  subst hp; refine k.by fun t qq => ?_; exact XS.lshr H hx rfl hd rfl qq
theorem g_lushr {tb : Tables} [Ours tb] {e : Env} {below : List Frame} {T : State} {m : MethodId} {c : Code} {P : Outcome → State → Prop} {pc pc' : Nat} {Ls : Array Slot} {st : List Value} {x : Int64} {y : Int32} (H : At T m c below) (hx : tb.exec = Jvm.exec) (hd : decode c.code pc = .ok (.lushr, 1))  (hp : pc + 1 = pc')
    (k : Gets tb e below P T (mkF m pc' Ls (.long ((x.toUInt64 >>> (y &&& 0x3f).toInt64.toUInt64).toInt64) :: st))) : Gets tb e below P T (mkF m pc Ls (.int y :: .long x :: st)) := by
  subst hp; refine k.by fun t qq => ?_; exact XS.lushr H hx rfl hd rfl qq
theorem g_lcmp {tb : Tables} [Ours tb] {e : Env} {below : List Frame} {T : State} {m : MethodId} {c : Code} {P : Outcome → State → Prop} {pc pc' : Nat} {Ls : Array Slot} {st : List Value} {x y : Int64} (H : At T m c below) (hx : tb.exec = Jvm.exec) (hd : decode c.code pc = .ok (.lcmp, 1))  (hp : pc + 1 = pc')
    (k : Gets tb e below P T (mkF m pc' Ls (.int (lcmpW x y) :: st))) : Gets tb e below P T (mkF m pc Ls (.long y :: .long x :: st)) := by
  subst hp; refine k.by fun t qq => ?_; exact XS.lcmp H hx rfl hd rfl qq
theorem g_ineg {tb : Tables} [Ours tb] {e : Env} {below : List Frame} {T : State} {m : MethodId} {c : Code} {P : Outcome → State → Prop} {pc pc' : Nat} {Ls : Array Slot} {st : List Value} {x : Int32} (H : At T m c below) (hx : tb.exec = Jvm.exec) (hd : decode c.code pc = .ok (.ineg, 1))  (hp : pc + 1 = pc')
    (k : Gets tb e below P T (mkF m pc' Ls (.int (-x) :: st))) : Gets tb e below P T (mkF m pc Ls (.int x :: st)) := by
  subst hp; refine k.by fun t qq => ?_; exact XS.ineg H hx rfl hd rfl qq
theorem g_i2b {tb : Tables} [Ours tb] {e : Env} {below : List Frame} {T : State} {m : MethodId} {c : Code} {P : Outcome → State → Prop} {pc pc' : Nat} {Ls : Array Slot} {st : List Value} {x : Int32} (H : At T m c below) (hx : tb.exec = Jvm.exec) (hd : decode c.code pc = .ok (.i2b, 1))  (hp : pc + 1 = pc')
    (k : Gets tb e below P T (mkF m pc' Ls (.int (x.toInt8.toInt32) :: st))) : Gets tb e below P T (mkF m pc Ls (.int x :: st)) := by
  subst hp; refine k.by fun t qq => ?_; exact XS.i2b H hx rfl hd rfl qq
theorem g_i2s {tb : Tables} [Ours tb] {e : Env} {below : List Frame} {T : State} {m : MethodId} {c : Code} {P : Outcome → State → Prop} {pc pc' : Nat} {Ls : Array Slot} {st : List Value} {x : Int32} (H : At T m c below) (hx : tb.exec = Jvm.exec) (hd : decode c.code pc = .ok (.i2s, 1))  (hp : pc + 1 = pc')
    (k : Gets tb e below P T (mkF m pc' Ls (.int (x.toInt16.toInt32) :: st))) : Gets tb e below P T (mkF m pc Ls (.int x :: st)) := by
  subst hp; refine k.by fun t qq => ?_; exact XS.i2s H hx rfl hd rfl qq
theorem g_i2c {tb : Tables} [Ours tb] {e : Env} {below : List Frame} {T : State} {m : MethodId} {c : Code} {P : Outcome → State → Prop} {pc pc' : Nat} {Ls : Array Slot} {st : List Value} {x : Int32} (H : At T m c below) (hx : tb.exec = Jvm.exec) (hd : decode c.code pc = .ok (.i2c, 1))  (hp : pc + 1 = pc')
    (k : Gets tb e below P T (mkF m pc' Ls (.int (x.toUInt32.toUInt16.toUInt32.toInt32) :: st))) : Gets tb e below P T (mkF m pc Ls (.int x :: st)) := by
  subst hp; refine k.by fun t qq => ?_; exact XS.i2c H hx rfl hd rfl qq
theorem g_i2l {tb : Tables} [Ours tb] {e : Env} {below : List Frame} {T : State} {m : MethodId} {c : Code} {P : Outcome → State → Prop} {pc pc' : Nat} {Ls : Array Slot} {st : List Value} {x : Int32} (H : At T m c below) (hx : tb.exec = Jvm.exec) (hd : decode c.code pc = .ok (.i2l, 1))  (hp : pc + 1 = pc')
    (k : Gets tb e below P T (mkF m pc' Ls (.long x.toInt64 :: st))) : Gets tb e below P T (mkF m pc Ls (.int x :: st)) := by
  subst hp; refine k.by fun t qq => ?_; exact XS.i2l H hx rfl hd rfl qq
theorem g_l2i {tb : Tables} [Ours tb] {e : Env} {below : List Frame} {T : State} {m : MethodId} {c : Code} {P : Outcome → State → Prop} {pc pc' : Nat} {Ls : Array Slot} {st : List Value} {x : Int64} (H : At T m c below) (hx : tb.exec = Jvm.exec) (hd : decode c.code pc = .ok (.l2i, 1))  (hp : pc + 1 = pc')
    (k : Gets tb e below P T (mkF m pc' Ls (.int x.toInt32 :: st))) : Gets tb e below P T (mkF m pc Ls (.long x :: st)) := by
  subst hp; refine k.by fun t qq => ?_; exact XS.l2i H hx rfl hd rfl qq
theorem g_lneg {tb : Tables} [Ours tb] {e : Env} {below : List Frame} {T : State} {m : MethodId} {c : Code} {P : Outcome → State → Prop} {pc pc' : Nat} {Ls : Array Slot} {st : List Value} {x : Int64} (H : At T m c below) (hx : tb.exec = Jvm.exec) (hd : decode c.code pc = .ok (.lneg, 1))  (hp : pc + 1 = pc')
    (k : Gets tb e below P T (mkF m pc' Ls (.long (-x) :: st))) : Gets tb e below P T (mkF m pc Ls (.long x :: st)) := by
  subst hp; refine k.by fun t qq => ?_; exact XS.lneg H hx rfl hd rfl qq
theorem g_idiv {tb : Tables} [Ours tb] {e : Env} {below : List Frame} {T : State} {m : MethodId} {c : Code} {P : Outcome → State → Prop} {pc pc' : Nat} {Ls : Array Slot} {st : List Value} {x y : Int32} (H : At T m c below) (hx : tb.exec = Jvm.exec) (hd : decode c.code pc = .ok (.idiv, 1)) (hy : y ≠ 0) (hp : pc + 1 = pc')
    (k : Gets tb e below P T (mkF m pc' Ls (.int (x / y) :: st))) : Gets tb e below P T (mkF m pc Ls (.int y :: .int x :: st)) := by
  subst hp; refine k.by fun t qq => ?_; exact XS.idiv H hx rfl hd rfl hy qq
theorem g_dup {tb : Tables} [Ours tb] {e : Env} {below : List Frame} {T : State} {m : MethodId} {c : Code} {P : Outcome → State → Prop} {pc pc' : Nat} {Ls : Array Slot} {st : List Value} {v : Value} (H : At T m c below) (hx : tb.exec = Jvm.exec) (hd : decode c.code pc = .ok (.dup, 1)) (hv : v.category = 1) (hp : pc + 1 = pc')
    (k : Gets tb e below P T (mkF m pc' Ls (v :: v :: st))) : Gets tb e below P T (mkF m pc Ls (v :: st)) := by
  subst hp; refine k.by fun t qq => ?_; exact XS.dup H hx rfl hd rfl hv qq
theorem g_pop {tb : Tables} [Ours tb] {e : Env} {below : List Frame} {T : State} {m : MethodId} {c : Code} {P : Outcome → State → Prop} {pc pc' : Nat} {Ls : Array Slot} {st : List Value} {v : Value} (H : At T m c below) (hx : tb.exec = Jvm.exec) (hd : decode c.code pc = .ok (.pop, 1)) (hv : v.category = 1) (hp : pc + 1 = pc')
    (k : Gets tb e below P T (mkF m pc' Ls (st))) : Gets tb e below P T (mkF m pc Ls (v :: st)) := by
  subst hp; refine k.by fun t qq => ?_; exact XS.pop H hx rfl hd rfl hv qq
theorem g_dupX1 {tb : Tables} [Ours tb] {e : Env} {below : List Frame} {T : State} {m : MethodId} {c : Code} {P : Outcome → State → Prop} {pc pc' : Nat} {Ls : Array Slot} {st : List Value} {v w : Value} (H : At T m c below) (hx : tb.exec = Jvm.exec) (hd : decode c.code pc = .ok (.dup_x1, 1)) (hv : v.category = 1) (hw : w.category = 1) (hp : pc + 1 = pc')
    (k : Gets tb e below P T (mkF m pc' Ls (v :: w :: v :: st))) : Gets tb e below P T (mkF m pc Ls (v :: w :: st)) := by
  subst hp; refine k.by fun t qq => ?_; exact XS.dupX1 H hx rfl hd rfl hv hw qq
theorem g_iinc {tb : Tables} [Ours tb] {e : Env} {below : List Frame} {T : State} {m : MethodId} {c : Code} {P : Outcome → State → Prop} {pc pc' : Nat} {Ls : Array Slot} {st : List Value} {j : Nat} {cst : Int} {x : Int32} {Ls' : Array Slot} (H : At T m c below) (hx : tb.exec = Jvm.exec) (hd : decode c.code pc = .ok (.iinc j cst, 3)) (hl : Ls[j]? = some (.val (.int x))) (hs : storeLocals Ls j (.int (x + Int32.ofInt cst)) = some Ls') (hp : pc + 3 = pc')
    (k : Gets tb e below P T (mkF m pc' Ls' (st))) : Gets tb e below P T (mkF m pc Ls (st)) := by
  subst hp; refine k.by fun t qq => ?_; exact XS.iinc H hx rfl hd hl hs qq
theorem g_lconst {tb : Tables} [Ours tb] {e : Env} {below : List Frame} {T : State} {m : MethodId} {c : Code} {P : Outcome → State → Prop} {pc pc' : Nat} {Ls : Array Slot} {st : List Value} {j : Fin 2} (v : Int64) (H : At T m c below) (hx : tb.exec = Jvm.exec) (hd : decode c.code pc = .ok (.lconst j, 1)) (hv : Int64.ofNat j = v) (hp : pc + 1 = pc')
    (k : Gets tb e below P T (mkF m pc' Ls (.long v :: st))) : Gets tb e below P T (mkF m pc Ls st) := by
  subst hp; subst hv; refine k.by fun t qq => ?_; exact XS.lconst H hx rfl hd qq
theorem g_irem {tb : Tables} [Ours tb] {e : Env} {below : List Frame} {T : State} {m : MethodId} {c : Code} {P : Outcome → State → Prop} {pc pc' : Nat} {Ls : Array Slot} {st : List Value} {x y : Int32} (H : At T m c below) (hx : tb.exec = Jvm.exec) (hd : decode c.code pc = .ok (.irem, 1)) (hy : y ≠ 0) (hp : pc + 1 = pc')
    (k : Gets tb e below P T (mkF m pc' Ls (.int (x % y) :: st))) : Gets tb e below P T (mkF m pc Ls (.int y :: .int x :: st)) := by
  subst hp
  have q : x - x / y * y = x % y := irem_eq_mod x y
  rw [← q] at k
  refine k.by fun t qq => ?_; exact XS.irem H hx rfl hd rfl hy qq
theorem g_goto {tb : Tables} [Ours tb] {e : Env} {below : List Frame} {T : State} {m : MethodId} {c : Code} {P : Outcome → State → Prop} {pc pc' : Nat} {Ls : Array Slot} {st : List Value} {o : Int} (H : At T m c below) (hx : tb.exec = Jvm.exec) (hd : decode c.code pc = .ok (.goto o, 3)) (hp : (pc : Int) + o = (pc' : Int))
    (k : Gets tb e below P T (mkF m pc' Ls st)) : Gets tb e below P T (mkF m pc Ls st) := by
  refine k.by fun t qq => ?_
  exact XS.goto H hx rfl (pc0 := pc) (pc' := pc') rfl hd (by rw [hp]; exact Int.natCast_nonneg _) (by rw [hp]; rfl) qq
theorem g_ifY {tb : Tables} [Ours tb] {e : Env} {below : List Frame} {T : State} {m : MethodId} {c : Code} {P : Outcome → State → Prop} {pc pc' : Nat} {Ls : Array Slot} {st : List Value} {o : Int} {cd : ClassFile.Cond} {x : Int32} (H : At T m c below) (hx : tb.exec = Jvm.exec) (hd : decode c.code pc = .ok (.ifCond cd o, 3)) (hp : (pc : Int) + o = (pc' : Int)) (q : if_icmp.holds cd x 0 = true)
    (k : Gets tb e below P T (mkF m pc' Ls st)) : Gets tb e below P T (mkF m pc Ls (.int x :: st)) := by
  refine k.by fun t qq => ?_
  exact XS.ifYes H hx rfl (pc0 := pc) (pc' := pc') rfl hd rfl ((if0 _ _).trans q) (by rw [hp]; exact Int.natCast_nonneg _) (by rw [hp]; rfl) qq
theorem g_ifN {tb : Tables} [Ours tb] {e : Env} {below : List Frame} {T : State} {m : MethodId} {c : Code} {P : Outcome → State → Prop} {pc pc' : Nat} {Ls : Array Slot} {st : List Value} {o : Int} {cd : ClassFile.Cond} {x : Int32} (H : At T m c below) (hx : tb.exec = Jvm.exec) (hd : decode c.code pc = .ok (.ifCond cd o, 3)) (hp : pc + 3 = pc') (q : if_icmp.holds cd x 0 = false)
    (k : Gets tb e below P T (mkF m pc' Ls st)) : Gets tb e below P T (mkF m pc Ls (.int x :: st)) := by
  subst hp; refine k.by fun t qq => ?_; exact XS.ifNo H hx rfl hd rfl ((if0 _ _).trans q) qq
theorem g_icmpY {tb : Tables} [Ours tb] {e : Env} {below : List Frame} {T : State} {m : MethodId} {c : Code} {P : Outcome → State → Prop} {pc pc' : Nat} {Ls : Array Slot} {st : List Value} {o : Int} {cd : ClassFile.Cond} {x y : Int32} (H : At T m c below) (hx : tb.exec = Jvm.exec) (hd : decode c.code pc = .ok (.if_icmp cd o, 3)) (hp : (pc : Int) + o = (pc' : Int)) (q : if_icmp.holds cd x y = true)
    (k : Gets tb e below P T (mkF m pc' Ls st)) : Gets tb e below P T (mkF m pc Ls (.int y :: .int x :: st)) := by
  refine k.by fun t qq => ?_
  exact XS.icmpYes H hx rfl (pc0 := pc) (pc' := pc') rfl hd rfl q (by rw [hp]; exact Int.natCast_nonneg _) (by rw [hp]; rfl) qq
theorem g_icmpN {tb : Tables} [Ours tb] {e : Env} {below : List Frame} {T : State} {m : MethodId} {c : Code} {P : Outcome → State → Prop} {pc pc' : Nat} {Ls : Array Slot} {st : List Value} {o : Int} {cd : ClassFile.Cond} {x y : Int32} (H : At T m c below) (hx : tb.exec = Jvm.exec) (hd : decode c.code pc = .ok (.if_icmp cd o, 3)) (hp : pc + 3 = pc') (q : if_icmp.holds cd x y = false)
    (k : Gets tb e below P T (mkF m pc' Ls st)) : Gets tb e below P T (mkF m pc Ls (.int y :: .int x :: st)) := by
  subst hp; refine k.by fun t qq => ?_; exact XS.icmpNo H hx rfl hd rfl q qq
theorem g_nullY {tb : Tables} [Ours tb] {e : Env} {below : List Frame} {T : State} {m : MethodId} {c : Code} {P : Outcome → State → Prop} {pc pc' : Nat} {Ls : Array Slot} {st : List Value} {o : Int} (H : At T m c below) (hx : tb.exec = Jvm.exec) (hd : decode c.code pc = .ok (.ifnull o, 3)) (hp : (pc : Int) + o = (pc' : Int))
    (k : Gets tb e below P T (mkF m pc' Ls st)) : Gets tb e below P T (mkF m pc Ls (.null :: st)) := by
  refine k.by fun t qq => ?_
  exact XS.ifnullYes H hx rfl (pc0 := pc) (pc' := pc') rfl hd rfl (by rw [hp]; exact Int.natCast_nonneg _) (by rw [hp]; rfl) qq
theorem g_nullN {tb : Tables} [Ours tb] {e : Env} {below : List Frame} {T : State} {m : MethodId} {c : Code} {P : Outcome → State → Prop} {pc pc' : Nat} {Ls : Array Slot} {st : List Value} {o : Int} {b : Addr} (H : At T m c below) (hx : tb.exec = Jvm.exec) (hd : decode c.code pc = .ok (.ifnull o, 3)) (hp : pc + 3 = pc')
    (k : Gets tb e below P T (mkF m pc' Ls st)) : Gets tb e below P T (mkF m pc Ls (.ref b :: st)) := by
  subst hp; refine k.by fun t qq => ?_; exact XS.ifnullNo H hx rfl hd rfl qq
theorem g_nonnullY {tb : Tables} [Ours tb] {e : Env} {below : List Frame} {T : State} {m : MethodId} {c : Code} {P : Outcome → State → Prop} {pc pc' : Nat} {Ls : Array Slot} {st : List Value} {o : Int} {b : Addr} (H : At T m c below) (hx : tb.exec = Jvm.exec) (hd : decode c.code pc = .ok (.ifnonnull o, 3)) (hp : (pc : Int) + o = (pc' : Int))
    (k : Gets tb e below P T (mkF m pc' Ls st)) : Gets tb e below P T (mkF m pc Ls (.ref b :: st)) := by
  refine k.by fun t qq => ?_
  exact XS.ifnonnullYes H hx rfl (pc0 := pc) (pc' := pc') rfl hd rfl (by rw [hp]; exact Int.natCast_nonneg _) (by rw [hp]; rfl) qq
theorem g_nonnullN {tb : Tables} [Ours tb] {e : Env} {below : List Frame} {T : State} {m : MethodId} {c : Code} {P : Outcome → State → Prop} {pc pc' : Nat} {Ls : Array Slot} {st : List Value} {o : Int} (H : At T m c below) (hx : tb.exec = Jvm.exec) (hd : decode c.code pc = .ok (.ifnonnull o, 3)) (hp : pc + 3 = pc')
    (k : Gets tb e below P T (mkF m pc' Ls st)) : Gets tb e below P T (mkF m pc Ls (.null :: st)) := by
  subst hp; refine k.by fun t qq => ?_; exact XS.ifnonnullNo H hx rfl hd rfl qq
theorem g_tsw {tb : Tables} [Ours tb] {e : Env} {below : List Frame} {T : State} {m : MethodId} {c : Code} {P : Outcome → State → Prop} {pc pc' : Nat} {Ls : Array Slot} {st : List Value} {dflt low high : Int} {offs : Array Int} {len : Nat} {o : Int} {i : Int32} (H : At T m c below) (hx : tb.exec = Jvm.exec) (hd : decode c.code pc = .ok (.tableswitch dflt low high offs, len)) (hin : ¬ (i.toInt < low ∨ i.toInt > high)) (hoff : offs[(i.toInt - low).toNat]? = some o) (hp : (pc : Int) + o = (pc' : Int))
    (k : Gets tb e below P T (mkF m pc' Ls st)) : Gets tb e below P T (mkF m pc Ls (.int i :: st)) := by
  refine k.by fun t qq => ?_
  exact XS.tswIn H hx rfl (pc0 := pc) (pc' := pc') rfl hd rfl hin hoff (by rw [hp]; exact Int.natCast_nonneg _) (by rw [hp]; rfl) qq
theorem g_iincV {tb : Tables} [Ours tb] {e : Env} {below : List Frame} {T : State} {m : MethodId} {c : Code} {P : Outcome → State → Prop} {pc pc' : Nat} {Ls Ls' : Array Slot} {st : List Value} {j : Nat} {cst : Int} {x : Int32} (v : Int32) (H : At T m c below) (hx : tb.exec = Jvm.exec) (hd : decode c.code pc = .ok (.iinc j cst, 3)) (hv : x + Int32.ofInt cst = v) (hl : Ls[j]? = some (.val (.int x))) (hs : storeLocals Ls j (.int v) = some Ls') (hp : pc + 3 = pc')
    (k : Gets tb e below P T (mkF m pc' Ls' st)) : Gets tb e below P T (mkF m pc Ls st) := by
  subst hp; subst hv; refine k.by fun t qq => ?_; exact XS.iinc H hx rfl hd hl hs qq
/-- an array's exact content -/
def Ary (Z : State) (h : Heap) (a : Addr) (ty : FieldType) (vs : List Value) : Prop := ∃ cl : Cell, Arr Z h a cl ty ∧ cl.slots.toList = vs ∧ vs.length < 2 ^ 31 ∧ ∀ v ∈ vs, fits ty v = true
theorem Ary.lt {Z : State} {h : Heap} {a : Addr} {ty : FieldType} {vs : List Value} (F : Ary Z h a ty vs) : a < h.size := by obtain ⟨c, A, -⟩ := F; exact A.lt
theorem Ary.len {Z : State} {h : Heap} {a : Addr} {ty : FieldType} {vs : List Value} (F : Ary Z h a ty vs) : vs.length < 2 ^ 31 := by obtain ⟨c, A, -, q, -⟩ := F; exact q
theorem Ary.keep {Z : State} {h h' : Heap} {a : Addr} {ty : FieldType} {vs : List Value} {ws : List Addr} (F : Ary Z h a ty vs) (K : Keep h h' ws) (q : a ∉ ws) : Ary Z h' a ty vs := by obtain ⟨c, A, r⟩ := F; exact ⟨c, ⟨K.2.1 a c A.1 q, A.2⟩, r⟩
theorem Ary.ext {Z : State} {h h' : Heap} {a : Addr} {ty : FieldType} {vs : List Value} (F : Ary Z h a ty vs) (E : Ext h h') : Ary Z h' a ty vs := by obtain ⟨c, A, r⟩ := F; exact ⟨c, A.ext E, r⟩
theorem Ary.made {Z : State} {h : Heap} {a : Addr} {ty : FieldType} {k : ClassId} {n : Int32} (A : Arr Z h a (newA k ty n) ty) (hn : ¬ n < 0) (hf : fits ty (defaultValue ty) = true) : Ary Z h a ty (List.replicate n.toNatClampNeg (defaultValue ty)) :=
  ⟨_, A, by simp [newA], by rw [List.length_replicate]; exact (back32 hn).2, fun v hv => by rw [(List.mem_replicate.mp hv).2]; exact hf⟩
theorem Ary.of_arv {Z : State} {h : Heap} {a : Addr} {ty : FieldType} {k : ClassId} {z : Int32} {vs : List Value} {d : Value} (F : Arv Z h a k ty z vs d) (hl : z.toNatClampNeg = vs.length) : Ary Z h a ty vs := by
  obtain ⟨c, A, -, sz, hz, H, G⟩ := F
  have e : c.slots.toList = vs := by
    apply List.ext_getElem?
    intro i
    by_cases hi : i < c.slots.size
    · have q := H i hi
      have hi' : i < vs.length := by omega
      rw [Array.getElem?_toList, q]
      simp [List.getD_eq_getElem?_getD, hi']
    · have hi' : vs.length ≤ i := by omega
      rw [Array.getElem?_toList, Array.getElem?_eq_none (by omega), List.getElem?_eq_none hi']
  refine ⟨c, A, e, by rw [← hl]; exact (back32 hz).2, fun v hv => ?_⟩
  obtain ⟨i, hi, rfl⟩ := List.mem_iff_getElem.mp hv
  have q := G i (by omega)
  rwa [List.getD_eq_getElem?_getD, List.getElem?_eq_getElem hi] at q
theorem Ary.wrote {Z : State} {h h' : Heap} {a : Addr} {ty : FieldType} {vs : List Value} {cl : Cell} {v : Value} {i : Nat} (A : Arr Z h a cl ty) (e : cl.slots.toList = vs) (hl : vs.length < 2 ^ 31) (hf : ∀ w ∈ vs, fits ty w = true) (hv : fits ty v = true) (W : Wr h h' a i v) : Ary Z h' a ty (vs.set i v) := by
  refine ⟨cl.setSlot i v, A.same W, ?_, by rw [List.length_set]; exact hl, fun w hw => ?_⟩
  · rw [← e]; simp [Cell.setSlot]
  · rcases List.mem_or_eq_of_mem_set hw with q | q
    · exact hf w q
    · rw [q]; exact hv
theorem size_of_list {cl : Cell} {vs : List Value} (e : cl.slots.toList = vs) : cl.slots.size = vs.length := by rw [← e]; simp
theorem at_of_list {cl : Cell} {vs : List Value} (e : cl.slots.toList = vs) (i : Nat) : cl.slots[i]? = vs[i]? := by rw [← e]; simp
theorem i32_nat {n : Nat} (h : n < 2 ^ 31) : n.toInt32.toNatClampNeg = n := by simp only [Int32.toNatClampNeg, len_toInt h]; rfl
end OwnBase
section OwnWalk
variable {p : Program} {l : Launch} {e : Env} {R : Room} {s : State} {m : MethodId} {args : Array Value} {below : List Frame} {meth : Method} {c : Code} {T : State} {Z : State} {a0 : Array Value} {h : Heap} {EL : List (String × Nat)} {own : String} {cells slots : Nat} {ws nw : List Addr} {P : Outcome → State → Prop} {pc pc' : Nat} {Ls : Array Slot} {st : List Value}
/-- where a walk stands -/
def Wk (p : Program) (l : Launch) (e : Env) (R : Room) (s : State) (m : MethodId) (args : Array Value) (below : List Frame) (meth : Method) (c : Code) (Z : State) (EL : List (String × Nat)) (own : String) (ws nw : List Addr) (T : State) (h : Heap) (cells slots : Nat) : Prop :=
  ∃ (vm0 : Vm) (k0 : Nat) (locs : List Loc) (b0 : Array Value), Stand p l e R (s.setVm vm0) m args below meth c T locs cells slots ∧ T.heap = h ∧ s.Since vm0 k0 ∧ k0 ≤ h.size ∧ Z.Warmed39 vm0 ∧ vm0.findClass own = some m.cls ∧ EW Z b0 EL ∧ CHr Z EL s.vm s.heap vm0 h ∧ Fr Z.heap.size locs ∧ Ext Z.heap h ∧ Keep s.heap h ws ∧
    (∀ x : Nat, x ∈ ws → Z.heap.size ≤ x ∧ x < h.size ∧ Safe Z EL vm0 h x) ∧ (∀ x : Nat, x ∈ nw → s.heap.size ≤ x ∧ Z.heap.size ≤ x ∧ x < h.size ∧ Safe Z EL vm0 h x)
theorem Wk.here (W : Wk p l e R s m args below meth c Z EL own ws nw T h cells slots) : At T m c below := by obtain ⟨_, _, _, _, X, -⟩ := W; exact X.here
theorem Wk.old (W : Wk p l e R s m args below meth c Z EL own ws nw T h cells slots) : Ext Z.heap h := by obtain ⟨_, _, _, _, -, -, -, -, -, -, -, -, -, E, -⟩ := W; exact E
theorem Wk.lt (W : Wk p l e R s m args below meth c Z EL own ws nw T h cells slots) {x : Nat} (q : x ∈ nw) : x < h.size := by obtain ⟨_, _, _, _, -, -, -, -, -, -, -, -, -, -, -, -, n⟩ := W; exact (n x q).2.2.1
theorem Wk.kept (W : Wk p l e R s m args below meth c Z EL own ws nw T h cells slots) : Keep s.heap h ws := by obtain ⟨_, _, _, _, -, -, -, -, -, -, -, -, -, -, K, -⟩ := W; exact K
/-- a callee's contract: from the arguments as' and the heap h0 it returns a value v and a heap h' with Q v h'; of the cells of h0 at the most those at ws are written -/
def ConL (wl : List Cond) (l : Launch) (Z : State) (EL : List (String × Nat)) (y : MethodName) (bytes : ByteArray) (maxL : Nat) (ret : Option FieldType) (rm : Room) (as' : Array Value) (h0 : Heap) (ws : List Addr) (Q : Option Value → Heap → Prop) : Prop :=
  MetFree l y (head1 (Cond.code y bytes maxL ret :: wl) rm) (fun a U => a = as' ∧ Z.Warmed39 U.vm ∧ U.heap = h0 ∧ CHv Z EL U.vm h0 ∧ ∀ x ∈ ws, Safe Z EL U.vm h0 x) (fun _ _ _ _ _ => True)
    (fun _ U o U' => ∃ v L, o = .returned v ∧ (Q v U'.heap ∧ Fr Z.heap.size L ∧ Keep h0 U'.heap ws ∧ Ext Z.heap U'.heap) ∧ CHr Z EL U.vm U.heap U'.vm U'.heap ∧ ReturnedEndW U o U' L rm.cells rm.slots)
abbrev Con := ConL []
/-- what a contract's body is to come to -/
def Post (s : State) (Z : State) (EL : List (String × Nat)) (rm : Room) (h0 : Heap) (ws : List Addr) (Q : Option Value → Heap → Prop) (o : Outcome) (t : State) : Prop :=
  ∃ v L, o = .returned v ∧ (Q v t.heap ∧ Fr Z.heap.size L ∧ Keep h0 t.heap ws ∧ Ext Z.heap t.heap) ∧ CHr Z EL s.vm s.heap t.vm t.heap ∧ ReturnedEndW s o t L rm.cells rm.slots
theorem Con.of {wl : List Cond} {y : MethodName} {bytes : ByteArray} {maxL : Nat} {ret : Option FieldType} {rm : Room} {as' : Array Value} {h0 : Heap} {Q : Option Value → Heap → Prop} (Ls : Array Slot)
    (hy : plainFor y = true) (hE : EW Z a0 EL) (O : Ext Z.heap h0) (hws : ∀ x : Nat, x ∈ ws → Z.heap.size ≤ x ∧ x < h0.size) (hent : ∀ m, entryFrame m as' maxL = mkF m 0 Ls [])
    (body : ∀ (p : Program) (e : Env) (s : State) (m : MethodId) (below : List Frame) (meth : Method) (c : Code) (T : State), p.tables.exec = Jvm.exec → c.code = bytes → c.maxLocals = maxL → meth.name = y.name → meth.sig.returnType = ret → meth.locks = false → s.heap = h0 →
      Wk p l e rm s m as' below meth c Z EL y.cls ws [] T h0 0 0 → Gets p.tables e below (Post s Z EL rm h0 ws Q) T (mkF m 0 Ls [])) :
    ConL wl l Z EL y bytes maxL ret rm as' h0 ws Q := by
  refine MetFree.of_bodySF hy hisR ?_
  intro p e s m args below meth c s₁ Bd hml0 hP hK
  obtain ⟨rfl, hZ, hh, hC, hS⟩ := hP
  have hh' : s.heap = h0 := hh
  have hl : meth.locks = false := Bd.notSynchronized
  have e0 : s₁.heap = h0 := by rw [← hh, Bd.state]; rfl
  have X0 : Stand p l e rm s m args below meth c s₁ [] 0 0 := Stand.of_body Bd
  have W : Wk p l e rm s m args below meth c Z EL y.cls ws [] s₁ h0 0 0 :=
    ⟨s.vm, h0.size, [], a0, X0, e0, (State.WarmedH.refl s).since _, Nat.le_refl _, hZ, findClass_of_methodNamed Bd.named, hE, by rw [hh']; exact CHr.refl hC, Fr.nil _, O, by rw [hh']; exact Keep.refl _ _, fun x hx => ⟨(hws x hx).1, (hws x hx).2, hS x hx⟩, fun x hx => (nomatch hx)⟩
  obtain ⟨t, o, h1, h2, h3, h4⟩ := body p e s m below meth c s₁ Bd.exec Bd.bytes hml0 (name_of_methodNamed Bd.named Bd.method).1 Bd.returns hl hh' W
  exact ⟨t, o, by rw [hent m]; exact h1, h2, h3, h4⟩
/-! ends -/
theorem w_end {rm : Room} {h0 : Heap} {Q : Option Value → Heap → Prop} (W : Wk p l e R s m args below meth c Z EL own ws nw T h cells slots) (hh : s.heap = h0) {v : Option Value} {g : JFrame} (hl : meth.locks = false) (hv : meth.sig.returnType = none → v = none)
    (st : ∀ {vm0 : Vm} {locs : List Loc} {fs : List Frame}, Stand p l e R (s.setVm vm0) m args below meth c T locs cells slots → (∀ (f : JFrame) (acts : List Action), f.method = m → f.locked = none → f.entered = [] → (doReturn e (T.setTop f) acts v).1 = T.setFrames fs) → Steps p.tables e below (T.setTop g) (T.setFrames fs))
    (hc : cells ≤ rm.cells) (hs : slots ≤ rm.slots) (q : Q v h) : Gets p.tables e below (Post s Z EL rm h0 ws Q) T g := by
  obtain ⟨vm0, k0, locs, b0, X, eT, hS, hk, hZ, hown, hE, hC, hF, hO, hK, -, -⟩ := W
  obtain ⟨fs, h1, h2, h3, r1, r2, r3, r4⟩ := X.leaveW hS (by rw [eT]; exact hk) hv hl
  subst hh
  have hA := CHv.at X hZ hE hC.1
  refine ⟨_, _, st X h1, h2, h3, v, locs, rfl, ⟨?_, hF, ?_, ?_⟩, ?_, r1, r2, r3, r4.mono hc hs⟩
  · show Q v T.heap; rw [eT]; exact q
  · show Keep _ T.heap _; rw [eT]; exact hK
  · show Ext _ T.heap; rw [eT]; exact hO
  · show CHr Z EL s.vm s.heap T.vm T.heap
    rw [eT]
    exact hC.trans hA
theorem w_retI {rm : Room} {h0 : Heap} {Q : Option Value → Heap → Prop} {z : Int32} (W : Wk p l e R s m args below meth c Z EL own ws nw T h cells slots) (hx : p.tables.exec = Jvm.exec) (hh : s.heap = h0) (hl : meth.locks = false) (hret : meth.sig.returnType = some .int) (hd : decode c.code pc = .ok (.ireturn, 1)) (hc : cells ≤ rm.cells) (hs : slots ≤ rm.slots) (q : Q (some (.int z)) h) :
    Gets p.tables e below (Post s Z EL rm h0 ws Q) T (mkF m pc Ls (.int z :: st)) :=
  w_end W hh hl (fun q => by rw [hret] at q; cases q) (fun X hr => retOut X hx hret rfl (Or.inl ⟨rfl, Or.inl rfl, z, rfl⟩) hd hr) hc hs q
theorem w_retN {rm : Room} {h0 : Heap} {Q : Option Value → Heap → Prop} {z : Int32} {t : FieldType} (W : Wk p l e R s m args below meth c Z EL own ws nw T h cells slots) (hx : p.tables.exec = Jvm.exec) (hh : s.heap = h0) (hl : meth.locks = false) (hret : meth.sig.returnType = some t) (ht : t = .boolean ∨ t = .byte ∨ t = .char ∨ t = .short) (hd : decode c.code pc = .ok (.ireturn, 1)) (hc : cells ≤ rm.cells) (hs : slots ≤ rm.slots) (q : Q (some (.int (nar t z))) h) :
    Gets p.tables e below (Post s Z EL rm h0 ws Q) T (mkF m pc Ls (.int z :: st)) :=
  w_end W hh hl (fun q => by rw [hret] at q; cases q) (fun X hr => retN X hx hret ht hd hr) hc hs q
theorem w_retJ {rm : Room} {h0 : Heap} {Q : Option Value → Heap → Prop} {z : Int64} (W : Wk p l e R s m args below meth c Z EL own ws nw T h cells slots) (hx : p.tables.exec = Jvm.exec) (hh : s.heap = h0) (hl : meth.locks = false) (hret : meth.sig.returnType = some .long) (hd : decode c.code pc = .ok (.lreturn, 1)) (hc : cells ≤ rm.cells) (hs : slots ≤ rm.slots) (q : Q (some (.long z)) h) :
    Gets p.tables e below (Post s Z EL rm h0 ws Q) T (mkF m pc Ls (.long z :: st)) :=
  w_end W hh hl (fun q => by rw [hret] at q; cases q) (fun X hr => retOut X hx hret rfl (Or.inr (Or.inl ⟨rfl, rfl, z, rfl⟩)) hd hr) hc hs q
theorem w_retA {rm : Room} {h0 : Heap} {Q : Option Value → Heap → Prop} {w : Value} {t : FieldType} (W : Wk p l e R s m args below meth c Z EL own ws nw T h cells slots) (hx : p.tables.exec = Jvm.exec) (hh : s.heap = h0) (hl : meth.locks = false) (hret : meth.sig.returnType = some t) (ht : t.isReference = true) (hw : w.isRef = true) (hd : decode c.code pc = .ok (.areturn, 1)) (hc : cells ≤ rm.cells) (hs : slots ≤ rm.slots) (q : Q (some w) h) :
    Gets p.tables e below (Post s Z EL rm h0 ws Q) T (mkF m pc Ls (w :: st)) :=
  w_end W hh hl (fun q => by rw [hret] at q; cases q) (fun X hr => retOut X hx hret (by cases t <;> cases w <;> simp [FieldType.isReference, Value.isRef, narrow] at ht hw ⊢) (Or.inr (Or.inr (Or.inr (Or.inr ⟨rfl, ht, hw⟩)))) hd hr) hc hs q
theorem w_retV {rm : Room} {h0 : Heap} {Q : Option Value → Heap → Prop} (W : Wk p l e R s m args below meth c Z EL own ws nw T h cells slots) (hx : p.tables.exec = Jvm.exec) (hh : s.heap = h0) (hl : meth.locks = false) (hret : meth.sig.returnType = none) (hd : decode c.code pc = .ok (.return_, 1)) (hc : cells ≤ rm.cells) (hs : slots ≤ rm.slots) (q : Q none h) :
    Gets p.tables e below (Post s Z EL rm h0 ws Q) T (mkF m pc Ls []) :=
  w_end W hh hl (fun _ => rfl) (fun X hr => X.returnOut hx hret hd hr) hc hs q
/-! steps that leave the heap as it is -/
theorem w_get (W : Wk p l e R s m args below meth c Z EL own ws nw T h cells slots) (hx : p.tables.exec = Jvm.exec) {R0 O n d : String} {index : Nat} (w : (Cond.fieldLink own index R0 n d).before a0 Z = true) (via : Via Z R0 O n d) {a : Nat} {v : Value} (F : Fld Z h a O n d v) (hd : decode c.code pc = .ok (.getfield index, 3)) (hp : pc + 3 = pc')
    (k : ∀ T', Wk p l e R s m args below meth c Z EL own ws nw T' h cells slots → Gets p.tables e below P T' (mkF m pc' Ls (v :: st))) : Gets p.tables e below P T (mkF m pc Ls (.ref a :: st)) := by
  subst hp
  obtain ⟨vm0, k0, locs, b0, X, eT, hS, hk, hZ, hown, r⟩ := W
  obtain ⟨T', X', e', stp⟩ := getF X hx hZ hown (host := "") (Or.inl w) via eT F (g := mkF m pc Ls (.ref a :: st)) rfl rfl hd
  exact (k T' ⟨vm0, k0, locs, b0, X', e', hS, hk, hZ, hown, r⟩).by stp
theorem w_getS (W : Wk p l e R s m args below meth c Z EL own ws nw T h cells slots) (hx : p.tables.exec = Jvm.exec) {R0 O n d : String} {index : Nat} (w : (Cond.fieldLink own index R0 n d).before a0 Z = true) (via : Via Z R0 O n d) {v : Value} (F : Sta Z Z.heap O n d v) (hd : decode c.code pc = .ok (.getstatic index, 3)) (hp : pc + 3 = pc')
    (k : ∀ T', Wk p l e R s m args below meth c Z EL own ws nw T' h cells slots → Gets p.tables e below P T' (mkF m pc' Ls (v :: st))) : Gets p.tables e below P T (mkF m pc Ls st) := by
  subst hp
  have O := W.old
  obtain ⟨vm0, k0, locs, b0, X, eT, hS, hk, hZ, hown, r⟩ := W
  obtain ⟨T', X', e', stp⟩ := getS X hx hZ hown (host := "") w via eT (F.ext O) (g := mkF m pc Ls st) rfl hd
  exact (k T' ⟨vm0, k0, locs, b0, X', e', hS, hk, hZ, hown, r⟩).by stp
theorem w_ldcI (W : Wk p l e R s m args below meth c Z EL own ws nw T h cells slots) (hx : p.tables.exec = Jvm.exec) {index : Nat} {v : Int32} (w : (Cond.constant own index v).before a0 Z = true) (hd : decode c.code pc = .ok (.ldc index, 2)) (hp : pc + 2 = pc')
    (k : Gets p.tables e below P T (mkF m pc' Ls (.int v :: st))) : Gets p.tables e below P T (mkF m pc Ls st) := by
  subst hp
  obtain ⟨vm0, k0, locs, b0, X, eT, hS, hk, hZ, hown, r⟩ := W
  exact k.by fun t q => Jvm.Stand.ldcI X hx hown (mv (s := s.setVm vm0) hZ w) (g := mkF m pc Ls st) rfl hd q
theorem w_ldc2J (W : Wk p l e R s m args below meth c Z EL own ws nw T h cells slots) (hx : p.tables.exec = Jvm.exec) {index : Nat} {v : Int64} (w : (Cond.constantLong own index v).before a0 Z = true) (hd : decode c.code pc = .ok (.ldc2_w index, 3)) (hp : pc + 3 = pc')
    (k : Gets p.tables e below P T (mkF m pc' Ls (.long v :: st))) : Gets p.tables e below P T (mkF m pc Ls st) := by
  subst hp
  obtain ⟨vm0, k0, locs, b0, X, eT, hS, hk, hZ, hown, r⟩ := W
  exact k.by fun t q => Jvm.Stand.ldc2J X hx hown (mv (s := s.setVm vm0) hZ w) (g := mkF m pc Ls st) rfl hd q
theorem w_acmp (W : Wk p l e R s m args below meth c Z EL own ws nw T h cells slots) (hx : p.tables.exec = Jvm.exec) {cd : ACond} {x y : Value} {o : Int} (h1 : x.isRef = true) (h2 : y.isRef = true) (same : Bool) (hd : decode c.code pc = .ok (.if_acmp cd o, 3)) (hq : decide (x = y) = same) (ho : 0 ≤ (pc : Int) + o) (hp : pc' = if acV cd same = true then ((pc : Int) + o).toNat else pc + 3)
    (k : Gets p.tables e below P T (mkF m pc' Ls st)) : Gets p.tables e below P T (mkF m pc Ls (y :: x :: st)) := by
  obtain ⟨vm0, k0, locs, b0, X, r⟩ := W
  exact k.by fun t q => Jvm.RoadKit.acmp (g := mkF m pc Ls (y :: x :: st)) X hx rfl h1 h2 (pc0 := pc) (pc' := pc') rfl hd rfl hq ho hp q
theorem w_cast (W : Wk p l e R s m args below meth c Z EL own ws nw T h cells slots) (hx : p.tables.exec = Jvm.exec) {K : String} {index : Nat} (w : (Cond.classLink own index K).before a0 Z = true) {a : Nat} (F : Ins Z h a K true) (hd : decode c.code pc = .ok (.checkcast index, 3)) (hp : pc + 3 = pc')
    (k : ∀ T', Wk p l e R s m args below meth c Z EL own ws nw T' h cells slots → Gets p.tables e below P T' (mkF m pc' Ls (.ref a :: st))) : Gets p.tables e below P T (mkF m pc Ls (.ref a :: st)) := by
  subst hp
  obtain ⟨vm0, k0, locs, b0, X, eT, hS, hk, hZ, hown, r⟩ := W
  obtain ⟨T', X', e', stp⟩ := castY X hx hZ hown w eT F (g := mkF m pc Ls (.ref a :: st)) rfl rfl hd
  exact (k T' ⟨vm0, k0, locs, b0, X', e', hS, hk, hZ, hown, r⟩).by stp
theorem w_inst (W : Wk p l e R s m args below meth c Z EL own ws nw T h cells slots) (hx : p.tables.exec = Jvm.exec) {K : String} {index : Nat} (w : (Cond.classLink own index K).before a0 Z = true) {a : Nat} (F : Ins Z h a K true) (hd : decode c.code pc = .ok (.instanceof index, 3)) (hp : pc + 3 = pc')
    (k : ∀ T', Wk p l e R s m args below meth c Z EL own ws nw T' h cells slots → Gets p.tables e below P T' (mkF m pc' Ls (.int 1 :: st))) : Gets p.tables e below P T (mkF m pc Ls (.ref a :: st)) := by
  subst hp
  obtain ⟨vm0, k0, locs, b0, X, eT, hS, hk, hZ, hown, r⟩ := W
  obtain ⟨T', X', e', stp⟩ := instY X hx hZ hown w eT F (g := mkF m pc Ls (.ref a :: st)) rfl rfl hd
  exact (k T' ⟨vm0, k0, locs, b0, X', e', hS, hk, hZ, hown, r⟩).by stp
theorem w_len (W : Wk p l e R s m args below meth c Z EL own ws nw T h cells slots) (hx : p.tables.exec = Jvm.exec) {a : Nat} {ty : FieldType} {vs : List Value} (F : Ary Z h a ty vs) (hd : decode c.code pc = .ok (.arraylength, 1)) (hp : pc + 1 = pc')
    (k : Gets p.tables e below P T (mkF m pc' Ls (.int vs.length.toInt32 :: st))) : Gets p.tables e below P T (mkF m pc Ls (.ref a :: st)) := by
  subst hp
  obtain ⟨vm0, k0, locs, b0, X, eT, hS, hk, hZ, hown, r⟩ := W
  obtain ⟨cl, A, e1, -, -⟩ := F
  refine k.by fun t q => X.arraylength hx (by rw [eT]; exact A.1) (State.isArrayOf_alike hZ.alike A.2.1) (g := mkF m pc Ls (.ref a :: st)) rfl rfl hd t ?_
  rw [size_of_list e1]; exact q
theorem in_of {cl : Cell} {vs : List Value} {j : Int32} {v : Value} (e : cl.slots.toList = vs) (hj : ¬ j < 0) (hv : vs[j.toNatClampNeg]? = some v) : ¬ (j < 0 ∨ cl.slots.size ≤ j.toNatClampNeg) ∧ cl.slots[j.toNatClampNeg]? = some v := by
  refine ⟨fun q => q.elim hj fun q => ?_, by rw [at_of_list e]; exact hv⟩
  have := (List.getElem?_eq_some_iff.mp hv).1
  rw [size_of_list e] at q; omega
theorem w_caload (W : Wk p l e R s m args below meth c Z EL own ws nw T h cells slots) (hx : p.tables.exec = Jvm.exec) {a : Nat} {vs : List Value} {j : Int32} {v : Value} (F : Ary Z h a .char vs) (hj : ¬ j < 0) (hv : vs[j.toNatClampNeg]? = some v) (hd : decode c.code pc = .ok (.caload, 1)) (hp : pc + 1 = pc')
    (k : Gets p.tables e below P T (mkF m pc' Ls (v :: st))) : Gets p.tables e below P T (mkF m pc Ls (.int j :: .ref a :: st)) := by
  subst hp
  obtain ⟨vm0, k0, locs, b0, X, eT, hS, hk, hZ, hown, r⟩ := W
  obtain ⟨cl, A, e1, -, -⟩ := F
  obtain ⟨q1, q2⟩ := in_of e1 hj hv
  exact k.by fun t q => X.caload hx (by rw [eT]; exact A.1) (State.isArrayOf_alike hZ.alike A.2.1) A.2.2 q1 q2 (g := mkF m pc Ls (.int j :: .ref a :: st)) rfl rfl hd t q
theorem w_baload (W : Wk p l e R s m args below meth c Z EL own ws nw T h cells slots) (hx : p.tables.exec = Jvm.exec) {a : Nat} {vs : List Value} {j : Int32} {v : Value} (F : Ary Z h a .byte vs) (hj : ¬ j < 0) (hv : vs[j.toNatClampNeg]? = some v) (hd : decode c.code pc = .ok (.baload, 1)) (hp : pc + 1 = pc')
    (k : Gets p.tables e below P T (mkF m pc' Ls (v :: st))) : Gets p.tables e below P T (mkF m pc Ls (.int j :: .ref a :: st)) := by
  subst hp
  obtain ⟨vm0, k0, locs, b0, X, eT, hS, hk, hZ, hown, r⟩ := W
  obtain ⟨cl, A, e1, -, -⟩ := F
  obtain ⟨q1, q2⟩ := in_of e1 hj hv
  exact k.by fun t q => X.baloadBytes hx (by rw [eT]; exact A.1) (State.isArrayOf_alike hZ.alike A.2.1) A.2.2 q1 q2 (g := mkF m pc Ls (.int j :: .ref a :: st)) rfl rfl hd t q
theorem w_iaload (W : Wk p l e R s m args below meth c Z EL own ws nw T h cells slots) (hx : p.tables.exec = Jvm.exec) {a : Nat} {vs : List Value} {j : Int32} {v : Value} (F : Ary Z h a .int vs) (hj : ¬ j < 0) (hv : vs[j.toNatClampNeg]? = some v) (hd : decode c.code pc = .ok (.iaload, 1)) (hp : pc + 1 = pc')
    (k : Gets p.tables e below P T (mkF m pc' Ls (v :: st))) : Gets p.tables e below P T (mkF m pc Ls (.int j :: .ref a :: st)) := by
  subst hp
  obtain ⟨vm0, k0, locs, b0, X, eT, hS, hk, hZ, hown, r⟩ := W
  obtain ⟨cl, A, e1, -, -⟩ := F
  obtain ⟨q1, q2⟩ := in_of e1 hj hv
  exact k.by fun t q => X.iaload hx (by rw [eT]; exact A.1) (State.isArrayOf_alike hZ.alike A.2.1) A.2.2 q1 q2 (g := mkF m pc Ls (.int j :: .ref a :: st)) rfl rfl hd t q
theorem w_aaload (W : Wk p l e R s m args below meth c Z EL own ws nw T h cells slots) (hx : p.tables.exec = Jvm.exec) {a : Nat} {ty : FieldType} {vs : List Value} {j : Int32} {v : Value} (F : Ary Z h a ty vs) (hty : ty.isReference = true) (hj : ¬ j < 0) (hv : vs[j.toNatClampNeg]? = some v) (hd : decode c.code pc = .ok (.aaload, 1)) (hp : pc + 1 = pc')
    (k : Gets p.tables e below P T (mkF m pc' Ls (v :: st))) : Gets p.tables e below P T (mkF m pc Ls (.int j :: .ref a :: st)) := by
  subst hp
  obtain ⟨vm0, k0, locs, b0, X, eT, hS, hk, hZ, hown, r⟩ := W
  obtain ⟨cl, A, e1, -, -⟩ := F
  obtain ⟨q1, q2⟩ := in_of e1 hj hv
  exact k.by fun t q => X.aaload hx (by rw [eT]; exact A.1) (State.isArrayOf_alike hZ.alike A.2.1) hty A.2.2 q1 q2 (g := mkF m pc Ls (.int j :: .ref a :: st)) rfl rfl hd t q
theorem w_aaloadA (W : Wk p l e R s m args below meth c Z EL own ws nw T h cells slots) (hx : p.tables.exec = Jvm.exec) {a : Nat} {ty : FieldType} {cl : Cell} {j : Int32} {v : Value} (A : Arr Z h a cl ty) (hty : ty.isReference = true) (hin : ¬ (j < 0 ∨ cl.slots.size ≤ j.toNatClampNeg)) (hv : cl.slots[j.toNatClampNeg]? = some v) (hd : decode c.code pc = .ok (.aaload, 1)) (hp : pc + 1 = pc')
    (k : Gets p.tables e below P T (mkF m pc' Ls (v :: st))) : Gets p.tables e below P T (mkF m pc Ls (.int j :: .ref a :: st)) := by
  subst hp
  obtain ⟨vm0, k0, locs, b0, X, eT, hS, hk, hZ, hown, r⟩ := W
  exact k.by fun t q => X.aaload hx (by rw [eT]; exact A.1) (State.isArrayOf_alike hZ.alike A.2.1) hty A.2.2 hin hv (g := mkF m pc Ls (.int j :: .ref a :: st)) rfl rfl hd t q
theorem w_initO (W : Wk p l e R s m args below meth c Z EL own ws nw T h cells slots) (hx : p.tables.exec = Jvm.exec) {idx : Nat} (w1 : (Cond.methodLink own idx Lib.objectInit).before a0 Z = true) (w2 : (Cond.instanceMethod Lib.objectInit).before a0 Z = true) (w3 : (Cond.code Lib.objectInit ⟨#[0xb1]⟩ 1 none).before a0 Z = true) {a : Nat} (hsz : Ls.size = c.maxLocals) (hd : decode c.code pc = .ok (.invokespecial idx, 3)) (hf : 1 ≤ R.frames) (hW : (st.map fun v => v.category).sum + 12 ≤ R.locals) (hp : pc + 3 = pc')
    (k : ∀ T', Wk p l e R s m args below meth c Z EL own ws nw T' h cells slots → Gets p.tables e below P T' (mkF m pc' Ls st)) : Gets p.tables e below P T (mkF m pc Ls (.ref a :: st)) := by
  subst hp
  obtain ⟨vm0, k0, locs, b0, X, eT, hS, hk, hZ, hown, r⟩ := W
  obtain ⟨T', X', e', stp⟩ := initO X hx hZ hown w1 w2 w3 eT (g := mkF m pc Ls (.ref a :: st)) rfl hsz rfl hd hf (W := (st.map fun v => v.category).sum) (by show 2 * 0 + _ ≤ _; omega) hW
  exact (k T' ⟨vm0, k0, locs, b0, X', e', hS, hk, hZ, hown, r⟩).by stp
/-! steps that move the heap -/
theorem w_new (W : Wk p l e R s m args below meth c Z EL own ws nw T h cells slots) (hx : p.tables.exec = Jvm.exec) {C : String} {index n : Nat} (w : (Cond.classLink own index C).before a0 Z = true) (wi : (Cond.instantiable C n).before a0 Z = true) (wz : (Cond.initialized C).before a0 Z = true) (hd : decode c.code pc = .ok (.new index, 3)) (hc : cells + 1 ≤ R.cells) (hl : slots + n ≤ R.slots) (hp : pc + 3 = pc')
    (k : ∀ (T' : State) (h' : Heap) (b : Nat), b = h.size → Wk p l e R s m args below meth c Z EL own ws (b :: nw) T' h' (cells + 1) (slots + n) → Keep h h' [] → Exa Z h' b C → (∀ {O nm d : String} {ty : FieldType}, Laid Z a0 C O nm d → parseFieldDescriptor d = some ty → Fld Z h' b O nm d (defaultValue ty)) → Gets p.tables e below P T' (mkF m pc' Ls (.ref b :: st))) : Gets p.tables e below P T (mkF m pc Ls st) := by
  subst hp
  obtain ⟨vm0, k0, locs, b0, X, eT, hS, hk, hZ, hown, hE, hC, hF, hO, hK, n1, n2⟩ := W
  obtain ⟨T', h', X', e', E, A, D, -, stp⟩ := newO X hx hZ hown w wi wz eT (g := mkF m pc Ls st) rfl hd hc hl
  have hn : h.size < h'.size := A.lt
  have hs : s.heap.size ≤ h.size := hK.1
  refine (k T' h' h.size rfl ⟨vm0, k0, locs, b0, X', e', hS, Nat.le_trans hk E.1, hZ, hown, hE, hC.trans (CHr.ext E hC.1), hF, ⟨Nat.le_trans hO.1 E.1, fun a c q => E.2 a c (hO.2 a c q)⟩, hK.ext E, fun x hx => ?_, fun x hx => ?_⟩ ((Keep.refl h []).ext E) A D).by stp
  · obtain ⟨a, b, c⟩ := n1 x hx
    exact ⟨a, Nat.lt_of_lt_of_le b E.1, c.ext E hC.1⟩
  · rcases List.mem_cons.mp hx with rfl | hx
    · exact ⟨hs, hO.1, hn, Safe.ext E hC.1 (Safe.new (Nat.le_refl _))⟩
    · obtain ⟨a, b, c, d⟩ := n2 x hx
      exact ⟨a, b, Nat.lt_of_lt_of_le c E.1, d.ext E hC.1⟩
theorem w_newarr (W : Wk p l e R s m args below meth c Z EL own ws nw T h cells slots) (hx : p.tables.exec = Jvm.exec) {aty : ArrayType} (w : (Cond.arrayClass (newarray.typeOf aty)).before a0 Z = true) {n : Int32} (hd : decode c.code pc = .ok (.newarray aty, 2)) (hn : ¬ n < 0) {cap : Nat} (hcap : n.toNatClampNeg ≤ cap) (hb : cap * 8 ≤ 536870912) (hc : cells + 1 ≤ R.cells) (hl : slots + cap ≤ R.slots) (hf : fits (newarray.typeOf aty) (defaultValue (newarray.typeOf aty)) = true) (hp : pc + 2 = pc')
    (k : ∀ (T' : State) (h' : Heap) (b : Nat), b = h.size → Wk p l e R s m args below meth c Z EL own ws (b :: nw) T' h' (cells + 1) (slots + cap) → Keep h h' [] → Ary Z h' b (newarray.typeOf aty) (List.replicate n.toNatClampNeg (defaultValue (newarray.typeOf aty))) → Gets p.tables e below P T' (mkF m pc' Ls (.ref b :: st))) : Gets p.tables e below P T (mkF m pc Ls (.int n :: st)) := by
  subst hp
  obtain ⟨vm0, k0, locs, b0, X, eT, hS, hk, hZ, hown, hE, hC, hF, hO, hK, n1, n2⟩ := W
  obtain ⟨T', h', cA, X', e', E, A, stp⟩ := newP X hx hZ w eT (g := mkF m pc Ls (.int n :: st)) rfl hd rfl hn hcap hb hc hl
  have hn' : h.size < h'.size := A.lt
  have hs : s.heap.size ≤ h.size := hK.1
  refine (k T' h' h.size rfl ⟨vm0, k0, locs, b0, X', e', hS, Nat.le_trans hk E.1, hZ, hown, hE, hC.trans (CHr.ext E hC.1), hF, ⟨Nat.le_trans hO.1 E.1, fun a c q => E.2 a c (hO.2 a c q)⟩, hK.ext E, fun x hx => ?_, fun x hx => ?_⟩ ((Keep.refl h []).ext E) (Ary.made A hn hf)).by stp
  · obtain ⟨a, b, c⟩ := n1 x hx
    exact ⟨a, Nat.lt_of_lt_of_le b E.1, c.ext E hC.1⟩
  · rcases List.mem_cons.mp hx with rfl | hx
    · exact ⟨hs, hO.1, hn', Safe.ext E hC.1 (Safe.new (Nat.le_refl _))⟩
    · obtain ⟨a, b, c, d⟩ := n2 x hx
      exact ⟨a, b, Nat.lt_of_lt_of_le c E.1, d.ext E hC.1⟩
theorem Wk.wrote {vm0 : Vm} {k0 : Nat} {locs : List Loc} {b0 : Array Value} {T' : State} {h' : Heap} {a : Nat} {sl : Nat} {v : Value} (ha : a ∈ ws ++ nw) (WW : Wr h h' a sl v) (X' : Stand p l e R (s.setVm vm0) m args below meth c T' (locs ++ [⟨a, sl⟩]) cells slots) (e' : T'.heap = h')
    (r : s.Since vm0 k0 ∧ k0 ≤ h.size ∧ Z.Warmed39 vm0 ∧ vm0.findClass own = some m.cls ∧ EW Z b0 EL ∧ CHr Z EL s.vm s.heap vm0 h ∧ Fr Z.heap.size locs ∧ Ext Z.heap h ∧ Keep s.heap h ws ∧ (∀ x : Nat, x ∈ ws → Z.heap.size ≤ x ∧ x < h.size ∧ Safe Z EL vm0 h x) ∧ (∀ x : Nat, x ∈ nw → s.heap.size ≤ x ∧ Z.heap.size ≤ x ∧ x < h.size ∧ Safe Z EL vm0 h x)) :
    Wk p l e R s m args below meth c Z EL own ws nw T' h' cells slots := by
  obtain ⟨hS, hk, hZ, hown, hE, hC, hF, hO, hK, n1, n2⟩ := r
  have sz := WW.size
  have key : Z.heap.size ≤ a ∧ Safe Z EL vm0 h a ∧ (a ∈ ws ∨ s.heap.size ≤ a) := by
    rcases List.mem_append.mp ha with q | q
    · exact ⟨(n1 a q).1, (n1 a q).2.2, Or.inl q⟩
    · exact ⟨(n2 a q).2.1, (n2 a q).2.2.2, Or.inr (n2 a q).1⟩
  have K1 : Keep h h' [a] := Keep.of_wr WW
  refine ⟨vm0, k0, locs ++ [⟨a, sl⟩], b0, X', e', hS, by omega, hZ, hown, hE, hC.trans (CHr.wr WW key.2.1 hC.1), Fr.snoc X' hF key.1, ⟨by have := hO.1; omega, fun x cc q => K1.2.1 x cc (hO.2 x cc q) fun z => ?_⟩, hK.wr WW key.2.2, fun x hx => ?_, fun x hx => ?_⟩
  · cases List.mem_singleton.mp z
    have := (Array.getElem?_eq_some_iff.mp q).1
    omega
  · obtain ⟨q1, q2, q3⟩ := n1 x hx
    exact ⟨q1, by omega, Safe.wr WW key.2.1 hC.1 q3⟩
  · obtain ⟨q1, q2, q3, q4⟩ := n2 x hx
    exact ⟨q1, q2, by omega, Safe.wr WW key.2.1 hC.1 q4⟩
theorem w_put (W : Wk p l e R s m args below meth c Z EL own ws nw T h cells slots) (hx : p.tables.exec = Jvm.exec) {R0 O n d C : String} {index kk : Nat} {ty : FieldType} (w : (Cond.fieldLink own index R0 n d).before a0 Z = true) (via : Via Z R0 O n d) {a : Nat} {v old : Value} (F : Fld Z h a O n d old) (E : Exa Z h a C) (L : (Cond.lays C O n d).before a0 Z = true ∨ ((Cond.laysFinal C O n d).before a0 Z = true ∧ own = O ∧ meth.name = "<init>")) (wi : (Cond.instantiable C kk).before a0 Z = true)
    (hty : parseFieldDescriptor d = some ty) (hn : narrow ty v = v) (hf : fits ty v = true) (ha : a ∈ ws ++ nw) (hd : decode c.code pc = .ok (.putfield index, 3)) (hp : pc + 3 = pc')
    (k : ∀ T' h', Wk p l e R s m args below meth c Z EL own ws nw T' h' cells slots → Keep h h' [a] → Wr h h' a (Jvm.RoadKit.slotOf Z O n d) v → Fld Z h' a O n d v → Exa Z h' a C → Gets p.tables e below P T' (mkF m pc' Ls st)) : Gets p.tables e below P T (mkF m pc Ls (v :: .ref a :: st)) := by
  subst hp
  obtain ⟨vm0, k0, locs, b0, X, eT, r⟩ := W
  obtain ⟨T', h', X', e', WW, stp⟩ := putF X hx r.2.2.1 r.2.2.2.1 (host := "") (Or.inl w) via eT F E L wi hty hn hf (g := mkF m pc Ls (v :: .ref a :: st)) rfl rfl hd
  exact (k T' h' (Wk.wrote ha WW X' e' r) (Keep.of_wr WW) WW (F.same WW) (E.wr WW)).by stp
theorem w_putN (W : Wk p l e R s m args below meth c Z EL own ws nw T h cells slots) (hx : p.tables.exec = Jvm.exec) {R0 O n d C : String} {index kk : Nat} {ty : FieldType} (w : (Cond.fieldLink own index R0 n d).before a0 Z = true) (via : Via Z R0 O n d) {a : Nat} {v v' old : Value} (F : Fld Z h a O n d old) (E : Exa Z h a C) (L : (Cond.lays C O n d).before a0 Z = true ∨ ((Cond.laysFinal C O n d).before a0 Z = true ∧ own = O ∧ meth.name = "<init>")) (wi : (Cond.instantiable C kk).before a0 Z = true)
    (hty : parseFieldDescriptor d = some ty) (hn : narrow ty v = v') (hf : fits ty v' = true) (ha : a ∈ ws ++ nw) (hd : decode c.code pc = .ok (.putfield index, 3)) (hp : pc + 3 = pc')
    (k : ∀ T' h', Wk p l e R s m args below meth c Z EL own ws nw T' h' cells slots → Keep h h' [a] → Wr h h' a (Jvm.RoadKit.slotOf Z O n d) v' → Fld Z h' a O n d v' → Exa Z h' a C → Gets p.tables e below P T' (mkF m pc' Ls st)) : Gets p.tables e below P T (mkF m pc Ls (v :: .ref a :: st)) := by
  subst hp
  obtain ⟨vm0, k0, locs, b0, X, eT, r⟩ := W
  obtain ⟨T', h', X', e', WW, stp⟩ := putFN X hx r.2.2.1 r.2.2.2.1 w via eT F E L wi hty hn hf (g := mkF m pc Ls (v :: .ref a :: st)) rfl rfl hd
  exact (k T' h' (Wk.wrote ha WW X' e' r) (Keep.of_wr WW) WW (F.same WW) (E.wr WW)).by stp
theorem w_castore (W : Wk p l e R s m args below meth c Z EL own ws nw T h cells slots) (hx : p.tables.exec = Jvm.exec) {a : Nat} {vs : List Value} {j x : Int32} (F : Ary Z h a .char vs) (hj : ¬ j < 0) (hi : j.toNatClampNeg < vs.length) (ha : a ∈ ws ++ nw) {x' : Int32} (hq : nar .char x = x') (hd : decode c.code pc = .ok (.castore, 1)) (hp : pc + 1 = pc')
    (k : ∀ T' h', Wk p l e R s m args below meth c Z EL own ws nw T' h' cells slots → Keep h h' [a] → Ary Z h' a .char (vs.set j.toNatClampNeg (.int x')) → Gets p.tables e below P T' (mkF m pc' Ls st)) : Gets p.tables e below P T (mkF m pc Ls (.int x :: .int j :: .ref a :: st)) := by
  subst hp; subst hq
  obtain ⟨vm0, k0, locs, b0, X, eT, r⟩ := W
  obtain ⟨cl, A, e1, e2, e3⟩ := F
  obtain ⟨T', h', X', e', WW, stp⟩ := stC X hx r.2.2.1 eT A (j := j) (x := x) (fun q => q.elim hj fun q => by rw [size_of_list e1] at q; omega) (g := mkF m pc Ls (.int x :: .int j :: .ref a :: st)) rfl rfl hd
  exact (k T' h' (Wk.wrote ha WW X' e' r) (Keep.of_wr WW) (Ary.wrote A e1 e2 e3 (fits_nar_char x) WW)).by stp
theorem w_bastore (W : Wk p l e R s m args below meth c Z EL own ws nw T h cells slots) (hx : p.tables.exec = Jvm.exec) {a : Nat} {vs : List Value} {j x : Int32} (F : Ary Z h a .byte vs) (hj : ¬ j < 0) (hi : j.toNatClampNeg < vs.length) (ha : a ∈ ws ++ nw) {x' : Int32} (hq : x.toInt8.toInt32 = x') (hd : decode c.code pc = .ok (.bastore, 1)) (hp : pc + 1 = pc')
    (k : ∀ T' h', Wk p l e R s m args below meth c Z EL own ws nw T' h' cells slots → Keep h h' [a] → Ary Z h' a .byte (vs.set j.toNatClampNeg (.int x')) → Gets p.tables e below P T' (mkF m pc' Ls st)) : Gets p.tables e below P T (mkF m pc Ls (.int x :: .int j :: .ref a :: st)) := by
  subst hp; subst hq
  obtain ⟨vm0, k0, locs, b0, X, eT, r⟩ := W
  obtain ⟨cl, A, e1, e2, e3⟩ := F
  obtain ⟨T', h', X', e', WW, stp⟩ := stB X hx r.2.2.1 eT A (j := j) (x := x) (fun q => q.elim hj fun q => by rw [size_of_list e1] at q; omega) (g := mkF m pc Ls (.int x :: .int j :: .ref a :: st)) rfl rfl hd
  exact (k T' h' (Wk.wrote ha WW X' e' r) (Keep.of_wr WW) (Ary.wrote A e1 e2 e3 (fits_nar_byte x) WW)).by stp
theorem w_iastore (W : Wk p l e R s m args below meth c Z EL own ws nw T h cells slots) (hx : p.tables.exec = Jvm.exec) {a : Nat} {vs : List Value} {j x : Int32} (F : Ary Z h a .int vs) (hj : ¬ j < 0) (hi : j.toNatClampNeg < vs.length) (ha : a ∈ ws ++ nw) (hd : decode c.code pc = .ok (.iastore, 1)) (hp : pc + 1 = pc')
    (k : ∀ T' h', Wk p l e R s m args below meth c Z EL own ws nw T' h' cells slots → Keep h h' [a] → Ary Z h' a .int (vs.set j.toNatClampNeg (.int x)) → Gets p.tables e below P T' (mkF m pc' Ls st)) : Gets p.tables e below P T (mkF m pc Ls (.int x :: .int j :: .ref a :: st)) := by
  subst hp
  obtain ⟨vm0, k0, locs, b0, X, eT, r⟩ := W
  obtain ⟨cl, A, e1, e2, e3⟩ := F
  obtain ⟨T', h', X', e', WW, stp⟩ := stI X hx r.2.2.1 eT A (j := j) (x := x) (fun q => q.elim hj fun q => by rw [size_of_list e1] at q; omega) (g := mkF m pc Ls (.int x :: .int j :: .ref a :: st)) rfl rfl hd
  exact (k T' h' (Wk.wrote ha WW X' e' r) (Keep.of_wr WW) (Ary.wrote A e1 e2 e3 rfl WW)).by stp
/-! calls -/
theorem backC {y : MethodName} {bytes : ByteArray} {maxL : Nat} {ret : Option FieldType} {rm : Room} {len W : Nat} {as' : Array Value} {Q : Option Value → Heap → Prop} {vm0 : Vm} {wsc : List Addr}
    (hM : Con l Z EL y bytes maxL ret rm as' h wsc Q) (hZ : Z.Warmed39 vm0) (wc : (Cond.code y bytes maxL ret).before a0 Z = true) (wz : (Cond.initialized y.cls).before a0 Z = true) (hf : rm.frames + 1 ≤ R.frames) (hl : W + (maxL + 11) + rm.locals ≤ R.locals) {b0 : Array Value} (hEL : EW Z b0 EL) (H : CHv Z EL vm0 h) (hs : ∀ x : Nat, x ∈ wsc → x < h.size ∧ Safe Z EL vm0 h x) :
    BackS l R p e below (s.setVm vm0) args y len W (fun A a => a = as' ∧ A.U.heap = h ∧ A.cells + rm.cells ≤ R.cells ∧ A.slots + rm.slots ≤ R.slots)
      (fun A _ v B => ∃ L, (Q v B.U.heap ∧ Fr Z.heap.size L ∧ Keep h B.U.heap wsc ∧ Ext Z.heap B.U.heap) ∧ B.locs = A.locs ++ L ∧ B.cells = A.cells + rm.cells ∧ B.slots = A.slots + rm.slots ∧ CHr Z EL vm0 h B.U.vm B.U.heap) :=
  BackS.of_freeW (bytes := bytes) (maxL := maxL) (ret := ret) (E := fun _ first o t L k n => k = rm.cells ∧ n = rm.slots ∧ (∃ v, o = .returned v ∧ (Q v t.heap ∧ Fr Z.heap.size L ∧ Keep h t.heap wsc ∧ Ext Z.heap t.heap)) ∧ CHr Z EL first.vm first.heap t.vm t.heap) hM hf hl
    (fun m meth c A a Y hp => have hU : Z.Warmed39 A.U.vm := wtrans (s := s.setVm vm0) hZ Y.warmed
      ⟨by show (Cond.and _ .tt).before a A.U = true; rw [Cond.before_and, mv hU wc]; rfl, mv hU wc, mv hU wz, hp.2.2.1, hp.2.2.2⟩)
    (fun m meth c A a g mk Y hp => ⟨hp.1, wtrans (s := s.setVm vm0) hZ Y.warmed, hp.2.1, (CHv.at Y hZ hEL H).1, fun x hx => (CHv.at Y hZ hEL H).safe (hs x hx).1 (hs x hx).2⟩) (fun _ _ _ _ _ _ _ _ _ => trivial)
    (fun _ _ _ _ ⟨v, L, h1, h2, h3, h4⟩ => ⟨L, _, _, h4, rfl, rfl, ⟨v, h1, h2⟩, h3⟩)
    (fun m meth c A a g mk v t L k n Y hp _ _ ⟨e1, e2, ⟨v', e3, e4⟩, e5⟩ => by
      cases e3; subst e1 e2
      refine ⟨L, e4, rfl, rfl, rfl, (CHv.at Y hZ hEL H).trans ?_⟩
      rw [← hp.2.1]; exact e5)
theorem Wk.called {vm0 : Vm} {k0 : Nat} {locs L : List Loc} {b0 : Array Value} {T' : State} {h' : Heap} {wsc : List Addr} {n c' s' : Nat} (hw : ∀ x ∈ wsc, x ∈ ws ++ nw) (X' : Stand p l e R ((s.setVm vm0).setVm T'.vm) m args below meth c T' (locs ++ L) c' s') (e' : T'.heap = h') (h2 : (s.setVm vm0).Since T'.vm n) (hn : n ≤ h'.size) (hln : h.size ≤ n) (F : Fr Z.heap.size L) (K : Keep h h' wsc) (O' : Ext Z.heap h') (C' : CHr Z EL vm0 h T'.vm h')
    (r : s.Since vm0 k0 ∧ k0 ≤ h.size ∧ Z.Warmed39 vm0 ∧ vm0.findClass own = some m.cls ∧ EW Z b0 EL ∧ CHr Z EL s.vm s.heap vm0 h ∧ Fr Z.heap.size locs ∧ Ext Z.heap h ∧ Keep s.heap h ws ∧ (∀ x : Nat, x ∈ ws → Z.heap.size ≤ x ∧ x < h.size ∧ Safe Z EL vm0 h x) ∧ (∀ x : Nat, x ∈ nw → s.heap.size ≤ x ∧ Z.heap.size ≤ x ∧ x < h.size ∧ Safe Z EL vm0 h x)) :
    Wk p l e R s m args below meth c Z EL own ws nw T' h' c' s' := by
  obtain ⟨hS, hk, hZ, hown, hE, hC, hF, hO, hK, n1, n2⟩ := r
  have sz := K.1
  refine ⟨T'.vm, n, locs ++ L, b0, X', e', hS.trans h2 (by omega), hn, State.Warmed39.trans (t := s.setVm vm0) hZ h2.1, (h2.1.alike.findClass _ _).trans hown, hE, hC.trans C', Fr.app hF F, O', hK.trans K (fun x hx => ?_), fun x hx => ?_, fun x hx => ?_⟩
  · rcases List.mem_append.mp (hw x hx) with q | q
    · exact Or.inl q
    · exact Or.inr (n2 x q).1
  · obtain ⟨q1, q2, q3⟩ := n1 x hx
    exact ⟨q1, by omega, C'.safe q2 q3⟩
  · obtain ⟨q1, q2, q3, q4⟩ := n2 x hx
    exact ⟨q1, q2, by omega, C'.safe q3 q4⟩
theorem w_callS (W : Wk p l e R s m args below meth c Z EL own ws nw T h cells slots) (hx : p.tables.exec = Jvm.exec) {index : Nat} {y : MethodName} {bytes : ByteArray} {maxL : Nat} {ret : Option FieldType} {rm : Room} {Q : Option Value → Heap → Prop} {wsc : List Addr} (argsL : List Value)
    (w1 : (Cond.methodLink own index y).before a0 Z = true) (w2 : (Cond.static y).before a0 Z = true) (w3 : (Cond.initialized y.cls).before a0 Z = true) (w4 : (Cond.code y bytes maxL ret).before a0 Z = true) (hy : y.cls ≠ "java/lang/invoke/MethodHandle" ∧ y.cls ≠ "java/lang/invoke/VarHandle")
    (H : Con l Z EL y bytes maxL ret rm argsL.toArray h wsc Q) (hwc : ∀ x ∈ wsc, x ∈ ws ++ nw) (hsz : Ls.size = c.maxLocals) (hlen : ∀ sig, parseMethodDescriptor y.desc = some sig → argsL.length = sig.parameters.length) {stk : List Value} (hstk : stk = argsL.reverse ++ st) (hd : decode c.code pc = .ok (.invokestatic index, 3))
    (hf : rm.frames + 1 ≤ R.frames) (hl : (st.map fun v => v.category).sum + (maxL + 11) + rm.locals ≤ R.locals) (hc : cells + rm.cells ≤ R.cells) (hs : slots + rm.slots ≤ R.slots) (hp : pc + 3 = pc')
    (k : ∀ v T' h', Wk p l e R s m args below meth c Z EL own ws nw T' h' (cells + rm.cells) (slots + rm.slots) → Keep h h' wsc → Q v h' → Gets p.tables e below P T' (mkF m pc' Ls (v.toList ++ st))) : Gets p.tables e below P T (mkF m pc Ls stk) := by
  subst hp
  obtain ⟨vm0, k0, locs, b0, X, eT, r⟩ := W
  obtain ⟨hS, hk, hZ, hown, hE, hC, hF, hO, hK, n1, n2⟩ := id r
  have sf : ∀ x : Nat, x ∈ wsc → x < h.size ∧ Safe Z EL vm0 h x := fun x hx => by
    rcases List.mem_append.mp (hwc x hx) with q | q
    · exact (n1 x q).2
    · exact (n2 x q).2.2
  obtain ⟨v, vm1, ⟨T', L', c', s'⟩, -, X', hS2, hg2, ⟨L, ⟨q1, q2, q3, q4⟩, l1, l2, l3, C'⟩, stp⟩ := callSS X hx (y := y) hown (mv (s := s.setVm vm0) hZ w1) (mv (s := s.setVm vm0) hZ w2) (mv (s := s.setVm vm0) hZ w3) (mv (s := s.setVm vm0) hZ w4) hy (backC (W := (st.map fun v => v.category).sum) H hZ w4 w3 hf hl hE hC.1 sf) (g := mkF m pc Ls stk) rfl hsz (argsL := argsL) (rest := st) hlen hstk (by show 2 * 0 + _ ≤ _; omega) hd (fun _ _ => ⟨rfl, eT, hc, hs⟩)
  dsimp only [Pt.U, Pt.locs, Pt.cells, Pt.slots] at X' hS2 hg2 q1 q3 q4 l1 l2 l3 C' stp
  subst l1 l2 l3
  exact (k v T' _ (Wk.called (h' := T'.heap) hwc X' rfl hS2 (Nat.le_refl _) (by rw [← eT]; exact hg2) q2 q3 q4 C' r) q3 q1).by fun t q => stp.trans q
theorem w_special (W : Wk p l e R s m args below meth c Z EL own ws nw T h cells slots) (hx : p.tables.exec = Jvm.exec) {index : Nat} {y : MethodName} {bytes : ByteArray} {maxL : Nat} {rm : Room} {Q : Option Value → Heap → Prop} {wsc : List Addr} {a : Nat} (argsL : List Value) (hy1 : y.name = "<init>")
    (w1 : (Cond.methodLink own index y).before a0 Z = true) (w2 : (Cond.instanceMethod y).before a0 Z = true) (w3 : (Cond.initialized y.cls).before a0 Z = true) (w4 : (Cond.code y bytes maxL none).before a0 Z = true) (hy : y.cls ≠ "java/lang/invoke/MethodHandle" ∧ y.cls ≠ "java/lang/invoke/VarHandle")
    (H : Con l Z EL y bytes maxL none rm (.ref a :: argsL).toArray h wsc Q) (hwc : ∀ x ∈ wsc, x ∈ ws ++ nw) (hsz : Ls.size = c.maxLocals) (hlen : ∀ sig, parseMethodDescriptor y.desc = some sig → argsL.length = sig.parameters.length) {stk : List Value} (hstk : stk = argsL.reverse ++ .ref a :: st) (hd : decode c.code pc = .ok (.invokespecial index, 3))
    (hf : rm.frames + 1 ≤ R.frames) (hl : (st.map fun v => v.category).sum + (maxL + 11) + rm.locals ≤ R.locals) (hc : cells + rm.cells ≤ R.cells) (hs : slots + rm.slots ≤ R.slots) (hp : pc + 3 = pc')
    (k : ∀ v T' h', Wk p l e R s m args below meth c Z EL own ws nw T' h' (cells + rm.cells) (slots + rm.slots) → Keep h h' wsc → Q v h' → Gets p.tables e below P T' (mkF m pc' Ls (v.toList ++ st))) : Gets p.tables e below P T (mkF m pc Ls stk) := by
  subst hp
  obtain ⟨vm0, k0, locs, b0, X, eT, r⟩ := W
  obtain ⟨hS, hk, hZ, hown, hE, hC, hF, hO, hK, n1, n2⟩ := id r
  have sf : ∀ x : Nat, x ∈ wsc → x < h.size ∧ Safe Z EL vm0 h x := fun x hx => by
    rcases List.mem_append.mp (hwc x hx) with q | q
    · exact (n1 x q).2
    · exact (n2 x q).2.2
  obtain ⟨v, vm1, ⟨T', L', c', s'⟩, -, X', hS2, hg2, ⟨L, ⟨q1, q2, q3, q4⟩, l1, l2, l3, C'⟩, stp⟩ := X.specialBackS hx (y := y) hy1 hown (mv (s := s.setVm vm0) hZ w1) (mv (s := s.setVm vm0) hZ w2) (mv (s := s.setVm vm0) hZ w4) hy (backC (W := (st.map fun v => v.category).sum) H hZ w4 w3 hf hl hE hC.1 sf) (g := mkF m pc Ls stk) rfl hsz (Steps.refl _) (a := a) (argsL := argsL) (rest := st) hlen hstk (by show 2 * 0 + _ ≤ _; omega) hd (fun _ _ => ⟨rfl, eT, hc, hs⟩)
  dsimp only [Pt.U, Pt.locs, Pt.cells, Pt.slots] at X' hS2 hg2 q1 q3 q4 l1 l2 l3 C' stp
  subst l1 l2 l3
  exact (k v T' _ (Wk.called (h' := T'.heap) hwc X' rfl hS2 (Nat.le_refl _) (by rw [← eT]; exact hg2) q2 q3 q4 C' r) q3 q1).by fun t q => stp.trans q
theorem w_virtual (W : Wk p l e R s m args below meth c Z EL own ws nw T h cells slots) (hx : p.tables.exec = Jvm.exec) {index : Nat} {y z : MethodName} {C : String} {bytes : ByteArray} {maxL : Nat} {ret : Option FieldType} {rm : Room} {Q : Option Value → Heap → Prop} {wsc : List Addr} {a : Nat} (argsL : List Value)
    (w1 : (Cond.methodLink own index y).before a0 Z = true) (w2 : (Cond.declares y).before a0 Z = true) (hnf : ∀ {U : State}, Z.Warmed39 U.vm → NotFace U y) (w3 : (Cond.selects C y z).before a0 Z = true) (w5 : (Cond.instanceMethod z).before a0 Z = true) (w6 : (Cond.initialized z.cls).before a0 Z = true) (w4 : (Cond.code z bytes maxL ret).before a0 Z = true) (hy : y.cls ≠ "java/lang/invoke/MethodHandle" ∧ y.cls ≠ "java/lang/invoke/VarHandle")
    (H : Con l Z EL z bytes maxL ret rm (.ref a :: argsL).toArray h wsc Q) (E : Exa Z h a C) (hwc : ∀ x ∈ wsc, x ∈ ws ++ nw) (hsz : Ls.size = c.maxLocals) (hlen : ∀ sig, parseMethodDescriptor y.desc = some sig → argsL.length = sig.parameters.length) {stk : List Value} (hstk : stk = argsL.reverse ++ .ref a :: st) (hd : decode c.code pc = .ok (.invokevirtual index, 3))
    (hf : rm.frames + 1 ≤ R.frames) (hl : (st.map fun v => v.category).sum + (maxL + 11) + rm.locals ≤ R.locals) (hc : cells + rm.cells ≤ R.cells) (hs : slots + rm.slots ≤ R.slots) (hp : pc + 3 = pc')
    (k : ∀ v T' h', Wk p l e R s m args below meth c Z EL own ws nw T' h' (cells + rm.cells) (slots + rm.slots) → Keep h h' wsc → Q v h' → Gets p.tables e below P T' (mkF m pc' Ls (v.toList ++ st))) : Gets p.tables e below P T (mkF m pc Ls stk) := by
  subst hp
  obtain ⟨vm0, k0, locs, b0, X, eT, r⟩ := W
  obtain ⟨hS, hk, hZ, hown, hE, hC, hF, hO, hK, n1, n2⟩ := id r
  have sf : ∀ x : Nat, x ∈ wsc → x < h.size ∧ Safe Z EL vm0 h x := fun x hx => by
    rcases List.mem_append.mp (hwc x hx) with q | q
    · exact (n1 x q).2
    · exact (n2 x q).2.2
  obtain ⟨cq, kq, qa, qb, qc⟩ := isOf (s := s.setVm vm0) hZ eT E
  obtain ⟨v, vm1, ⟨T', L', c', s'⟩, -, X', hS2, hg2, ⟨L, ⟨q1, q2, q3, q4⟩, l1, l2, l3, C'⟩, stp⟩ := X.virtualBackS hx (y := y) (z := z) hown (mv (s := s.setVm vm0) hZ w1) (mv (s := s.setVm vm0) hZ w2) (hnf (U := s.setVm vm0) hZ) (mv (s := s.setVm vm0) hZ w3) (mv (s := s.setVm vm0) hZ w5) hy (backC (W := (st.map fun v => v.category).sum) H hZ w4 w6 hf hl hE hC.1 sf) qa qc (g := mkF m pc Ls stk) rfl hsz (Steps.refl _) (argsL := argsL) (rest := st) hlen hstk (by show 2 * 0 + _ ≤ _; omega) hd (fun _ _ => ⟨rfl, eT, hc, hs⟩)
  dsimp only [Pt.U, Pt.locs, Pt.cells, Pt.slots] at X' hS2 hg2 q1 q3 q4 l1 l2 l3 C' stp
  subst l1 l2 l3
  exact (k v T' _ (Wk.called (h' := T'.heap) hwc X' rfl hS2 (Nat.le_refl _) (by rw [← eT]; exact hg2) q2 q3 q4 C' r) q3 q1).by fun t q => stp.trans q
theorem w_virtualUp (W : Wk p l e R s m args below meth c Z EL own ws nw T h cells slots) (hx : p.tables.exec = Jvm.exec) {index : Nat} {y z : MethodName} {C owner : String} {bytes : ByteArray} {maxL : Nat} {ret : Option FieldType} {rm : Room} {Q : Option Value → Heap → Prop} {wsc : List Addr} {a : Nat} (argsL : List Value)
    (w1 : (Cond.methodLink own index y).before a0 Z = true) (w7 : (Cond.sameMethod y.cls owner y.name y.desc).before a0 Z = true) (w2 : (Cond.declares ⟨owner, y.name, y.desc⟩).before a0 Z = true) (w3 : (Cond.selects C y z).before a0 Z = true) (w5 : (Cond.instanceMethod z).before a0 Z = true) (w6 : (Cond.initialized z.cls).before a0 Z = true) (w4 : (Cond.code z bytes maxL ret).before a0 Z = true) (hy : owner ≠ "java/lang/invoke/MethodHandle" ∧ owner ≠ "java/lang/invoke/VarHandle")
    (H : Con l Z EL z bytes maxL ret rm (.ref a :: argsL).toArray h wsc Q) (E : Exa Z h a C) (hwc : ∀ x ∈ wsc, x ∈ ws ++ nw) (hsz : Ls.size = c.maxLocals) (hlen : ∀ sig, parseMethodDescriptor y.desc = some sig → argsL.length = sig.parameters.length) {stk : List Value} (hstk : stk = argsL.reverse ++ .ref a :: st) (hd : decode c.code pc = .ok (.invokevirtual index, 3))
    (hf : rm.frames + 1 ≤ R.frames) (hl : (st.map fun v => v.category).sum + (maxL + 11) + rm.locals ≤ R.locals) (hc : cells + rm.cells ≤ R.cells) (hs : slots + rm.slots ≤ R.slots) (hp : pc + 3 = pc')
    (k : ∀ v T' h', Wk p l e R s m args below meth c Z EL own ws nw T' h' (cells + rm.cells) (slots + rm.slots) → Keep h h' wsc → Q v h' → Gets p.tables e below P T' (mkF m pc' Ls (v.toList ++ st))) : Gets p.tables e below P T (mkF m pc Ls stk) := by
  subst hp
  obtain ⟨vm0, k0, locs, b0, X, eT, r⟩ := W
  obtain ⟨hS, hk, hZ, hown, hE, hC, hF, hO, hK, n1, n2⟩ := id r
  have sf : ∀ x : Nat, x ∈ wsc → x < h.size ∧ Safe Z EL vm0 h x := fun x hx => by
    rcases List.mem_append.mp (hwc x hx) with q | q
    · exact (n1 x q).2
    · exact (n2 x q).2.2
  obtain ⟨cq, kq, qa, qb, qc⟩ := isOf (s := s.setVm vm0) hZ eT E
  obtain ⟨v, vm1, ⟨T', L', c', s'⟩, -, X', hS2, hg2, ⟨L, ⟨q1, q2, q3, q4⟩, l1, l2, l3, C'⟩, stp⟩ := X.virtualBackUpS hx (x := y) (y := z) hown (mv (s := s.setVm vm0) hZ w1) (mv (s := s.setVm vm0) hZ w7) (mv (s := s.setVm vm0) hZ w2) hy (mv (s := s.setVm vm0) hZ w3) (mv (s := s.setVm vm0) hZ w5) (backC (W := (st.map fun v => v.category).sum) H hZ w4 w6 hf hl hE hC.1 sf) qa qc (g := mkF m pc Ls stk) rfl hsz (Steps.refl _) (argsL := argsL) (rest := st) hlen hstk (by show 2 * 0 + _ ≤ _; omega) hd (fun _ _ => ⟨rfl, eT, hc, hs⟩)
  dsimp only [Pt.U, Pt.locs, Pt.cells, Pt.slots] at X' hS2 hg2 q1 q3 q4 l1 l2 l3 C' stp
  subst l1 l2 l3
  exact (k v T' _ (Wk.called (h' := T'.heap) hwc X' rfl hS2 (Nat.le_refl _) (by rw [← eT]; exact hg2) q2 q3 q4 C' r) q3 q1).by fun t q => stp.trans q
theorem nfS {y z : MethodName} {C : String} (w : (Cond.selects C y y).before a0 Z = true) {U : State} (hZ : Z.Warmed39 U.vm) : NotFace U y := notFace_of_selects (args := #[]) (mv hZ w)
theorem w_iface (W : Wk p l e R s m args below meth c Z EL own ws nw T h cells slots) (hx : p.tables.exec = Jvm.exec) {index count : Nat} {y z : MethodName} {C : String} {bytes : ByteArray} {maxL : Nat} {ret : Option FieldType} {rm : Room} {Q : Option Value → Heap → Prop} {wsc : List Addr} {a : Nat} (argsL : List Value)
    (w1 : (Cond.methodLink own index y).before a0 Z = true) (w2 : (Cond.declares y).before a0 Z = true) (w7 : (Cond.interfaceMethod y.cls y.cls y.name y.desc).before a0 Z = true) (w3 : (Cond.selects C y z).before a0 Z = true) (w5 : (Cond.instanceMethod z).before a0 Z = true) (w8 : (Cond.publicMethod z).before a0 Z = true) (w9 : (Cond.unhidden C y.name y.desc).before a0 Z = true) (w10 : (Cond.castable C y.cls).before a0 Z = true) (w6 : (Cond.initialized z.cls).before a0 Z = true) (w4 : (Cond.code z bytes maxL ret).before a0 Z = true) (hy : y.cls ≠ "java/lang/invoke/MethodHandle" ∧ y.cls ≠ "java/lang/invoke/VarHandle")
    (H : Con l Z EL z bytes maxL ret rm (.ref a :: argsL).toArray h wsc Q) (E : Exa Z h a C) (hwc : ∀ x ∈ wsc, x ∈ ws ++ nw) (hsz : Ls.size = c.maxLocals) (hlen : ∀ sig, parseMethodDescriptor y.desc = some sig → argsL.length = sig.parameters.length) {stk : List Value} (hstk : stk = argsL.reverse ++ .ref a :: st) (hd : decode c.code pc = .ok (.invokeinterface index count, 5))
    (hf : rm.frames + 1 ≤ R.frames) (hl : (st.map fun v => v.category).sum + (maxL + 11) + rm.locals ≤ R.locals) (hc : cells + rm.cells ≤ R.cells) (hs : slots + rm.slots ≤ R.slots) (hp : pc + 5 = pc')
    (k : ∀ v T' h', Wk p l e R s m args below meth c Z EL own ws nw T' h' (cells + rm.cells) (slots + rm.slots) → Keep h h' wsc → Q v h' → Gets p.tables e below P T' (mkF m pc' Ls (v.toList ++ st))) : Gets p.tables e below P T (mkF m pc Ls stk) := by
  subst hp
  obtain ⟨vm0, k0, locs, b0, X, eT, r⟩ := W
  obtain ⟨hS, hk, hZ, hown, hE, hC, hF, hO, hK, n1, n2⟩ := id r
  have sf : ∀ x : Nat, x ∈ wsc → x < h.size ∧ Safe Z EL vm0 h x := fun x hx => by
    rcases List.mem_append.mp (hwc x hx) with q | q
    · exact (n1 x q).2
    · exact (n2 x q).2.2
  obtain ⟨cq, kq, qa, qb, qc⟩ := isOf (s := s.setVm vm0) hZ eT E
  obtain ⟨v, vm1, ⟨T', L', c', s'⟩, -, X', hS2, hg2, ⟨L, ⟨q1, q2, q3, q4⟩, l1, l2, l3, C'⟩, stp⟩ := X.interfaceBackS hx (xi := y) (y := z) hown (mv (s := s.setVm vm0) hZ w1) (mv (s := s.setVm vm0) hZ w2) (mv (s := s.setVm vm0) hZ w7 (by simp [Cond.onTables, Cond.keepsFace, Cond.keeps, Cond.steady, Cond.faceAtom, hy.1, hy.2])) (mv (s := s.setVm vm0) hZ w3) (mv (s := s.setVm vm0) hZ w5) (mv (s := s.setVm vm0) hZ w8) (mv (s := s.setVm vm0) hZ w9) (mv (s := s.setVm vm0) hZ w10) hy (backC (W := (st.map fun v => v.category).sum) H hZ w4 w6 hf hl hE hC.1 sf) qa qb qc (g := mkF m pc Ls stk) rfl hsz (Steps.refl _) (argsL := argsL) (rest := st) hlen hstk (by show 2 * 0 + _ ≤ _; omega) hd (fun _ _ => ⟨rfl, eT, hc, hs⟩)
  dsimp only [Pt.U, Pt.locs, Pt.cells, Pt.slots] at X' hS2 hg2 q1 q3 q4 l1 l2 l3 C' stp
  subst l1 l2 l3
  exact (k v T' _ (Wk.called (h' := T'.heap) hwc X' rfl hS2 (Nat.le_refl _) (by rw [← eT]; exact hg2) q2 q3 q4 C' r) q3 q1).by fun t q => stp.trans q
/-! String constants -/
theorem w_ldcS (W : Wk p l e R s m args below meth c Z EL own ws nw T h cells slots) (hx : p.tables.exec = Jvm.exec) {index : Nat} {text : String} (w : (Cond.stringLink own index text).before a0 Z = true) (wS : ∀ a ∈ Bundle.stringAtoms, a.before a0 Z = true) (hmem : (own, index) ∈ EL) {vs : List Value} {z : Int32} (ht : (∀ c ∈ text.toList, c.toNat < 256) ∧ text.toList.map (fun c => Value.int (Jvm.Lit.byteI c.toNat.toUInt16)) = vs) (hz : ¬ z < 0) (hzl : z.toNatClampNeg = vs.length)
    (hd : decode c.code pc = .ok (.ldc index, 2)) (n : Nat) (hn : 4 * text.toList.length ≤ n) (hbig : n ≤ 536870912) (hc : cells + 2 ≤ R.cells) (hl : slots + (n + 4) ≤ R.slots) (hp : pc + 2 = pc')
    (k : ∀ (T' : State) (h' : Heap) (a b : Nat), Wk p l e R s m args below meth c Z EL own ws nw T' h' (cells + 2) (slots + (n + 4)) → Keep h h' [] → Exa Z h' a "java/lang/String" → Fld Z h' a "java/lang/String" "coder" "B" (.int 0) → Fld Z h' a "java/lang/String" "value" "[B" (.ref b) → Ary Z h' b .byte vs → (∀ x ∈ ws ++ nw, x ≠ a ∧ x ≠ b) → Gets p.tables e below P T' (mkF m pc' Ls (.ref a :: st))) : Gets p.tables e below P T (mkF m pc Ls st) := by
  subst hp
  obtain ⟨vm0, k0, locs, b0, X, eT, hS, hk, hZ, hown, hE, hC, hF, hO, hK, n1, n2⟩ := W
  obtain ⟨a, T', h', k1, b, cb, X', e', E, hS2, hk2, hZ2, hown2, A, F1, F2, V, la, lb, C', -, hne, stp⟩ := ldcCH X hx hZ hown w wS eT hS hk hE hmem hC.1 ht hz hzl (g := mkF m pc Ls st) rfl hd hn hbig hc hl
  have sz := E.1
  have N1 : ∀ x : Nat, x ∈ ws → Z.heap.size ≤ x ∧ x < h'.size ∧ Safe Z EL T'.vm h' x := fun x hx => by
    obtain ⟨q1, q2, q3⟩ := n1 x hx
    exact ⟨q1, by omega, C'.safe q2 q3⟩
  have N2 : ∀ x : Nat, x ∈ nw → s.heap.size ≤ x ∧ Z.heap.size ≤ x ∧ x < h'.size ∧ Safe Z EL T'.vm h' x := fun x hx => by
    obtain ⟨q1, q2, q3, q4⟩ := n2 x hx
    exact ⟨q1, q2, by omega, C'.safe q3 q4⟩
  refine (k T' h' a b ⟨T'.vm, k1, locs, b0, X', e', hS2, hk2, hZ2, hown2, hE, hC.trans C', hF, ⟨Nat.le_trans hO.1 E.1, fun x cc q => E.2 x cc (hO.2 x cc q)⟩, hK.ext E, N1, N2⟩ ((Keep.refl h []).ext E) A F1 F2 (Ary.of_arv V hzl) fun x hx => ?_).by stp
  rcases List.mem_append.mp hx with q | q
  · exact hne x (N1 x q).2.2
  · exact hne x (N2 x q).2.2.2
theorem w_ldcO (W : Wk p l e R s m args below meth c Z EL own ws nw T h cells slots) (hx : p.tables.exec = Jvm.exec) {index : Nat} {text : String} (w : (Cond.stringLink own index text).before a0 Z = true) (wS : ∀ a ∈ Bundle.stringAtoms, a.before a0 Z = true)
    (hd : decode c.code pc = .ok (.ldc index, 2)) (n : Nat) (hn : 4 * text.toList.length ≤ n) (hbig : n ≤ 536870912) (hc : cells + 2 ≤ R.cells) (hl : slots + (n + 4) ≤ R.slots) (hp : pc + 2 = pc')
    (k : ∀ (T' : State) (h' : Heap) (a : Nat), Wk p l e R s m args below meth c Z EL own ws nw T' h' (cells + 2) (slots + (n + 4)) → Keep h h' [] → Gets p.tables e below P T' (mkF m pc' Ls (.ref a :: st))) : Gets p.tables e below P T (mkF m pc Ls st) := by
  subst hp
  obtain ⟨vm0, k0, locs, b0, X, eT, hS, hk, hZ, hown, hE, hC, hF, hO, hK, n1, n2⟩ := W
  obtain ⟨a, T', h', k1, X', e', E, hS2, hk2, hZ2, hown2, C', -, stp⟩ := ldcOH X hx hZ hown w wS eT hS hk hE hC.1 (g := mkF m pc Ls st) rfl hd hn hbig hc hl
  have sz := E.1
  refine (k T' h' a ⟨T'.vm, k1, locs, b0, X', e', hS2, hk2, hZ2, hown2, hE, hC.trans C', hF, ⟨Nat.le_trans hO.1 E.1, fun x cc q => E.2 x cc (hO.2 x cc q)⟩, hK.ext E, fun x hx => ?_, fun x hx => ?_⟩ ((Keep.refl h []).ext E)).by stp
  · obtain ⟨q1, q2, q3⟩ := n1 x hx
    exact ⟨q1, by omega, C'.safe q2 q3⟩
  · obtain ⟨q1, q2, q3, q4⟩ := n2 x hx
    exact ⟨q1, q2, by omega, C'.safe q3 q4⟩
end OwnWalk
section OwnPure
variable {p : Program} {l : Launch} {e : Env} {R : Room} {s : State} {m : MethodId} {args : Array Value} {below : List Frame} {meth : Method} {c : Code} {T : State} {Z : State} {a0 : Array Value} {h : Heap} {EL : List (String × Nat)} {own : String} {cells slots : Nat} {ws nw : List Addr} {P : Outcome → State → Prop} {pc pc' : Nat} {Ls : Array Slot} {st : List Value}
/-- it returns r and leaves the heap as it was -/
def pureQ (r : Option Value) (h : Heap) : Option Value → Heap → Prop := fun v h' => v = r ∧ h' = h
theorem w_callSp (W : Wk p l e R s m args below meth c Z EL own ws nw T h cells slots) (hx : p.tables.exec = Jvm.exec) {index : Nat} {y : MethodName} {bytes : ByteArray} {maxL : Nat} {ret : Option FieldType} {rm : Room} {r : Option Value} (argsL : List Value)
    (w1 : (Cond.methodLink own index y).before a0 Z = true) (w2 : (Cond.static y).before a0 Z = true) (w3 : (Cond.initialized y.cls).before a0 Z = true) (w4 : (Cond.code y bytes maxL ret).before a0 Z = true) (hy : y.cls ≠ "java/lang/invoke/MethodHandle" ∧ y.cls ≠ "java/lang/invoke/VarHandle")
    (H : Con l Z EL y bytes maxL ret rm argsL.toArray h [] (pureQ r h)) (hsz : Ls.size = c.maxLocals) (hlen : ∀ sig, parseMethodDescriptor y.desc = some sig → argsL.length = sig.parameters.length) {stk : List Value} (hstk : stk = argsL.reverse ++ st) (hd : decode c.code pc = .ok (.invokestatic index, 3))
    (hf : rm.frames + 1 ≤ R.frames) (hl : (st.map fun v => v.category).sum + (maxL + 11) + rm.locals ≤ R.locals) (hc : rm.cells = 0) (hs : rm.slots = 0) (hc' : cells ≤ R.cells) (hs' : slots ≤ R.slots) (hp : pc + 3 = pc')
    (k : ∀ T', Wk p l e R s m args below meth c Z EL own ws nw T' h cells slots → Gets p.tables e below P T' (mkF m pc' Ls (r.toList ++ st))) : Gets p.tables e below P T (mkF m pc Ls stk) :=
  w_callS W hx argsL w1 w2 w3 w4 hy H all0 hsz hlen hstk hd hf hl (by rw [hc]; exact hc') (by rw [hs]; exact hs') hp fun v T' h' W' K q => by
    obtain ⟨e1, e2⟩ := q
    subst e1; rw [e2] at W'; rw [hc, hs] at W'; exact k T' W'
theorem w_virtualp (W : Wk p l e R s m args below meth c Z EL own ws nw T h cells slots) (hx : p.tables.exec = Jvm.exec) {index : Nat} {y z : MethodName} {C : String} {bytes : ByteArray} {maxL : Nat} {ret : Option FieldType} {rm : Room} {r : Option Value} {a : Nat} (argsL : List Value)
    (w1 : (Cond.methodLink own index y).before a0 Z = true) (w2 : (Cond.declares y).before a0 Z = true) (hnf : ∀ {U : State}, Z.Warmed39 U.vm → NotFace U y) (w3 : (Cond.selects C y z).before a0 Z = true) (w5 : (Cond.instanceMethod z).before a0 Z = true) (w6 : (Cond.initialized z.cls).before a0 Z = true) (w4 : (Cond.code z bytes maxL ret).before a0 Z = true) (hy : y.cls ≠ "java/lang/invoke/MethodHandle" ∧ y.cls ≠ "java/lang/invoke/VarHandle")
    (H : Con l Z EL z bytes maxL ret rm (.ref a :: argsL).toArray h [] (pureQ r h)) (E : Exa Z h a C) (hsz : Ls.size = c.maxLocals) (hlen : ∀ sig, parseMethodDescriptor y.desc = some sig → argsL.length = sig.parameters.length) {stk : List Value} (hstk : stk = argsL.reverse ++ .ref a :: st) (hd : decode c.code pc = .ok (.invokevirtual index, 3))
    (hf : rm.frames + 1 ≤ R.frames) (hl : (st.map fun v => v.category).sum + (maxL + 11) + rm.locals ≤ R.locals) (hc : rm.cells = 0) (hs : rm.slots = 0) (hc' : cells ≤ R.cells) (hs' : slots ≤ R.slots) (hp : pc + 3 = pc')
    (k : ∀ T', Wk p l e R s m args below meth c Z EL own ws nw T' h cells slots → Gets p.tables e below P T' (mkF m pc' Ls (r.toList ++ st))) : Gets p.tables e below P T (mkF m pc Ls stk) :=
  w_virtual W hx argsL w1 w2 hnf w3 w5 w6 w4 hy H E all0 hsz hlen hstk hd hf hl (by rw [hc]; exact hc') (by rw [hs]; exact hs') hp fun v T' h' W' K q => by
    obtain ⟨e1, e2⟩ := q
    subst e1; rw [e2] at W'; rw [hc, hs] at W'; exact k T' W'
theorem w_virtualUpp (W : Wk p l e R s m args below meth c Z EL own ws nw T h cells slots) (hx : p.tables.exec = Jvm.exec) {index : Nat} {y z : MethodName} {C owner : String} {bytes : ByteArray} {maxL : Nat} {ret : Option FieldType} {rm : Room} {r : Option Value} {a : Nat} (argsL : List Value)
    (w1 : (Cond.methodLink own index y).before a0 Z = true) (w7 : (Cond.sameMethod y.cls owner y.name y.desc).before a0 Z = true) (w2 : (Cond.declares ⟨owner, y.name, y.desc⟩).before a0 Z = true) (w3 : (Cond.selects C y z).before a0 Z = true) (w5 : (Cond.instanceMethod z).before a0 Z = true) (w6 : (Cond.initialized z.cls).before a0 Z = true) (w4 : (Cond.code z bytes maxL ret).before a0 Z = true) (hy : owner ≠ "java/lang/invoke/MethodHandle" ∧ owner ≠ "java/lang/invoke/VarHandle")
    (H : Con l Z EL z bytes maxL ret rm (.ref a :: argsL).toArray h [] (pureQ r h)) (E : Exa Z h a C) (hsz : Ls.size = c.maxLocals) (hlen : ∀ sig, parseMethodDescriptor y.desc = some sig → argsL.length = sig.parameters.length) {stk : List Value} (hstk : stk = argsL.reverse ++ .ref a :: st) (hd : decode c.code pc = .ok (.invokevirtual index, 3))
    (hf : rm.frames + 1 ≤ R.frames) (hl : (st.map fun v => v.category).sum + (maxL + 11) + rm.locals ≤ R.locals) (hc : rm.cells = 0) (hs : rm.slots = 0) (hc' : cells ≤ R.cells) (hs' : slots ≤ R.slots) (hp : pc + 3 = pc')
    (k : ∀ T', Wk p l e R s m args below meth c Z EL own ws nw T' h cells slots → Gets p.tables e below P T' (mkF m pc' Ls (r.toList ++ st))) : Gets p.tables e below P T (mkF m pc Ls stk) :=
  w_virtualUp W hx argsL w1 w7 w2 w3 w5 w6 w4 hy H E all0 hsz hlen hstk hd hf hl (by rw [hc]; exact hc') (by rw [hs]; exact hs') hp fun v T' h' W' K q => by
    obtain ⟨e1, e2⟩ := q
    subst e1; rw [e2] at W'; rw [hc, hs] at W'; exact k T' W'
theorem w_ifacep (W : Wk p l e R s m args below meth c Z EL own ws nw T h cells slots) (hx : p.tables.exec = Jvm.exec) {index count : Nat} {y z : MethodName} {C : String} {bytes : ByteArray} {maxL : Nat} {ret : Option FieldType} {rm : Room} {r : Option Value} {a : Nat} (argsL : List Value)
    (w1 : (Cond.methodLink own index y).before a0 Z = true) (w2 : (Cond.declares y).before a0 Z = true) (w7 : (Cond.interfaceMethod y.cls y.cls y.name y.desc).before a0 Z = true) (w3 : (Cond.selects C y z).before a0 Z = true) (w5 : (Cond.instanceMethod z).before a0 Z = true) (w8 : (Cond.publicMethod z).before a0 Z = true) (w9 : (Cond.unhidden C y.name y.desc).before a0 Z = true) (w10 : (Cond.castable C y.cls).before a0 Z = true) (w6 : (Cond.initialized z.cls).before a0 Z = true) (w4 : (Cond.code z bytes maxL ret).before a0 Z = true) (hy : y.cls ≠ "java/lang/invoke/MethodHandle" ∧ y.cls ≠ "java/lang/invoke/VarHandle")
    (H : Con l Z EL z bytes maxL ret rm (.ref a :: argsL).toArray h [] (pureQ r h)) (E : Exa Z h a C) (hsz : Ls.size = c.maxLocals) (hlen : ∀ sig, parseMethodDescriptor y.desc = some sig → argsL.length = sig.parameters.length) {stk : List Value} (hstk : stk = argsL.reverse ++ .ref a :: st) (hd : decode c.code pc = .ok (.invokeinterface index count, 5))
    (hf : rm.frames + 1 ≤ R.frames) (hl : (st.map fun v => v.category).sum + (maxL + 11) + rm.locals ≤ R.locals) (hc : rm.cells = 0) (hs : rm.slots = 0) (hc' : cells ≤ R.cells) (hs' : slots ≤ R.slots) (hp : pc + 5 = pc')
    (k : ∀ T', Wk p l e R s m args below meth c Z EL own ws nw T' h cells slots → Gets p.tables e below P T' (mkF m pc' Ls (r.toList ++ st))) : Gets p.tables e below P T (mkF m pc Ls stk) :=
  w_iface W hx argsL w1 w2 w7 w3 w5 w8 w9 w10 w6 w4 hy H E all0 hsz hlen hstk hd hf hl (by rw [hc]; exact hc') (by rw [hs]; exact hs') hp fun v T' h' W' K q => by
    obtain ⟨e1, e2⟩ := q
    subst e1; rw [e2] at W'; rw [hc, hs] at W'; exact k T' W'
theorem g_name {tb : Tables} {v w : Value} (q : w = v) (k : Gets tb e below P T (mkF m pc Ls (w :: st))) : Gets tb e below P T (mkF m pc Ls (v :: st)) := q ▸ k
end OwnPure
section OwnFresh
variable {p : Program} {l : Launch} {e : Env} {R : Room} {s : State} {m : MethodId} {args : Array Value} {below : List Frame} {meth : Method} {c : Code} {T : State} {Z : State} {a0 : Array Value} {h : Heap} {EL : List (String × Nat)} {own : String} {cells slots : Nat} {ws nw : List Addr} {P : Outcome → State → Prop} {pc pc' : Nat} {Ls : Array Slot} {st : List Value}
def ConF (l : Launch) (Z : State) (EL : List (String × Nat)) (y : MethodName) (bytes : ByteArray) (maxL : Nat) (ret : Option FieldType) (rm : Room) (as' : Array Value) (h0 : Heap) (ws : List Addr) (Q : List Addr → Option Value → Heap → Prop) : Prop :=
  MetFree l y (head1 [Cond.code y bytes maxL ret] rm) (fun a U => a = as' ∧ Z.Warmed39 U.vm ∧ U.heap = h0 ∧ CHv Z EL U.vm h0 ∧ ∀ x ∈ ws, Safe Z EL U.vm h0 x) (fun _ _ _ _ _ => True)
    (fun _ U o U' => ∃ v L N, o = .returned v ∧ (Q N v U'.heap ∧ Fr Z.heap.size L ∧ Keep h0 U'.heap ws ∧ Ext Z.heap U'.heap ∧ ∀ x : Nat, x ∈ N → h0.size ≤ x ∧ x < U'.heap.size ∧ Safe Z EL U'.vm U'.heap x) ∧ CHr Z EL U.vm U.heap U'.vm U'.heap ∧ ReturnedEndW U o U' L rm.cells rm.slots)
def PostF (s : State) (Z : State) (EL : List (String × Nat)) (rm : Room) (h0 : Heap) (ws : List Addr) (Q : List Addr → Option Value → Heap → Prop) (o : Outcome) (t : State) : Prop :=
  ∃ v L N, o = .returned v ∧ (Q N v t.heap ∧ Fr Z.heap.size L ∧ Keep h0 t.heap ws ∧ Ext Z.heap t.heap ∧ ∀ x : Nat, x ∈ N → h0.size ≤ x ∧ x < t.heap.size ∧ Safe Z EL t.vm t.heap x) ∧ CHr Z EL s.vm s.heap t.vm t.heap ∧ ReturnedEndW s o t L rm.cells rm.slots
theorem ConF.of {y : MethodName} {bytes : ByteArray} {maxL : Nat} {ret : Option FieldType} {rm : Room} {as' : Array Value} {h0 : Heap} {Q : List Addr → Option Value → Heap → Prop} (Ls : Array Slot)
    (hy : plainFor y = true) (hE : EW Z a0 EL) (O : Ext Z.heap h0) (hws : ∀ x : Nat, x ∈ ws → Z.heap.size ≤ x ∧ x < h0.size) (hent : ∀ m, entryFrame m as' maxL = mkF m 0 Ls [])
    (body : ∀ (p : Program) (e : Env) (s : State) (m : MethodId) (below : List Frame) (meth : Method) (c : Code) (T : State), p.tables.exec = Jvm.exec → c.code = bytes → c.maxLocals = maxL → meth.name = y.name → meth.sig.returnType = ret → meth.locks = false → s.heap = h0 →
      Wk p l e rm s m as' below meth c Z EL y.cls ws [] T h0 0 0 → Gets p.tables e below (PostF s Z EL rm h0 ws Q) T (mkF m 0 Ls [])) :
    ConF l Z EL y bytes maxL ret rm as' h0 ws Q := by
  refine MetFree.of_bodySF hy hisR ?_
  intro p e s m args below meth c s₁ Bd hml0 hP hK
  obtain ⟨rfl, hZ, hh, hC, hS⟩ := hP
  have hh' : s.heap = h0 := hh
  have hl : meth.locks = false := Bd.notSynchronized
  have e0 : s₁.heap = h0 := by rw [← hh, Bd.state]; rfl
  have X0 : Stand p l e rm s m args below meth c s₁ [] 0 0 := Stand.of_body Bd
  have W : Wk p l e rm s m args below meth c Z EL y.cls ws [] s₁ h0 0 0 :=
    ⟨s.vm, h0.size, [], a0, X0, e0, (State.WarmedH.refl s).since _, Nat.le_refl _, hZ, findClass_of_methodNamed Bd.named, hE, by rw [hh']; exact CHr.refl hC, Fr.nil _, O, by rw [hh']; exact Keep.refl _ _, fun x hx => ⟨(hws x hx).1, (hws x hx).2, hS x hx⟩, fun x hx => (nomatch hx)⟩
  obtain ⟨t, o, h1, h2, h3, h4⟩ := body p e s m below meth c s₁ Bd.exec Bd.bytes hml0 (name_of_methodNamed Bd.named Bd.method).1 Bd.returns hl hh' W
  exact ⟨t, o, by rw [hent m]; exact h1, h2, h3, h4⟩
theorem w_endF {rm : Room} {h0 : Heap} {Q : List Addr → Option Value → Heap → Prop} (W : Wk p l e R s m args below meth c Z EL own ws nw T h cells slots) (hh : s.heap = h0) {v : Option Value} {g : JFrame} (hl : meth.locks = false) (hv : meth.sig.returnType = none → v = none)
    (st : ∀ {vm0 : Vm} {locs : List Loc} {fs : List Frame}, Stand p l e R (s.setVm vm0) m args below meth c T locs cells slots → (∀ (f : JFrame) (acts : List Action), f.method = m → f.locked = none → f.entered = [] → (doReturn e (T.setTop f) acts v).1 = T.setFrames fs) → Steps p.tables e below (T.setTop g) (T.setFrames fs))
    (hc : cells ≤ rm.cells) (hs : slots ≤ rm.slots) (N : List Addr) (hN : ∀ x ∈ N, x ∈ nw) (q : Q N v h) : Gets p.tables e below (PostF s Z EL rm h0 ws Q) T g := by
  obtain ⟨vm0, k0, locs, b0, X, eT, hS, hk, hZ, hown, hE, hC, hF, hO, hK, -, n2⟩ := W
  obtain ⟨fs, h1, h2, h3, r1, r2, r3, r4⟩ := X.leaveW hS (by rw [eT]; exact hk) hv hl
  subst hh
  have hA := CHv.at X hZ hE hC.1
  refine ⟨_, _, st X h1, h2, h3, v, locs, N, rfl, ⟨?_, hF, ?_, ?_, ?_⟩, ?_, r1, r2, r3, r4.mono hc hs⟩
  · show Q N v T.heap; rw [eT]; exact q
  · show Keep _ T.heap _; rw [eT]; exact hK
  · show Ext _ T.heap; rw [eT]; exact hO
  · intro x hx
    obtain ⟨q1, q2, q3, q4⟩ := n2 x (hN x hx)
    refine ⟨q1, ?_, ?_⟩
    · show x < T.heap.size; rw [eT]; exact q3
    · show Safe Z EL T.vm T.heap x; rw [eT]; exact hA.safe q3 q4
  · show CHr Z EL s.vm s.heap T.vm T.heap
    rw [eT]
    exact hC.trans hA
theorem w_retAF {rm : Room} {h0 : Heap} {Q : List Addr → Option Value → Heap → Prop} {w : Value} {t : FieldType} (W : Wk p l e R s m args below meth c Z EL own ws nw T h cells slots) (hx : p.tables.exec = Jvm.exec) (hh : s.heap = h0) (hl : meth.locks = false) (hret : meth.sig.returnType = some t) (ht : t.isReference = true) (hw : w.isRef = true) (hd : decode c.code pc = .ok (.areturn, 1)) (hc : cells ≤ rm.cells) (hs : slots ≤ rm.slots) (N : List Addr) (hN : ∀ x ∈ N, x ∈ nw) (q : Q N (some w) h) :
    Gets p.tables e below (PostF s Z EL rm h0 ws Q) T (mkF m pc Ls (w :: st)) :=
  w_endF W hh hl (fun q => by rw [hret] at q; cases q) (fun X hr => retOut X hx hret (by cases t <;> cases w <;> simp [FieldType.isReference, Value.isRef, narrow] at ht hw ⊢) (Or.inr (Or.inr (Or.inr (Or.inr ⟨rfl, ht, hw⟩)))) hd hr) hc hs N hN q
theorem w_retVF {rm : Room} {h0 : Heap} {Q : List Addr → Option Value → Heap → Prop} (W : Wk p l e R s m args below meth c Z EL own ws nw T h cells slots) (hx : p.tables.exec = Jvm.exec) (hh : s.heap = h0) (hl : meth.locks = false) (hret : meth.sig.returnType = none) (hd : decode c.code pc = .ok (.return_, 1)) (hc : cells ≤ rm.cells) (hs : slots ≤ rm.slots) (N : List Addr) (hN : ∀ x ∈ N, x ∈ nw) (q : Q N none h) :
    Gets p.tables e below (PostF s Z EL rm h0 ws Q) T (mkF m pc Ls []) :=
  w_endF W hh hl (fun _ => rfl) (fun X hr => X.returnOut hx hret hd hr) hc hs N hN q
theorem w_retIF {rm : Room} {h0 : Heap} {Q : List Addr → Option Value → Heap → Prop} {z : Int32} (W : Wk p l e R s m args below meth c Z EL own ws nw T h cells slots) (hx : p.tables.exec = Jvm.exec) (hh : s.heap = h0) (hl : meth.locks = false) (hret : meth.sig.returnType = some .int) (hd : decode c.code pc = .ok (.ireturn, 1)) (hc : cells ≤ rm.cells) (hs : slots ≤ rm.slots) (N : List Addr) (hN : ∀ x ∈ N, x ∈ nw) (q : Q N (some (.int z)) h) :
    Gets p.tables e below (PostF s Z EL rm h0 ws Q) T (mkF m pc Ls (.int z :: st)) :=
  w_endF W hh hl (fun q => by rw [hret] at q; cases q) (fun X hr => retOut X hx hret rfl (Or.inl ⟨rfl, Or.inl rfl, z, rfl⟩) hd hr) hc hs N hN q
theorem backCF {y : MethodName} {bytes : ByteArray} {maxL : Nat} {ret : Option FieldType} {rm : Room} {len W : Nat} {as' : Array Value} {Q : List Addr → Option Value → Heap → Prop} {vm0 : Vm} {wsc : List Addr}
    (hM : ConF l Z EL y bytes maxL ret rm as' h wsc Q) (hZ : Z.Warmed39 vm0) (wc : (Cond.code y bytes maxL ret).before a0 Z = true) (wz : (Cond.initialized y.cls).before a0 Z = true) (hf : rm.frames + 1 ≤ R.frames) (hl : W + (maxL + 11) + rm.locals ≤ R.locals) {b0 : Array Value} (hEL : EW Z b0 EL) (H : CHv Z EL vm0 h) (hs : ∀ x : Nat, x ∈ wsc → x < h.size ∧ Safe Z EL vm0 h x) :
    BackS l R p e below (s.setVm vm0) args y len W (fun A a => a = as' ∧ A.U.heap = h ∧ A.cells + rm.cells ≤ R.cells ∧ A.slots + rm.slots ≤ R.slots)
      (fun A _ v B => ∃ L N, (Q N v B.U.heap ∧ Fr Z.heap.size L ∧ Keep h B.U.heap wsc ∧ Ext Z.heap B.U.heap ∧ ∀ x : Nat, x ∈ N → h.size ≤ x ∧ x < B.U.heap.size ∧ Safe Z EL B.U.vm B.U.heap x) ∧ B.locs = A.locs ++ L ∧ B.cells = A.cells + rm.cells ∧ B.slots = A.slots + rm.slots ∧ CHr Z EL vm0 h B.U.vm B.U.heap) :=
  BackS.of_freeW (bytes := bytes) (maxL := maxL) (ret := ret) (E := fun _ first o t L k n => k = rm.cells ∧ n = rm.slots ∧ (∃ v N, o = .returned v ∧ (Q N v t.heap ∧ Fr Z.heap.size L ∧ Keep h t.heap wsc ∧ Ext Z.heap t.heap ∧ ∀ x : Nat, x ∈ N → h.size ≤ x ∧ x < t.heap.size ∧ Safe Z EL t.vm t.heap x)) ∧ CHr Z EL first.vm first.heap t.vm t.heap) hM hf hl
    (fun m meth c A a Y hp => have hU : Z.Warmed39 A.U.vm := wtrans (s := s.setVm vm0) hZ Y.warmed
      ⟨by show (Cond.and _ .tt).before a A.U = true; rw [Cond.before_and, mv hU wc]; rfl, mv hU wc, mv hU wz, hp.2.2.1, hp.2.2.2⟩)
    (fun m meth c A a g mk Y hp => ⟨hp.1, wtrans (s := s.setVm vm0) hZ Y.warmed, hp.2.1, (CHv.at Y hZ hEL H).1, fun x hx => (CHv.at Y hZ hEL H).safe (hs x hx).1 (hs x hx).2⟩) (fun _ _ _ _ _ _ _ _ _ => trivial)
    (fun _ _ _ _ ⟨v, L, N, h1, h2, h3, h4⟩ => ⟨L, _, _, h4, rfl, rfl, ⟨v, N, h1, h2⟩, h3⟩)
    (fun m meth c A a g mk v t L k n Y hp _ _ ⟨e1, e2, ⟨v', N, e3, e4⟩, e5⟩ => by
      cases e3; subst e1 e2
      refine ⟨L, N, e4, rfl, rfl, rfl, (CHv.at Y hZ hEL H).trans ?_⟩
      rw [← hp.2.1]; exact e5)
theorem Wk.calledF {vm0 : Vm} {k0 : Nat} {locs L : List Loc} {b0 : Array Value} {T' : State} {h' : Heap} {wsc N : List Addr} {n c' s' : Nat} (hw : ∀ x ∈ wsc, x ∈ ws ++ nw) (X' : Stand p l e R ((s.setVm vm0).setVm T'.vm) m args below meth c T' (locs ++ L) c' s') (e' : T'.heap = h') (h2 : (s.setVm vm0).Since T'.vm n) (hn : n ≤ h'.size) (hln : h.size ≤ n) (F : Fr Z.heap.size L) (K : Keep h h' wsc) (O' : Ext Z.heap h') (hN : ∀ x : Nat, x ∈ N → h.size ≤ x ∧ x < h'.size ∧ Safe Z EL T'.vm h' x) (C' : CHr Z EL vm0 h T'.vm h')
    (r : s.Since vm0 k0 ∧ k0 ≤ h.size ∧ Z.Warmed39 vm0 ∧ vm0.findClass own = some m.cls ∧ EW Z b0 EL ∧ CHr Z EL s.vm s.heap vm0 h ∧ Fr Z.heap.size locs ∧ Ext Z.heap h ∧ Keep s.heap h ws ∧ (∀ x : Nat, x ∈ ws → Z.heap.size ≤ x ∧ x < h.size ∧ Safe Z EL vm0 h x) ∧ (∀ x : Nat, x ∈ nw → s.heap.size ≤ x ∧ Z.heap.size ≤ x ∧ x < h.size ∧ Safe Z EL vm0 h x)) :
    Wk p l e R s m args below meth c Z EL own ws (N ++ nw) T' h' c' s' := by
  obtain ⟨hS, hk, hZ, hown, hE, hC, hF, hO, hK, n1, n2⟩ := r
  have sz := K.1
  refine ⟨T'.vm, n, locs ++ L, b0, X', e', hS.trans h2 (by omega), hn, State.Warmed39.trans (t := s.setVm vm0) hZ h2.1, (h2.1.alike.findClass _ _).trans hown, hE, hC.trans C', Fr.app hF F, O', hK.trans K (fun x hx => ?_), fun x hx => ?_, fun x hx => ?_⟩
  · rcases List.mem_append.mp (hw x hx) with q | q
    · exact Or.inl q
    · exact Or.inr (n2 x q).1
  · obtain ⟨q1, q2, q3⟩ := n1 x hx
    exact ⟨q1, by omega, C'.safe q2 q3⟩
  · have ks := hK.1
    have os := hO.1
    rcases List.mem_append.mp hx with hx | hx
    · obtain ⟨q1, q2, q3⟩ := hN x hx
      exact ⟨by omega, by omega, q2, q3⟩
    · obtain ⟨q1, q2, q3, q4⟩ := n2 x hx
      exact ⟨q1, q2, by omega, C'.safe q3 q4⟩
theorem w_callSF (W : Wk p l e R s m args below meth c Z EL own ws nw T h cells slots) (hx : p.tables.exec = Jvm.exec) {index : Nat} {y : MethodName} {bytes : ByteArray} {maxL : Nat} {ret : Option FieldType} {rm : Room} {Q : List Addr → Option Value → Heap → Prop} {wsc : List Addr} (argsL : List Value)
    (w1 : (Cond.methodLink own index y).before a0 Z = true) (w2 : (Cond.static y).before a0 Z = true) (w3 : (Cond.initialized y.cls).before a0 Z = true) (w4 : (Cond.code y bytes maxL ret).before a0 Z = true) (hy : y.cls ≠ "java/lang/invoke/MethodHandle" ∧ y.cls ≠ "java/lang/invoke/VarHandle")
    (H : ConF l Z EL y bytes maxL ret rm argsL.toArray h wsc Q) (hwc : ∀ x ∈ wsc, x ∈ ws ++ nw) (hsz : Ls.size = c.maxLocals) (hlen : ∀ sig, parseMethodDescriptor y.desc = some sig → argsL.length = sig.parameters.length) {stk : List Value} (hstk : stk = argsL.reverse ++ st) (hd : decode c.code pc = .ok (.invokestatic index, 3))
    (hf : rm.frames + 1 ≤ R.frames) (hl : (st.map fun v => v.category).sum + (maxL + 11) + rm.locals ≤ R.locals) (hc : cells + rm.cells ≤ R.cells) (hs : slots + rm.slots ≤ R.slots) (hp : pc + 3 = pc')
    (k : ∀ N v T' h', Wk p l e R s m args below meth c Z EL own ws (N ++ nw) T' h' (cells + rm.cells) (slots + rm.slots) → Keep h h' wsc → (∀ x : Nat, x ∈ N → h.size ≤ x ∧ x < h'.size) → Q N v h' → Gets p.tables e below P T' (mkF m pc' Ls (v.toList ++ st))) : Gets p.tables e below P T (mkF m pc Ls stk) := by
  subst hp
  obtain ⟨vm0, k0, locs, b0, X, eT, r⟩ := W
  obtain ⟨hS, hk, hZ, hown, hE, hC, hF, hO, hK, n1, n2⟩ := id r
  have sf : ∀ x : Nat, x ∈ wsc → x < h.size ∧ Safe Z EL vm0 h x := fun x hx => by
    rcases List.mem_append.mp (hwc x hx) with q | q
    · exact (n1 x q).2
    · exact (n2 x q).2.2
  obtain ⟨v, vm1, ⟨T', L', c', s'⟩, -, X', hS2, hg2, ⟨L, N, ⟨q1, q2, q3, q4, q5⟩, l1, l2, l3, C'⟩, stp⟩ := callSS X hx (y := y) hown (mv (s := s.setVm vm0) hZ w1) (mv (s := s.setVm vm0) hZ w2) (mv (s := s.setVm vm0) hZ w3) (mv (s := s.setVm vm0) hZ w4) hy (backCF (W := (st.map fun v => v.category).sum) H hZ w4 w3 hf hl hE hC.1 sf) (g := mkF m pc Ls stk) rfl hsz (argsL := argsL) (rest := st) hlen hstk (by show 2 * 0 + _ ≤ _; omega) hd (fun _ _ => ⟨rfl, eT, hc, hs⟩)
  dsimp only [Pt.U, Pt.locs, Pt.cells, Pt.slots] at X' hS2 hg2 q1 q3 q4 q5 l1 l2 l3 C' stp
  subst l1 l2 l3
  exact (k N v T' _ (Wk.calledF (h' := T'.heap) hwc X' rfl hS2 (Nat.le_refl _) (by rw [← eT]; exact hg2) q2 q3 q4 q5 C' r) q3 (fun x hx => ⟨(q5 x hx).1, (q5 x hx).2.1⟩) q1).by fun t q => stp.trans q
theorem w_specialF (W : Wk p l e R s m args below meth c Z EL own ws nw T h cells slots) (hx : p.tables.exec = Jvm.exec) {index : Nat} {y : MethodName} {bytes : ByteArray} {maxL : Nat} {rm : Room} {Q : List Addr → Option Value → Heap → Prop} {wsc : List Addr} {a : Nat} (argsL : List Value) (hy1 : y.name = "<init>")
    (w1 : (Cond.methodLink own index y).before a0 Z = true) (w2 : (Cond.instanceMethod y).before a0 Z = true) (w3 : (Cond.initialized y.cls).before a0 Z = true) (w4 : (Cond.code y bytes maxL none).before a0 Z = true) (hy : y.cls ≠ "java/lang/invoke/MethodHandle" ∧ y.cls ≠ "java/lang/invoke/VarHandle")
    (H : ConF l Z EL y bytes maxL none rm (.ref a :: argsL).toArray h wsc Q) (hwc : ∀ x ∈ wsc, x ∈ ws ++ nw) (hsz : Ls.size = c.maxLocals) (hlen : ∀ sig, parseMethodDescriptor y.desc = some sig → argsL.length = sig.parameters.length) {stk : List Value} (hstk : stk = argsL.reverse ++ .ref a :: st) (hd : decode c.code pc = .ok (.invokespecial index, 3))
    (hf : rm.frames + 1 ≤ R.frames) (hl : (st.map fun v => v.category).sum + (maxL + 11) + rm.locals ≤ R.locals) (hc : cells + rm.cells ≤ R.cells) (hs : slots + rm.slots ≤ R.slots) (hp : pc + 3 = pc')
    (k : ∀ N v T' h', Wk p l e R s m args below meth c Z EL own ws (N ++ nw) T' h' (cells + rm.cells) (slots + rm.slots) → Keep h h' wsc → (∀ x : Nat, x ∈ N → h.size ≤ x ∧ x < h'.size) → Q N v h' → Gets p.tables e below P T' (mkF m pc' Ls (v.toList ++ st))) : Gets p.tables e below P T (mkF m pc Ls stk) := by
  subst hp
  obtain ⟨vm0, k0, locs, b0, X, eT, r⟩ := W
  obtain ⟨hS, hk, hZ, hown, hE, hC, hF, hO, hK, n1, n2⟩ := id r
  have sf : ∀ x : Nat, x ∈ wsc → x < h.size ∧ Safe Z EL vm0 h x := fun x hx => by
    rcases List.mem_append.mp (hwc x hx) with q | q
    · exact (n1 x q).2
    · exact (n2 x q).2.2
  obtain ⟨v, vm1, ⟨T', L', c', s'⟩, -, X', hS2, hg2, ⟨L, N, ⟨q1, q2, q3, q4, q5⟩, l1, l2, l3, C'⟩, stp⟩ := X.specialBackS hx (y := y) hy1 hown (mv (s := s.setVm vm0) hZ w1) (mv (s := s.setVm vm0) hZ w2) (mv (s := s.setVm vm0) hZ w4) hy (backCF (W := (st.map fun v => v.category).sum) H hZ w4 w3 hf hl hE hC.1 sf) (g := mkF m pc Ls stk) rfl hsz (Steps.refl _) (a := a) (argsL := argsL) (rest := st) hlen hstk (by show 2 * 0 + _ ≤ _; omega) hd (fun _ _ => ⟨rfl, eT, hc, hs⟩)
  dsimp only [Pt.U, Pt.locs, Pt.cells, Pt.slots] at X' hS2 hg2 q1 q3 q4 q5 l1 l2 l3 C' stp
  subst l1 l2 l3
  exact (k N v T' _ (Wk.calledF (h' := T'.heap) hwc X' rfl hS2 (Nat.le_refl _) (by rw [← eT]; exact hg2) q2 q3 q4 q5 C' r) q3 (fun x hx => ⟨(q5 x hx).1, (q5 x hx).2.1⟩) q1).by fun t q => stp.trans q
theorem w_virtualF (W : Wk p l e R s m args below meth c Z EL own ws nw T h cells slots) (hx : p.tables.exec = Jvm.exec) {index : Nat} {y z : MethodName} {C : String} {bytes : ByteArray} {maxL : Nat} {ret : Option FieldType} {rm : Room} {Q : List Addr → Option Value → Heap → Prop} {wsc : List Addr} {a : Nat} (argsL : List Value)
    (w1 : (Cond.methodLink own index y).before a0 Z = true) (w2 : (Cond.declares y).before a0 Z = true) (hnf : ∀ {U : State}, Z.Warmed39 U.vm → NotFace U y) (w3 : (Cond.selects C y z).before a0 Z = true) (w5 : (Cond.instanceMethod z).before a0 Z = true) (w6 : (Cond.initialized z.cls).before a0 Z = true) (w4 : (Cond.code z bytes maxL ret).before a0 Z = true) (hy : y.cls ≠ "java/lang/invoke/MethodHandle" ∧ y.cls ≠ "java/lang/invoke/VarHandle")
    (H : ConF l Z EL z bytes maxL ret rm (.ref a :: argsL).toArray h wsc Q) (E : Exa Z h a C) (hwc : ∀ x ∈ wsc, x ∈ ws ++ nw) (hsz : Ls.size = c.maxLocals) (hlen : ∀ sig, parseMethodDescriptor y.desc = some sig → argsL.length = sig.parameters.length) {stk : List Value} (hstk : stk = argsL.reverse ++ .ref a :: st) (hd : decode c.code pc = .ok (.invokevirtual index, 3))
    (hf : rm.frames + 1 ≤ R.frames) (hl : (st.map fun v => v.category).sum + (maxL + 11) + rm.locals ≤ R.locals) (hc : cells + rm.cells ≤ R.cells) (hs : slots + rm.slots ≤ R.slots) (hp : pc + 3 = pc')
    (k : ∀ N v T' h', Wk p l e R s m args below meth c Z EL own ws (N ++ nw) T' h' (cells + rm.cells) (slots + rm.slots) → Keep h h' wsc → (∀ x : Nat, x ∈ N → h.size ≤ x ∧ x < h'.size) → Q N v h' → Gets p.tables e below P T' (mkF m pc' Ls (v.toList ++ st))) : Gets p.tables e below P T (mkF m pc Ls stk) := by
  subst hp
  obtain ⟨vm0, k0, locs, b0, X, eT, r⟩ := W
  obtain ⟨hS, hk, hZ, hown, hE, hC, hF, hO, hK, n1, n2⟩ := id r
  have sf : ∀ x : Nat, x ∈ wsc → x < h.size ∧ Safe Z EL vm0 h x := fun x hx => by
    rcases List.mem_append.mp (hwc x hx) with q | q
    · exact (n1 x q).2
    · exact (n2 x q).2.2
  obtain ⟨cq, kq, qa, qb, qc⟩ := isOf (s := s.setVm vm0) hZ eT E
  obtain ⟨v, vm1, ⟨T', L', c', s'⟩, -, X', hS2, hg2, ⟨L, N, ⟨q1, q2, q3, q4, q5⟩, l1, l2, l3, C'⟩, stp⟩ := X.virtualBackS hx (y := y) (z := z) hown (mv (s := s.setVm vm0) hZ w1) (mv (s := s.setVm vm0) hZ w2) (hnf (U := s.setVm vm0) hZ) (mv (s := s.setVm vm0) hZ w3) (mv (s := s.setVm vm0) hZ w5) hy (backCF (W := (st.map fun v => v.category).sum) H hZ w4 w6 hf hl hE hC.1 sf) qa qc (g := mkF m pc Ls stk) rfl hsz (Steps.refl _) (argsL := argsL) (rest := st) hlen hstk (by show 2 * 0 + _ ≤ _; omega) hd (fun _ _ => ⟨rfl, eT, hc, hs⟩)
  dsimp only [Pt.U, Pt.locs, Pt.cells, Pt.slots] at X' hS2 hg2 q1 q3 q4 q5 l1 l2 l3 C' stp
  subst l1 l2 l3
  exact (k N v T' _ (Wk.calledF (h' := T'.heap) hwc X' rfl hS2 (Nat.le_refl _) (by rw [← eT]; exact hg2) q2 q3 q4 q5 C' r) q3 (fun x hx => ⟨(q5 x hx).1, (q5 x hx).2.1⟩) q1).by fun t q => stp.trans q
theorem w_virtualUpF (W : Wk p l e R s m args below meth c Z EL own ws nw T h cells slots) (hx : p.tables.exec = Jvm.exec) {index : Nat} {y z : MethodName} {C owner : String} {bytes : ByteArray} {maxL : Nat} {ret : Option FieldType} {rm : Room} {Q : List Addr → Option Value → Heap → Prop} {wsc : List Addr} {a : Nat} (argsL : List Value)
    (w1 : (Cond.methodLink own index y).before a0 Z = true) (w7 : (Cond.sameMethod y.cls owner y.name y.desc).before a0 Z = true) (w2 : (Cond.declares ⟨owner, y.name, y.desc⟩).before a0 Z = true) (w3 : (Cond.selects C y z).before a0 Z = true) (w5 : (Cond.instanceMethod z).before a0 Z = true) (w6 : (Cond.initialized z.cls).before a0 Z = true) (w4 : (Cond.code z bytes maxL ret).before a0 Z = true) (hy : owner ≠ "java/lang/invoke/MethodHandle" ∧ owner ≠ "java/lang/invoke/VarHandle")
    (H : ConF l Z EL z bytes maxL ret rm (.ref a :: argsL).toArray h wsc Q) (E : Exa Z h a C) (hwc : ∀ x ∈ wsc, x ∈ ws ++ nw) (hsz : Ls.size = c.maxLocals) (hlen : ∀ sig, parseMethodDescriptor y.desc = some sig → argsL.length = sig.parameters.length) {stk : List Value} (hstk : stk = argsL.reverse ++ .ref a :: st) (hd : decode c.code pc = .ok (.invokevirtual index, 3))
    (hf : rm.frames + 1 ≤ R.frames) (hl : (st.map fun v => v.category).sum + (maxL + 11) + rm.locals ≤ R.locals) (hc : cells + rm.cells ≤ R.cells) (hs : slots + rm.slots ≤ R.slots) (hp : pc + 3 = pc')
    (k : ∀ N v T' h', Wk p l e R s m args below meth c Z EL own ws (N ++ nw) T' h' (cells + rm.cells) (slots + rm.slots) → Keep h h' wsc → (∀ x : Nat, x ∈ N → h.size ≤ x ∧ x < h'.size) → Q N v h' → Gets p.tables e below P T' (mkF m pc' Ls (v.toList ++ st))) : Gets p.tables e below P T (mkF m pc Ls stk) := by
  subst hp
  obtain ⟨vm0, k0, locs, b0, X, eT, r⟩ := W
  obtain ⟨hS, hk, hZ, hown, hE, hC, hF, hO, hK, n1, n2⟩ := id r
  have sf : ∀ x : Nat, x ∈ wsc → x < h.size ∧ Safe Z EL vm0 h x := fun x hx => by
    rcases List.mem_append.mp (hwc x hx) with q | q
    · exact (n1 x q).2
    · exact (n2 x q).2.2
  obtain ⟨cq, kq, qa, qb, qc⟩ := isOf (s := s.setVm vm0) hZ eT E
  obtain ⟨v, vm1, ⟨T', L', c', s'⟩, -, X', hS2, hg2, ⟨L, N, ⟨q1, q2, q3, q4, q5⟩, l1, l2, l3, C'⟩, stp⟩ := X.virtualBackUpS hx (x := y) (y := z) hown (mv (s := s.setVm vm0) hZ w1) (mv (s := s.setVm vm0) hZ w7) (mv (s := s.setVm vm0) hZ w2) hy (mv (s := s.setVm vm0) hZ w3) (mv (s := s.setVm vm0) hZ w5) (backCF (W := (st.map fun v => v.category).sum) H hZ w4 w6 hf hl hE hC.1 sf) qa qc (g := mkF m pc Ls stk) rfl hsz (Steps.refl _) (argsL := argsL) (rest := st) hlen hstk (by show 2 * 0 + _ ≤ _; omega) hd (fun _ _ => ⟨rfl, eT, hc, hs⟩)
  dsimp only [Pt.U, Pt.locs, Pt.cells, Pt.slots] at X' hS2 hg2 q1 q3 q4 q5 l1 l2 l3 C' stp
  subst l1 l2 l3
  exact (k N v T' _ (Wk.calledF (h' := T'.heap) hwc X' rfl hS2 (Nat.le_refl _) (by rw [← eT]; exact hg2) q2 q3 q4 q5 C' r) q3 (fun x hx => ⟨(q5 x hx).1, (q5 x hx).2.1⟩) q1).by fun t q => stp.trans q
theorem w_ifaceF (W : Wk p l e R s m args below meth c Z EL own ws nw T h cells slots) (hx : p.tables.exec = Jvm.exec) {index count : Nat} {y z : MethodName} {C : String} {bytes : ByteArray} {maxL : Nat} {ret : Option FieldType} {rm : Room} {Q : List Addr → Option Value → Heap → Prop} {wsc : List Addr} {a : Nat} (argsL : List Value)
    (w1 : (Cond.methodLink own index y).before a0 Z = true) (w2 : (Cond.declares y).before a0 Z = true) (w7 : (Cond.interfaceMethod y.cls y.cls y.name y.desc).before a0 Z = true) (w3 : (Cond.selects C y z).before a0 Z = true) (w5 : (Cond.instanceMethod z).before a0 Z = true) (w8 : (Cond.publicMethod z).before a0 Z = true) (w9 : (Cond.unhidden C y.name y.desc).before a0 Z = true) (w10 : (Cond.castable C y.cls).before a0 Z = true) (w6 : (Cond.initialized z.cls).before a0 Z = true) (w4 : (Cond.code z bytes maxL ret).before a0 Z = true) (hy : y.cls ≠ "java/lang/invoke/MethodHandle" ∧ y.cls ≠ "java/lang/invoke/VarHandle")
    (H : ConF l Z EL z bytes maxL ret rm (.ref a :: argsL).toArray h wsc Q) (E : Exa Z h a C) (hwc : ∀ x ∈ wsc, x ∈ ws ++ nw) (hsz : Ls.size = c.maxLocals) (hlen : ∀ sig, parseMethodDescriptor y.desc = some sig → argsL.length = sig.parameters.length) {stk : List Value} (hstk : stk = argsL.reverse ++ .ref a :: st) (hd : decode c.code pc = .ok (.invokeinterface index count, 5))
    (hf : rm.frames + 1 ≤ R.frames) (hl : (st.map fun v => v.category).sum + (maxL + 11) + rm.locals ≤ R.locals) (hc : cells + rm.cells ≤ R.cells) (hs : slots + rm.slots ≤ R.slots) (hp : pc + 5 = pc')
    (k : ∀ N v T' h', Wk p l e R s m args below meth c Z EL own ws (N ++ nw) T' h' (cells + rm.cells) (slots + rm.slots) → Keep h h' wsc → (∀ x : Nat, x ∈ N → h.size ≤ x ∧ x < h'.size) → Q N v h' → Gets p.tables e below P T' (mkF m pc' Ls (v.toList ++ st))) : Gets p.tables e below P T (mkF m pc Ls stk) := by
  subst hp
  obtain ⟨vm0, k0, locs, b0, X, eT, r⟩ := W
  obtain ⟨hS, hk, hZ, hown, hE, hC, hF, hO, hK, n1, n2⟩ := id r
  have sf : ∀ x : Nat, x ∈ wsc → x < h.size ∧ Safe Z EL vm0 h x := fun x hx => by
    rcases List.mem_append.mp (hwc x hx) with q | q
    · exact (n1 x q).2
    · exact (n2 x q).2.2
  obtain ⟨cq, kq, qa, qb, qc⟩ := isOf (s := s.setVm vm0) hZ eT E
  obtain ⟨v, vm1, ⟨T', L', c', s'⟩, -, X', hS2, hg2, ⟨L, N, ⟨q1, q2, q3, q4, q5⟩, l1, l2, l3, C'⟩, stp⟩ := X.interfaceBackS hx (xi := y) (y := z) hown (mv (s := s.setVm vm0) hZ w1) (mv (s := s.setVm vm0) hZ w2) (mv (s := s.setVm vm0) hZ w7 (by simp [Cond.onTables, Cond.keepsFace, Cond.keeps, Cond.steady, Cond.faceAtom, hy.1, hy.2])) (mv (s := s.setVm vm0) hZ w3) (mv (s := s.setVm vm0) hZ w5) (mv (s := s.setVm vm0) hZ w8) (mv (s := s.setVm vm0) hZ w9) (mv (s := s.setVm vm0) hZ w10) hy (backCF (W := (st.map fun v => v.category).sum) H hZ w4 w6 hf hl hE hC.1 sf) qa qb qc (g := mkF m pc Ls stk) rfl hsz (Steps.refl _) (argsL := argsL) (rest := st) hlen hstk (by show 2 * 0 + _ ≤ _; omega) hd (fun _ _ => ⟨rfl, eT, hc, hs⟩)
  dsimp only [Pt.U, Pt.locs, Pt.cells, Pt.slots] at X' hS2 hg2 q1 q3 q4 q5 l1 l2 l3 C' stp
  subst l1 l2 l3
  exact (k N v T' _ (Wk.calledF (h' := T'.heap) hwc X' rfl hS2 (Nat.le_refl _) (by rw [← eT]; exact hg2) q2 q3 q4 q5 C' r) q3 (fun x hx => ⟨(q5 x hx).1, (q5 x hx).2.1⟩) q1).by fun t q => stp.trans q
/-- an array of references over the class C: its exact content -/
def AryR (Z : State) (h : Heap) (a : Addr) (C : String) (vs : List Value) : Prop := ∃ cl : Cell, Arr Z h a cl (.object C) ∧ Ovr Z cl.cls C ∧ cl.slots.toList = vs ∧ vs.length < 2 ^ 31 ∧ ∀ v ∈ vs, fits (.object C) v = true
theorem AryR.ary {Z : State} {h : Heap} {a : Addr} {C : String} {vs : List Value} (F : AryR Z h a C vs) : Ary Z h a (.object C) vs := by obtain ⟨c, A, -, r⟩ := F; exact ⟨c, A, r⟩
theorem AryR.lt {Z : State} {h : Heap} {a : Addr} {C : String} {vs : List Value} (F : AryR Z h a C vs) : a < h.size := F.ary.lt
theorem AryR.keep {Z : State} {h h' : Heap} {a : Addr} {C : String} {vs : List Value} {ws : List Addr} (F : AryR Z h a C vs) (K : Keep h h' ws) (q : a ∉ ws) : AryR Z h' a C vs := by obtain ⟨c, A, r⟩ := F; exact ⟨c, ⟨K.2.1 a c A.1 q, A.2⟩, r⟩
theorem AryR.made {Z : State} {h : Heap} {a : Addr} {C : String} {k : ClassId} {n : Int32} (A : Arr Z h a (newA k (.object C) n) (.object C)) (O : Ovr Z k C) (hn : ¬ n < 0) : AryR Z h a C (List.replicate n.toNatClampNeg .null) :=
  ⟨_, A, O, by simp [newA, defaultValue], by rw [List.length_replicate]; exact (back32 hn).2, fun v hv => by rw [(List.mem_replicate.mp hv).2]; rfl⟩
theorem AryR.wrote {Z : State} {h h' : Heap} {a : Addr} {C : String} {vs : List Value} {cl : Cell} {y : Addr} {i : Nat} (A : Arr Z h a cl (.object C)) (O : Ovr Z cl.cls C) (e : cl.slots.toList = vs) (hl : vs.length < 2 ^ 31) (hf : ∀ w ∈ vs, fits (.object C) w = true) (W : Wr h h' a i (.ref y)) : AryR Z h' a C (vs.set i (.ref y)) := by
  refine ⟨cl.setSlot i (.ref y), A.same W, O, ?_, by rw [List.length_set]; exact hl, fun w hw => ?_⟩
  · rw [← e]; simp [Cell.setSlot]
  · rcases List.mem_or_eq_of_mem_set hw with q | q
    · exact hf w q
    · rw [q]; rfl
theorem w_anewarr (W : Wk p l e R s m args below meth c Z EL own ws nw T h cells slots) (hx : p.tables.exec = Jvm.exec) {C : String} {index : Nat} (w : (Cond.classLink own index C).before a0 Z = true) (w2 : (Cond.arrayOver (.object C)).before a0 Z = true) {n : Int32} (hd : decode c.code pc = .ok (.anewarray index, 3)) (hn : ¬ n < 0) {cap : Nat} (hcap : n.toNatClampNeg ≤ cap) (hb : cap * 8 ≤ 536870912) (hc : cells + 1 ≤ R.cells) (hl : slots + cap ≤ R.slots) (hp : pc + 3 = pc')
    (k : ∀ (T' : State) (h' : Heap) (b : Nat), b = h.size → Wk p l e R s m args below meth c Z EL own ws (b :: nw) T' h' (cells + 1) (slots + cap) → Keep h h' [] → AryR Z h' b C (List.replicate n.toNatClampNeg .null) → Gets p.tables e below P T' (mkF m pc' Ls (.ref b :: st))) : Gets p.tables e below P T (mkF m pc Ls (.int n :: st)) := by
  subst hp
  obtain ⟨vm0, k0, locs, b0, X, eT, hS, hk, hZ, hown, hE, hC, hF, hO, hK, n1, n2⟩ := W
  obtain ⟨T', h', cA, X', e', E, A, OO, stp⟩ := Jvm.RoadKit.newR X hx hZ hown w w2 eT (g := mkF m pc Ls (.int n :: st)) rfl hd rfl hn hcap hb hc hl
  have hn' : h.size < h'.size := A.lt
  have hs : s.heap.size ≤ h.size := hK.1
  refine (k T' h' h.size rfl ⟨vm0, k0, locs, b0, X', e', hS, Nat.le_trans hk E.1, hZ, hown, hE, hC.trans (CHr.ext E hC.1), hF, ⟨Nat.le_trans hO.1 E.1, fun a c q => E.2 a c (hO.2 a c q)⟩, hK.ext E, fun x hx => ?_, fun x hx => ?_⟩ ((Keep.refl h []).ext E) (AryR.made A OO hn)).by stp
  · obtain ⟨a, b, c⟩ := n1 x hx
    exact ⟨a, Nat.lt_of_lt_of_le b E.1, c.ext E hC.1⟩
  · rcases List.mem_cons.mp hx with rfl | hx
    · exact ⟨hs, hO.1, hn', Safe.ext E hC.1 (Safe.new (Nat.le_refl _))⟩
    · obtain ⟨a, b, c, d⟩ := n2 x hx
      exact ⟨a, b, Nat.lt_of_lt_of_le c E.1, d.ext E hC.1⟩
theorem w_aastore (W : Wk p l e R s m args below meth c Z EL own ws nw T h cells slots) (hx : p.tables.exec = Jvm.exec) {a : Nat} {C : String} {vs : List Value} {j : Int32} {y : Nat} (F : AryR Z h a C vs) (I : Ins Z h y C true) (hj : ¬ j < 0) (hi : j.toNatClampNeg < vs.length) (ha : a ∈ ws ++ nw) (hd : decode c.code pc = .ok (.aastore, 1)) (hp : pc + 1 = pc')
    (k : ∀ T' h', Wk p l e R s m args below meth c Z EL own ws nw T' h' cells slots → Keep h h' [a] → AryR Z h' a C (vs.set j.toNatClampNeg (.ref y)) → Gets p.tables e below P T' (mkF m pc' Ls st)) : Gets p.tables e below P T (mkF m pc Ls (.ref y :: .int j :: .ref a :: st)) := by
  subst hp
  obtain ⟨vm0, k0, locs, b0, X, eT, r⟩ := W
  obtain ⟨cl, A, OO, e1, e2, e3⟩ := F
  obtain ⟨T', h', X', e', WW, stp⟩ := Jvm.RoadKit.stR X hx r.2.2.1 eT A (j := j) (v := .ref y) (fun q => q.elim hj fun q => by rw [size_of_list e1] at q; omega) rfl (Sto.of A OO I) (g := mkF m pc Ls (.ref y :: .int j :: .ref a :: st)) rfl rfl hd
  exact (k T' h' (Wk.wrote ha WW X' e' r) (Keep.of_wr WW) (AryR.wrote A OO e1 e2 e3 WW)).by stp
end OwnFresh
theorem w_0 : tables_1[0]? = some (Jvm.Cond.classLink "com/example/updatable_views/updatableviews/SqlTokenIsKeywordPinLaw" (7 : Nat) "com/example/updatable_views/updatableviews/SqlToken$Kind") := rfl
theorem w_1 : tables_1[1]? = some (Jvm.Cond.arrayOver (Jvm.ClassFile.FieldType.object "com/example/updatable_views/updatableviews/SqlToken$Kind")) := rfl
theorem w_2 : tables_1[2]? = some (Jvm.Cond.fieldLink "com/example/updatable_views/updatableviews/SqlTokenIsKeywordPinLaw" (9 : Nat) "com/example/updatable_views/updatableviews/SqlToken$Kind" "WORD" "Lcom/example/updatable_views/updatableviews/SqlToken$Kind;") := rfl
theorem w_3 : tables_1[3]? = some (Jvm.Cond.initialized "com/example/updatable_views/updatableviews/SqlToken$Kind") := rfl
theorem w_4 : tables_1[4]? = some (Jvm.Cond.laysStatic "com/example/updatable_views/updatableviews/SqlToken$Kind" "WORD" "Lcom/example/updatable_views/updatableviews/SqlToken$Kind;") := rfl
theorem w_6 : tables_1[6]? = some (Jvm.Cond.fieldLink "com/example/updatable_views/updatableviews/SqlTokenIsKeywordPinLaw" (13 : Nat) "com/example/updatable_views/updatableviews/SqlToken$Kind" "NUMBER" "Lcom/example/updatable_views/updatableviews/SqlToken$Kind;") := rfl
theorem w_7 : tables_1[7]? = some (Jvm.Cond.laysStatic "com/example/updatable_views/updatableviews/SqlToken$Kind" "NUMBER" "Lcom/example/updatable_views/updatableviews/SqlToken$Kind;") := rfl
theorem w_8 : tables_1[8]? = some (Jvm.Cond.fieldLink "com/example/updatable_views/updatableviews/SqlTokenIsKeywordPinLaw" (16 : Nat) "com/example/updatable_views/updatableviews/SqlToken$Kind" "STRING" "Lcom/example/updatable_views/updatableviews/SqlToken$Kind;") := rfl
theorem w_9 : tables_1[9]? = some (Jvm.Cond.laysStatic "com/example/updatable_views/updatableviews/SqlToken$Kind" "STRING" "Lcom/example/updatable_views/updatableviews/SqlToken$Kind;") := rfl
theorem w_10 : tables_1[10]? = some (Jvm.Cond.fieldLink "com/example/updatable_views/updatableviews/SqlTokenIsKeywordPinLaw" (19 : Nat) "com/example/updatable_views/updatableviews/SqlToken$Kind" "BLOB" "Lcom/example/updatable_views/updatableviews/SqlToken$Kind;") := rfl
theorem w_11 : tables_1[11]? = some (Jvm.Cond.laysStatic "com/example/updatable_views/updatableviews/SqlToken$Kind" "BLOB" "Lcom/example/updatable_views/updatableviews/SqlToken$Kind;") := rfl
theorem w_12 : tables_1[12]? = some (Jvm.Cond.fieldLink "com/example/updatable_views/updatableviews/SqlTokenIsKeywordPinLaw" (22 : Nat) "com/example/updatable_views/updatableviews/SqlToken$Kind" "QUOTED_NAME" "Lcom/example/updatable_views/updatableviews/SqlToken$Kind;") := rfl
theorem w_13 : tables_1[13]? = some (Jvm.Cond.laysStatic "com/example/updatable_views/updatableviews/SqlToken$Kind" "QUOTED_NAME" "Lcom/example/updatable_views/updatableviews/SqlToken$Kind;") := rfl
theorem w_14 : tables_1[14]? = some (Jvm.Cond.fieldLink "com/example/updatable_views/updatableviews/SqlTokenIsKeywordPinLaw" (25 : Nat) "com/example/updatable_views/updatableviews/SqlToken$Kind" "PARAMETER" "Lcom/example/updatable_views/updatableviews/SqlToken$Kind;") := rfl
theorem w_15 : tables_1[15]? = some (Jvm.Cond.laysStatic "com/example/updatable_views/updatableviews/SqlToken$Kind" "PARAMETER" "Lcom/example/updatable_views/updatableviews/SqlToken$Kind;") := rfl
theorem w_16 : tables_1[16]? = some (Jvm.Cond.fieldLink "com/example/updatable_views/updatableviews/SqlTokenIsKeywordPinLaw" (28 : Nat) "com/example/updatable_views/updatableviews/SqlToken$Kind" "COMMENT" "Lcom/example/updatable_views/updatableviews/SqlToken$Kind;") := rfl
theorem w_17 : tables_1[17]? = some (Jvm.Cond.laysStatic "com/example/updatable_views/updatableviews/SqlToken$Kind" "COMMENT" "Lcom/example/updatable_views/updatableviews/SqlToken$Kind;") := rfl
theorem w_18 : tables_1[18]? = some (Jvm.Cond.fieldLink "com/example/updatable_views/updatableviews/SqlTokenIsKeywordPinLaw" (31 : Nat) "com/example/updatable_views/updatableviews/SqlToken$Kind" "SYMBOL" "Lcom/example/updatable_views/updatableviews/SqlToken$Kind;") := rfl
theorem w_19 : tables_1[19]? = some (Jvm.Cond.laysStatic "com/example/updatable_views/updatableviews/SqlToken$Kind" "SYMBOL" "Lcom/example/updatable_views/updatableviews/SqlToken$Kind;") := rfl
theorem w_20 : tables_1[20]? = some (Jvm.Cond.constantLong "com/example/updatable_views/updatableviews/SqlTokenIsKeywordPinLaw" (34 : Nat) (65535 : Int64)) := rfl
theorem w_21 : tables_1[21]? = some (Jvm.Cond.methodLink "com/example/updatable_views/updatableviews/SqlTokenIsKeywordPinLaw" (36 : Nat) ({ cls := "com/example/updatable_views/updatableviews/SqlTokenIsKeywordPinLaw", name := "up", desc := "(C)C" } : Jvm.MethodName)) := rfl
theorem w_22 : tables_1[22]? = some (Jvm.Cond.static ({ cls := "com/example/updatable_views/updatableviews/SqlTokenIsKeywordPinLaw", name := "up", desc := "(C)C" } : Jvm.MethodName)) := rfl
theorem w_23 : tables_1[23]? = some (Jvm.Cond.initialized "com/example/updatable_views/updatableviews/SqlTokenIsKeywordPinLaw") := rfl
theorem w_24 : tables_1[24]? = some (Jvm.Cond.code ({ cls := "com/example/updatable_views/updatableviews/SqlTokenIsKeywordPinLaw", name := "up", desc := "(C)C" } : Jvm.MethodName) method_3_code (1 : Nat) (Option.some Jvm.ClassFile.FieldType.char)) := rfl
theorem w_25 : tables_1[25]? = some (Jvm.Cond.arrayClass Jvm.ClassFile.FieldType.char) := rfl
theorem w_26 : tables_1[26]? = some (Jvm.Cond.constant "com/example/updatable_views/updatableviews/SqlTokenIsKeywordPinLaw" (42 : Nat) (65535 : Int32)) := rfl
theorem w_27 : tables_1[27]? = some (Jvm.Cond.methodLink "com/example/updatable_views/updatableviews/SqlTokenIsKeywordPinLaw" (43 : Nat) ({ cls := "com/example/updatable_views/updatableviews/SqlTokenIsKeywordPinLaw", name := "place", desc := "(CCI)C" } : Jvm.MethodName)) := rfl
theorem w_28 : tables_1[28]? = some (Jvm.Cond.static ({ cls := "com/example/updatable_views/updatableviews/SqlTokenIsKeywordPinLaw", name := "place", desc := "(CCI)C" } : Jvm.MethodName)) := rfl
theorem w_29 : tables_1[29]? = some (Jvm.Cond.code ({ cls := "com/example/updatable_views/updatableviews/SqlTokenIsKeywordPinLaw", name := "place", desc := "(CCI)C" } : Jvm.MethodName) method_4_code (3 : Nat) (Option.some Jvm.ClassFile.FieldType.char)) := rfl
theorem w_30 : tables_1[30]? = some (Jvm.Cond.classLink "com/example/updatable_views/updatableviews/SqlTokenIsKeywordPinLaw" (47 : Nat) "java/lang/String") := rfl
theorem w_31 : tables_1[31]? = some (Jvm.Cond.instantiable "java/lang/String" (4 : Nat)) := rfl
theorem w_32 : tables_1[32]? = some (Jvm.Cond.initialized "java/lang/String") := rfl
theorem w_33 : tables_1[33]? = some (Jvm.Cond.methodLink "com/example/updatable_views/updatableviews/SqlTokenIsKeywordPinLaw" (49 : Nat) ({ cls := "java/lang/String", name := "<init>", desc := "([C)V" } : Jvm.MethodName)) := rfl
theorem w_34 : tables_1[34]? = some (Jvm.Cond.instanceMethod ({ cls := "java/lang/String", name := "<init>", desc := "([C)V" } : Jvm.MethodName)) := rfl
theorem w_35 : tables_1[35]? = some (Jvm.Cond.code ({ cls := "java/lang/String", name := "<init>", desc := "([C)V" } : Jvm.MethodName) jdk_42_method_3_code (2 : Nat) (Option.none : Option Jvm.ClassFile.FieldType)) := rfl
theorem w_36 : tables_1[36]? = some (Jvm.Cond.methodLink "java/lang/String" (27 : Nat) ({ cls := "java/lang/String", name := "<init>", desc := "([CIILjava/lang/Void;)V" } : Jvm.MethodName)) := rfl
theorem w_37 : tables_1[37]? = some (Jvm.Cond.instanceMethod ({ cls := "java/lang/String", name := "<init>", desc := "([CIILjava/lang/Void;)V" } : Jvm.MethodName)) := rfl
theorem w_39 : tables_1[39]? = some (Jvm.Cond.code ({ cls := "java/lang/String", name := "<init>", desc := "([CIILjava/lang/Void;)V" } : Jvm.MethodName) jdk_42_method_149_code (6 : Nat) (Option.none : Option Jvm.ClassFile.FieldType)) := rfl
theorem w_40 : tables_1[40]? = some (Jvm.Cond.methodLink "java/lang/String" (1 : Nat) ({ cls := "java/lang/Object", name := "<init>", desc := "()V" } : Jvm.MethodName)) := rfl
theorem w_41 : tables_1[41]? = some (Jvm.Cond.instanceMethod ({ cls := "java/lang/Object", name := "<init>", desc := "()V" } : Jvm.MethodName)) := rfl
theorem w_42 : tables_1[42]? = some (Jvm.Cond.code ({ cls := "java/lang/Object", name := "<init>", desc := "()V" } : Jvm.MethodName) object_method_1_code (1 : Nat) (Option.none : Option Jvm.ClassFile.FieldType)) := rfl
theorem w_43 : tables_1[43]? = some (Jvm.Cond.fieldLink "java/lang/String" (38 : Nat) "java/lang/String" "COMPACT_STRINGS" "Z") := rfl
theorem w_44 : tables_1[44]? = some (Jvm.Cond.methodLink "java/lang/String" (177 : Nat) ({ cls := "java/lang/StringUTF16", name := "compress", desc := "([CII)[B" } : Jvm.MethodName)) := rfl
theorem w_45 : tables_1[45]? = some (Jvm.Cond.static ({ cls := "java/lang/StringUTF16", name := "compress", desc := "([CII)[B" } : Jvm.MethodName)) := rfl
theorem w_46 : tables_1[46]? = some (Jvm.Cond.initialized "java/lang/StringUTF16") := rfl
theorem w_47 : tables_1[47]? = some (Jvm.Cond.code ({ cls := "java/lang/StringUTF16", name := "compress", desc := "([CII)[B" } : Jvm.MethodName) jdk_52_method_16_code (6 : Nat) (Option.some (Jvm.ClassFile.FieldType.array Jvm.ClassFile.FieldType.byte))) := rfl
theorem w_48 : tables_1[48]? = some (Jvm.Cond.arrayClass Jvm.ClassFile.FieldType.byte) := rfl
theorem w_49 : tables_1[49]? = some (Jvm.Cond.methodLink "java/lang/StringUTF16" (115 : Nat) ({ cls := "java/lang/StringUTF16", name := "compress", desc := "([CI[BII)I" } : Jvm.MethodName)) := rfl
theorem w_50 : tables_1[50]? = some (Jvm.Cond.static ({ cls := "java/lang/StringUTF16", name := "compress", desc := "([CI[BII)I" } : Jvm.MethodName)) := rfl
theorem w_51 : tables_1[51]? = some (Jvm.Cond.code ({ cls := "java/lang/StringUTF16", name := "compress", desc := "([CI[BII)I" } : Jvm.MethodName) jdk_52_method_21_code (7 : Nat) (Option.some Jvm.ClassFile.FieldType.int)) := rfl
theorem w_52 : tables_1[52]? = some (Jvm.Cond.methodLink "java/lang/StringUTF16" (119 : Nat) ({ cls := "java/lang/StringUTF16", name := "toBytes", desc := "([CII)[B" } : Jvm.MethodName)) := rfl
theorem w_53 : tables_1[53]? = some (Jvm.Cond.static ({ cls := "java/lang/StringUTF16", name := "toBytes", desc := "([CII)[B" } : Jvm.MethodName)) := rfl
theorem w_54 : tables_1[54]? = some (Jvm.Cond.code ({ cls := "java/lang/StringUTF16", name := "toBytes", desc := "([CII)[B" } : Jvm.MethodName) jdk_52_method_14_code (5 : Nat) (Option.some (Jvm.ClassFile.FieldType.array Jvm.ClassFile.FieldType.byte))) := rfl
theorem w_55 : tables_1[55]? = some (Jvm.Cond.methodLink "java/lang/StringUTF16" (107 : Nat) ({ cls := "java/lang/StringUTF16", name := "newBytesFor", desc := "(I)[B" } : Jvm.MethodName)) := rfl
theorem w_56 : tables_1[56]? = some (Jvm.Cond.static ({ cls := "java/lang/StringUTF16", name := "newBytesFor", desc := "(I)[B" } : Jvm.MethodName)) := rfl
theorem w_57 : tables_1[57]? = some (Jvm.Cond.code ({ cls := "java/lang/StringUTF16", name := "newBytesFor", desc := "(I)[B" } : Jvm.MethodName) jdk_52_method_2_code (1 : Nat) (Option.some (Jvm.ClassFile.FieldType.array Jvm.ClassFile.FieldType.byte))) := rfl
theorem w_58 : tables_1[58]? = some (Jvm.Cond.methodLink "java/lang/StringUTF16" (11 : Nat) ({ cls := "java/lang/StringUTF16", name := "newBytesLength", desc := "(I)I" } : Jvm.MethodName)) := rfl
theorem w_59 : tables_1[59]? = some (Jvm.Cond.static ({ cls := "java/lang/StringUTF16", name := "newBytesLength", desc := "(I)I" } : Jvm.MethodName)) := rfl
theorem w_60 : tables_1[60]? = some (Jvm.Cond.code ({ cls := "java/lang/StringUTF16", name := "newBytesLength", desc := "(I)I" } : Jvm.MethodName) jdk_52_method_3_code (1 : Nat) (Option.some Jvm.ClassFile.FieldType.int)) := rfl
theorem w_61 : tables_1[61]? = some (Jvm.Cond.constant "java/lang/StringUTF16" (20 : Nat) (1073741823 : Int32)) := rfl
theorem w_62 : tables_1[62]? = some (Jvm.Cond.methodLink "java/lang/StringUTF16" (111 : Nat) ({ cls := "java/lang/StringUTF16", name := "putChar", desc := "([BII)V" } : Jvm.MethodName)) := rfl
theorem w_63 : tables_1[63]? = some (Jvm.Cond.static ({ cls := "java/lang/StringUTF16", name := "putChar", desc := "([BII)V" } : Jvm.MethodName)) := rfl
theorem w_64 : tables_1[64]? = some (Jvm.Cond.code ({ cls := "java/lang/StringUTF16", name := "putChar", desc := "([BII)V" } : Jvm.MethodName) jdk_52_method_4_code (3 : Nat) (Option.none : Option Jvm.ClassFile.FieldType)) := rfl
theorem w_65 : tables_1[65]? = some (Jvm.Cond.fieldLink "java/lang/StringUTF16" (44 : Nat) "java/lang/StringUTF16" "$assertionsDisabled" "Z") := rfl
theorem w_66 : tables_1[66]? = some (Jvm.Cond.fieldLink "java/lang/StringUTF16" (59 : Nat) "java/lang/StringUTF16" "HI_BYTE_SHIFT" "I") := rfl
theorem w_67 : tables_1[67]? = some (Jvm.Cond.fieldLink "java/lang/StringUTF16" (63 : Nat) "java/lang/StringUTF16" "LO_BYTE_SHIFT" "I") := rfl
theorem w_68 : tables_1[68]? = some (Jvm.Cond.methodLink "java/lang/StringUTF16" (71 : Nat) ({ cls := "java/lang/StringUTF16", name := "getChar", desc := "([BI)C" } : Jvm.MethodName)) := rfl
theorem w_69 : tables_1[69]? = some (Jvm.Cond.static ({ cls := "java/lang/StringUTF16", name := "getChar", desc := "([BI)C" } : Jvm.MethodName)) := rfl
theorem w_70 : tables_1[70]? = some (Jvm.Cond.code ({ cls := "java/lang/StringUTF16", name := "getChar", desc := "([BI)C" } : Jvm.MethodName) jdk_52_method_5_code (2 : Nat) (Option.some Jvm.ClassFile.FieldType.char)) := rfl
theorem w_71 : tables_1[71]? = some (Jvm.Cond.methodLink "java/lang/String" (47 : Nat) ({ cls := "java/lang/StringUTF16", name := "coderFromArrayLen", desc := "([BI)B" } : Jvm.MethodName)) := rfl
theorem w_72 : tables_1[72]? = some (Jvm.Cond.static ({ cls := "java/lang/StringUTF16", name := "coderFromArrayLen", desc := "([BI)B" } : Jvm.MethodName)) := rfl
theorem w_73 : tables_1[73]? = some (Jvm.Cond.code ({ cls := "java/lang/StringUTF16", name := "coderFromArrayLen", desc := "([BI)B" } : Jvm.MethodName) jdk_52_method_15_code (2 : Nat) (Option.some Jvm.ClassFile.FieldType.byte)) := rfl
theorem w_74 : tables_1[74]? = some (Jvm.Cond.fieldLink "java/lang/String" (15 : Nat) "java/lang/String" "coder" "B") := rfl
theorem w_75 : tables_1[75]? = some (Jvm.Cond.laysFinal "java/lang/String" "java/lang/String" "coder" "B") := rfl
theorem w_76 : tables_1[76]? = some (Jvm.Cond.fieldLink "java/lang/String" (9 : Nat) "java/lang/String" "value" "[B") := rfl
theorem w_77 : tables_1[77]? = some (Jvm.Cond.laysFinal "java/lang/String" "java/lang/String" "value" "[B") := rfl
theorem w_78 : tables_1[78]? = some (Jvm.Cond.stringLink "java/lang/String" (7 : Nat) "") := rfl
theorem w_79 : tables_1[79]? = some (Jvm.Cond.soleField "java/lang/String" "value") := rfl
theorem w_80 : tables_1[80]? = some (Jvm.Cond.soleField "java/lang/String" "coder") := rfl
theorem w_81 : tables_1[81]? = some (Jvm.Cond.classLink "com/example/updatable_views/updatableviews/SqlTokenIsKeywordPinLaw" (52 : Nat) "com/example/updatable_views/updatableviews/SqlToken") := rfl
theorem w_82 : tables_1[82]? = some (Jvm.Cond.instantiable "com/example/updatable_views/updatableviews/SqlToken" (3 : Nat)) := rfl
theorem w_83 : tables_1[83]? = some (Jvm.Cond.initialized "com/example/updatable_views/updatableviews/SqlToken") := rfl
theorem w_84 : tables_1[84]? = some (Jvm.Cond.methodLink "com/example/updatable_views/updatableviews/SqlTokenIsKeywordPinLaw" (54 : Nat) ({ cls := "com/example/updatable_views/updatableviews/SqlToken", name := "<init>", desc := "(Lcom/example/updatable_views/updatableviews/SqlToken$Kind;II)V" } : Jvm.MethodName)) := rfl
theorem w_85 : tables_1[85]? = some (Jvm.Cond.instanceMethod ({ cls := "com/example/updatable_views/updatableviews/SqlToken", name := "<init>", desc := "(Lcom/example/updatable_views/updatableviews/SqlToken$Kind;II)V" } : Jvm.MethodName)) := rfl
theorem w_86 : tables_1[86]? = some (Jvm.Cond.code ({ cls := "com/example/updatable_views/updatableviews/SqlToken", name := "<init>", desc := "(Lcom/example/updatable_views/updatableviews/SqlToken$Kind;II)V" } : Jvm.MethodName) prog_10_method_1_code (4 : Nat) (Option.none : Option Jvm.ClassFile.FieldType)) := rfl
theorem w_87 : tables_1[87]? = some (Jvm.Cond.methodLink "com/example/updatable_views/updatableviews/SqlToken" (1 : Nat) ({ cls := "java/lang/Object", name := "<init>", desc := "()V" } : Jvm.MethodName)) := rfl
theorem w_88 : tables_1[88]? = some (Jvm.Cond.fieldLink "com/example/updatable_views/updatableviews/SqlToken" (7 : Nat) "com/example/updatable_views/updatableviews/SqlToken" "kind" "Lcom/example/updatable_views/updatableviews/SqlToken$Kind;") := rfl
theorem w_89 : tables_1[89]? = some (Jvm.Cond.laysFinal "com/example/updatable_views/updatableviews/SqlToken" "com/example/updatable_views/updatableviews/SqlToken" "kind" "Lcom/example/updatable_views/updatableviews/SqlToken$Kind;") := rfl
theorem w_90 : tables_1[90]? = some (Jvm.Cond.fieldLink "com/example/updatable_views/updatableviews/SqlToken" (13 : Nat) "com/example/updatable_views/updatableviews/SqlToken" "start" "I") := rfl
theorem w_91 : tables_1[91]? = some (Jvm.Cond.laysFinal "com/example/updatable_views/updatableviews/SqlToken" "com/example/updatable_views/updatableviews/SqlToken" "start" "I") := rfl
theorem w_92 : tables_1[92]? = some (Jvm.Cond.fieldLink "com/example/updatable_views/updatableviews/SqlToken" (17 : Nat) "com/example/updatable_views/updatableviews/SqlToken" "end" "I") := rfl
theorem w_93 : tables_1[93]? = some (Jvm.Cond.laysFinal "com/example/updatable_views/updatableviews/SqlToken" "com/example/updatable_views/updatableviews/SqlToken" "end" "I") := rfl
theorem w_94 : tables_1[94]? = some (Jvm.Cond.methodLink "com/example/updatable_views/updatableviews/SqlTokenIsKeywordPinLaw" (57 : Nat) ({ cls := "com/example/updatable_views/updatableviews/SqlToken", name := "isKeyword", desc := "(Ljava/lang/CharSequence;Ljava/lang/String;)Z" } : Jvm.MethodName)) := rfl
theorem w_95 : tables_1[95]? = some (Jvm.Cond.declares ({ cls := "com/example/updatable_views/updatableviews/SqlToken", name := "isKeyword", desc := "(Ljava/lang/CharSequence;Ljava/lang/String;)Z" } : Jvm.MethodName)) := rfl
theorem w_96 : tables_1[96]? = some (Jvm.Cond.instanceMethod ({ cls := "com/example/updatable_views/updatableviews/SqlToken", name := "isKeyword", desc := "(Ljava/lang/CharSequence;Ljava/lang/String;)Z" } : Jvm.MethodName)) := rfl
theorem w_97 : tables_1[97]? = some (Jvm.Cond.selects "com/example/updatable_views/updatableviews/SqlToken" ({ cls := "com/example/updatable_views/updatableviews/SqlToken", name := "isKeyword", desc := "(Ljava/lang/CharSequence;Ljava/lang/String;)Z" } : Jvm.MethodName) ({ cls := "com/example/updatable_views/updatableviews/SqlToken", name := "isKeyword", desc := "(Ljava/lang/CharSequence;Ljava/lang/String;)Z" } : Jvm.MethodName)) := rfl
theorem w_98 : tables_1[98]? = some (Jvm.Cond.code ({ cls := "com/example/updatable_views/updatableviews/SqlToken", name := "isKeyword", desc := "(Ljava/lang/CharSequence;Ljava/lang/String;)Z" } : Jvm.MethodName) prog_10_method_5_code (6 : Nat) (Option.some Jvm.ClassFile.FieldType.boolean)) := rfl
theorem w_99 : tables_1[99]? = some (Jvm.Cond.fieldLink "com/example/updatable_views/updatableviews/SqlToken" (20 : Nat) "com/example/updatable_views/updatableviews/SqlToken$Kind" "WORD" "Lcom/example/updatable_views/updatableviews/SqlToken$Kind;") := rfl
theorem w_100 : tables_1[100]? = some (Jvm.Cond.methodLink "com/example/updatable_views/updatableviews/SqlToken" (25 : Nat) ({ cls := "java/lang/String", name := "length", desc := "()I" } : Jvm.MethodName)) := rfl
theorem w_101 : tables_1[101]? = some (Jvm.Cond.declares ({ cls := "java/lang/String", name := "length", desc := "()I" } : Jvm.MethodName)) := rfl
theorem w_102 : tables_1[102]? = some (Jvm.Cond.instanceMethod ({ cls := "java/lang/String", name := "length", desc := "()I" } : Jvm.MethodName)) := rfl
theorem w_103 : tables_1[103]? = some (Jvm.Cond.selects "java/lang/String" ({ cls := "java/lang/String", name := "length", desc := "()I" } : Jvm.MethodName) ({ cls := "java/lang/String", name := "length", desc := "()I" } : Jvm.MethodName)) := rfl
theorem w_104 : tables_1[104]? = some (Jvm.Cond.code ({ cls := "java/lang/String", name := "length", desc := "()I" } : Jvm.MethodName) jdk_42_method_54_code (1 : Nat) (Option.some Jvm.ClassFile.FieldType.int)) := rfl
theorem w_105 : tables_1[105]? = some (Jvm.Cond.methodLink "java/lang/String" (335 : Nat) ({ cls := "java/lang/String", name := "coder", desc := "()B" } : Jvm.MethodName)) := rfl
theorem w_106 : tables_1[106]? = some (Jvm.Cond.declares ({ cls := "java/lang/String", name := "coder", desc := "()B" } : Jvm.MethodName)) := rfl
theorem w_107 : tables_1[107]? = some (Jvm.Cond.instanceMethod ({ cls := "java/lang/String", name := "coder", desc := "()B" } : Jvm.MethodName)) := rfl
theorem w_108 : tables_1[108]? = some (Jvm.Cond.selects "java/lang/String" ({ cls := "java/lang/String", name := "coder", desc := "()B" } : Jvm.MethodName) ({ cls := "java/lang/String", name := "coder", desc := "()B" } : Jvm.MethodName)) := rfl
theorem w_109 : tables_1[109]? = some (Jvm.Cond.code ({ cls := "java/lang/String", name := "coder", desc := "()B" } : Jvm.MethodName) jdk_42_method_152_code (1 : Nat) (Option.some Jvm.ClassFile.FieldType.byte)) := rfl
theorem w_110 : tables_1[110]? = some (Jvm.Cond.methodLink "com/example/updatable_views/updatableviews/SqlToken" (31 : Nat) ({ cls := "java/lang/CharSequence", name := "charAt", desc := "(I)C" } : Jvm.MethodName)) := rfl
theorem w_111 : tables_1[111]? = some (Jvm.Cond.declares ({ cls := "java/lang/CharSequence", name := "charAt", desc := "(I)C" } : Jvm.MethodName)) := rfl
theorem w_112 : tables_1[112]? = some (Jvm.Cond.interfaceMethod "java/lang/CharSequence" "java/lang/CharSequence" "charAt" "(I)C") := rfl
theorem w_113 : tables_1[113]? = some (Jvm.Cond.selects "java/lang/String" ({ cls := "java/lang/CharSequence", name := "charAt", desc := "(I)C" } : Jvm.MethodName) ({ cls := "java/lang/String", name := "charAt", desc := "(I)C" } : Jvm.MethodName)) := rfl
theorem w_114 : tables_1[114]? = some (Jvm.Cond.instanceMethod ({ cls := "java/lang/String", name := "charAt", desc := "(I)C" } : Jvm.MethodName)) := rfl
theorem w_115 : tables_1[115]? = some (Jvm.Cond.publicMethod ({ cls := "java/lang/String", name := "charAt", desc := "(I)C" } : Jvm.MethodName)) := rfl
theorem w_116 : tables_1[116]? = some (Jvm.Cond.unhidden "java/lang/String" "charAt" "(I)C") := rfl
theorem w_117 : tables_1[117]? = some (Jvm.Cond.castable "java/lang/String" "java/lang/CharSequence") := rfl
theorem w_118 : tables_1[118]? = some (Jvm.Cond.code ({ cls := "java/lang/String", name := "charAt", desc := "(I)C" } : Jvm.MethodName) jdk_42_method_56_code (2 : Nat) (Option.some Jvm.ClassFile.FieldType.char)) := rfl
theorem w_119 : tables_1[119]? = some (Jvm.Cond.methodLink "java/lang/String" (492 : Nat) ({ cls := "java/lang/String", name := "isLatin1", desc := "()Z" } : Jvm.MethodName)) := rfl
theorem w_120 : tables_1[120]? = some (Jvm.Cond.declares ({ cls := "java/lang/String", name := "isLatin1", desc := "()Z" } : Jvm.MethodName)) := rfl
theorem w_121 : tables_1[121]? = some (Jvm.Cond.instanceMethod ({ cls := "java/lang/String", name := "isLatin1", desc := "()Z" } : Jvm.MethodName)) := rfl
theorem w_122 : tables_1[122]? = some (Jvm.Cond.selects "java/lang/String" ({ cls := "java/lang/String", name := "isLatin1", desc := "()Z" } : Jvm.MethodName) ({ cls := "java/lang/String", name := "isLatin1", desc := "()Z" } : Jvm.MethodName)) := rfl
theorem w_123 : tables_1[123]? = some (Jvm.Cond.code ({ cls := "java/lang/String", name := "isLatin1", desc := "()Z" } : Jvm.MethodName) jdk_42_method_154_code (1 : Nat) (Option.some Jvm.ClassFile.FieldType.boolean)) := rfl
theorem w_124 : tables_1[124]? = some (Jvm.Cond.methodLink "java/lang/String" (495 : Nat) ({ cls := "java/lang/StringLatin1", name := "charAt", desc := "([BI)C" } : Jvm.MethodName)) := rfl
theorem w_125 : tables_1[125]? = some (Jvm.Cond.static ({ cls := "java/lang/StringLatin1", name := "charAt", desc := "([BI)C" } : Jvm.MethodName)) := rfl
theorem w_126 : tables_1[126]? = some (Jvm.Cond.initialized "java/lang/StringLatin1") := rfl
theorem w_127 : tables_1[127]? = some (Jvm.Cond.code ({ cls := "java/lang/StringLatin1", name := "charAt", desc := "([BI)C" } : Jvm.MethodName) jdk_43_method_2_code (2 : Nat) (Option.some Jvm.ClassFile.FieldType.char)) := rfl
theorem w_128 : tables_1[128]? = some (Jvm.Cond.methodLink "java/lang/StringLatin1" (9 : Nat) ({ cls := "java/lang/String", name := "checkIndex", desc := "(II)V" } : Jvm.MethodName)) := rfl
theorem w_129 : tables_1[129]? = some (Jvm.Cond.static ({ cls := "java/lang/String", name := "checkIndex", desc := "(II)V" } : Jvm.MethodName)) := rfl
theorem w_130 : tables_1[130]? = some (Jvm.Cond.code ({ cls := "java/lang/String", name := "checkIndex", desc := "(II)V" } : Jvm.MethodName) jdk_42_method_155_code (2 : Nat) (Option.none : Option Jvm.ClassFile.FieldType)) := rfl
theorem w_131 : tables_1[131]? = some (Jvm.Cond.fieldLink "java/lang/String" (1053 : Nat) "jdk/internal/util/Preconditions" "SIOOBE_FORMATTER" "Ljava/util/function/BiFunction;") := rfl
theorem w_132 : tables_1[132]? = some (Jvm.Cond.initialized "jdk/internal/util/Preconditions") := rfl
theorem w_133 : tables_1[133]? = some (Jvm.Cond.methodLink "java/lang/String" (1059 : Nat) ({ cls := "jdk/internal/util/Preconditions", name := "checkIndex", desc := "(IILjava/util/function/BiFunction;)I" } : Jvm.MethodName)) := rfl
theorem w_134 : tables_1[134]? = some (Jvm.Cond.static ({ cls := "jdk/internal/util/Preconditions", name := "checkIndex", desc := "(IILjava/util/function/BiFunction;)I" } : Jvm.MethodName)) := rfl
theorem w_135 : tables_1[135]? = some (Jvm.Cond.code ({ cls := "jdk/internal/util/Preconditions", name := "checkIndex", desc := "(IILjava/util/function/BiFunction;)I" } : Jvm.MethodName) jdk_41_method_11_code (3 : Nat) (Option.some Jvm.ClassFile.FieldType.int)) := rfl
theorem w_136 : tables_1[136]? = some (Jvm.Cond.methodLink "com/example/updatable_views/updatableviews/SqlToken" (37 : Nat) ({ cls := "java/lang/String", name := "charAt", desc := "(I)C" } : Jvm.MethodName)) := rfl
theorem w_137 : tables_1[137]? = some (Jvm.Cond.declares ({ cls := "java/lang/String", name := "charAt", desc := "(I)C" } : Jvm.MethodName)) := rfl
theorem w_138 : tables_1[138]? = some (Jvm.Cond.selects "java/lang/String" ({ cls := "java/lang/String", name := "charAt", desc := "(I)C" } : Jvm.MethodName) ({ cls := "java/lang/String", name := "charAt", desc := "(I)C" } : Jvm.MethodName)) := rfl
theorem w_139 : tables_1[139]? = some (Jvm.Cond.methodLink "com/example/updatable_views/updatableviews/SqlTokenIsKeywordPinLaw" (61 : Nat) ({ cls := "com/example/updatable_views/updatableviews/SqlTokenIsKeywordPinLaw", name := "same", desc := "(CC)Z" } : Jvm.MethodName)) := rfl
theorem w_140 : tables_1[140]? = some (Jvm.Cond.static ({ cls := "com/example/updatable_views/updatableviews/SqlTokenIsKeywordPinLaw", name := "same", desc := "(CC)Z" } : Jvm.MethodName)) := rfl
theorem w_141 : tables_1[141]? = some (Jvm.Cond.code ({ cls := "com/example/updatable_views/updatableviews/SqlTokenIsKeywordPinLaw", name := "same", desc := "(CC)Z" } : Jvm.MethodName) method_5_code (2 : Nat) (Option.some Jvm.ClassFile.FieldType.boolean)) := rfl
theorem w_142 : tables_1[142]? = some (Jvm.Cond.methodLink "java/lang/String" (498 : Nat) ({ cls := "java/lang/StringUTF16", name := "charAt", desc := "([BI)C" } : Jvm.MethodName)) := rfl
theorem w_143 : tables_1[143]? = some (Jvm.Cond.static ({ cls := "java/lang/StringUTF16", name := "charAt", desc := "([BI)C" } : Jvm.MethodName)) := rfl
theorem w_144 : tables_1[144]? = some (Jvm.Cond.code ({ cls := "java/lang/StringUTF16", name := "charAt", desc := "([BI)C" } : Jvm.MethodName) jdk_52_method_83_code (2 : Nat) (Option.some Jvm.ClassFile.FieldType.char)) := rfl
theorem w_145 : tables_1[145]? = some (Jvm.Cond.methodLink "java/lang/StringUTF16" (67 : Nat) ({ cls := "java/lang/StringUTF16", name := "checkIndex", desc := "(I[B)V" } : Jvm.MethodName)) := rfl
theorem w_146 : tables_1[146]? = some (Jvm.Cond.static ({ cls := "java/lang/StringUTF16", name := "checkIndex", desc := "(I[B)V" } : Jvm.MethodName)) := rfl
theorem w_147 : tables_1[147]? = some (Jvm.Cond.code ({ cls := "java/lang/StringUTF16", name := "checkIndex", desc := "(I[B)V" } : Jvm.MethodName) jdk_52_method_91_code (2 : Nat) (Option.none : Option Jvm.ClassFile.FieldType)) := rfl
theorem w_148 : tables_1[148]? = some (Jvm.Cond.methodLink "java/lang/StringUTF16" (48 : Nat) ({ cls := "java/lang/StringUTF16", name := "length", desc := "([B)I" } : Jvm.MethodName)) := rfl
theorem w_149 : tables_1[149]? = some (Jvm.Cond.static ({ cls := "java/lang/StringUTF16", name := "length", desc := "([B)I" } : Jvm.MethodName)) := rfl
theorem w_150 : tables_1[150]? = some (Jvm.Cond.code ({ cls := "java/lang/StringUTF16", name := "length", desc := "([B)I" } : Jvm.MethodName) jdk_52_method_6_code (1 : Nat) (Option.some Jvm.ClassFile.FieldType.int)) := rfl
theorem w_151 : tables_1[151]? = some (Jvm.Cond.methodLink "java/lang/StringUTF16" (414 : Nat) ({ cls := "java/lang/String", name := "checkIndex", desc := "(II)V" } : Jvm.MethodName)) := rfl
theorem d_jdk_41_11_0 : decode jdk_41_method_11_code 0 = .ok (.iload_n 0, 1) := by decide +kernel
theorem d_jdk_41_11_1 : decode jdk_41_method_11_code 1 = .ok (.ifCond .lt 8, 3) := by decide +kernel
theorem d_jdk_41_11_4 : decode jdk_41_method_11_code 4 = .ok (.iload_n 0, 1) := by decide +kernel
theorem d_jdk_41_11_5 : decode jdk_41_method_11_code 5 = .ok (.iload_n 1, 1) := by decide +kernel
theorem d_jdk_41_11_6 : decode jdk_41_method_11_code 6 = .ok (.if_icmp .lt 10, 3) := by decide +kernel
theorem d_jdk_41_11_16 : decode jdk_41_method_11_code 16 = .ok (.iload_n 0, 1) := by decide +kernel
theorem d_jdk_41_11_17 : decode jdk_41_method_11_code 17 = .ok (.ireturn, 1) := by decide +kernel
theorem d_jdk_42_149_0 : decode jdk_42_method_149_code 0 = .ok (.aload_n 0, 1) := by decide +kernel
theorem d_jdk_42_149_1 : decode jdk_42_method_149_code 1 = .ok (.invokespecial 1, 3) := by decide +kernel
theorem d_jdk_42_149_4 : decode jdk_42_method_149_code 4 = .ok (.iload_n 3, 1) := by decide +kernel
theorem d_jdk_42_149_5 : decode jdk_42_method_149_code 5 = .ok (.ifCond .ne 22, 3) := by decide +kernel
theorem d_jdk_42_149_8 : decode jdk_42_method_149_code 8 = .ok (.aload_n 0, 1) := by decide +kernel
theorem d_jdk_42_149_9 : decode jdk_42_method_149_code 9 = .ok (.ldc 7, 2) := by decide +kernel
theorem d_jdk_42_149_11 : decode jdk_42_method_149_code 11 = .ok (.getfield 9, 3) := by decide +kernel
theorem d_jdk_42_149_14 : decode jdk_42_method_149_code 14 = .ok (.putfield 9, 3) := by decide +kernel
theorem d_jdk_42_149_17 : decode jdk_42_method_149_code 17 = .ok (.aload_n 0, 1) := by decide +kernel
theorem d_jdk_42_149_18 : decode jdk_42_method_149_code 18 = .ok (.ldc 7, 2) := by decide +kernel
theorem d_jdk_42_149_20 : decode jdk_42_method_149_code 20 = .ok (.getfield 15, 3) := by decide +kernel
theorem d_jdk_42_149_23 : decode jdk_42_method_149_code 23 = .ok (.putfield 15, 3) := by decide +kernel
theorem d_jdk_42_149_26 : decode jdk_42_method_149_code 26 = .ok (.return_, 1) := by decide +kernel
theorem d_jdk_42_149_27 : decode jdk_42_method_149_code 27 = .ok (.getstatic 38, 3) := by decide +kernel
theorem d_jdk_42_149_30 : decode jdk_42_method_149_code 30 = .ok (.ifCond .eq 28, 3) := by decide +kernel
theorem d_jdk_42_149_33 : decode jdk_42_method_149_code 33 = .ok (.aload_n 1, 1) := by decide +kernel
theorem d_jdk_42_149_34 : decode jdk_42_method_149_code 34 = .ok (.iload_n 2, 1) := by decide +kernel
theorem d_jdk_42_149_35 : decode jdk_42_method_149_code 35 = .ok (.iload_n 3, 1) := by decide +kernel
theorem d_jdk_42_149_36 : decode jdk_42_method_149_code 36 = .ok (.invokestatic 177, 3) := by decide +kernel
theorem d_jdk_42_149_39 : decode jdk_42_method_149_code 39 = .ok (.astore 5, 2) := by decide +kernel
theorem d_jdk_42_149_41 : decode jdk_42_method_149_code 41 = .ok (.aload_n 0, 1) := by decide +kernel
theorem d_jdk_42_149_42 : decode jdk_42_method_149_code 42 = .ok (.aload 5, 2) := by decide +kernel
theorem d_jdk_42_149_44 : decode jdk_42_method_149_code 44 = .ok (.iload_n 3, 1) := by decide +kernel
theorem d_jdk_42_149_45 : decode jdk_42_method_149_code 45 = .ok (.invokestatic 47, 3) := by decide +kernel
theorem d_jdk_42_149_48 : decode jdk_42_method_149_code 48 = .ok (.putfield 15, 3) := by decide +kernel
theorem d_jdk_42_149_51 : decode jdk_42_method_149_code 51 = .ok (.aload_n 0, 1) := by decide +kernel
theorem d_jdk_42_149_52 : decode jdk_42_method_149_code 52 = .ok (.aload 5, 2) := by decide +kernel
theorem d_jdk_42_149_54 : decode jdk_42_method_149_code 54 = .ok (.putfield 9, 3) := by decide +kernel
theorem d_jdk_42_149_57 : decode jdk_42_method_149_code 57 = .ok (.return_, 1) := by decide +kernel
theorem d_jdk_42_152_0 : decode jdk_42_method_152_code 0 = .ok (.getstatic 38, 3) := by decide +kernel
theorem d_jdk_42_152_3 : decode jdk_42_method_152_code 3 = .ok (.ifCond .eq 10, 3) := by decide +kernel
theorem d_jdk_42_152_6 : decode jdk_42_method_152_code 6 = .ok (.aload_n 0, 1) := by decide +kernel
theorem d_jdk_42_152_7 : decode jdk_42_method_152_code 7 = .ok (.getfield 15, 3) := by decide +kernel
theorem d_jdk_42_152_10 : decode jdk_42_method_152_code 10 = .ok (.goto 4, 3) := by decide +kernel
theorem d_jdk_42_152_14 : decode jdk_42_method_152_code 14 = .ok (.ireturn, 1) := by decide +kernel
theorem d_jdk_42_154_0 : decode jdk_42_method_154_code 0 = .ok (.getstatic 38, 3) := by decide +kernel
theorem d_jdk_42_154_3 : decode jdk_42_method_154_code 3 = .ok (.ifCond .eq 14, 3) := by decide +kernel
theorem d_jdk_42_154_6 : decode jdk_42_method_154_code 6 = .ok (.aload_n 0, 1) := by decide +kernel
theorem d_jdk_42_154_7 : decode jdk_42_method_154_code 7 = .ok (.getfield 15, 3) := by decide +kernel
theorem d_jdk_42_154_10 : decode jdk_42_method_154_code 10 = .ok (.ifCond .ne 7, 3) := by decide +kernel
theorem d_jdk_42_154_13 : decode jdk_42_method_154_code 13 = .ok (.iconst 1, 1) := by decide +kernel
theorem d_jdk_42_154_14 : decode jdk_42_method_154_code 14 = .ok (.goto 4, 3) := by decide +kernel
theorem d_jdk_42_154_17 : decode jdk_42_method_154_code 17 = .ok (.iconst 0, 1) := by decide +kernel
theorem d_jdk_42_154_18 : decode jdk_42_method_154_code 18 = .ok (.ireturn, 1) := by decide +kernel
theorem d_jdk_42_155_0 : decode jdk_42_method_155_code 0 = .ok (.iload_n 0, 1) := by decide +kernel
theorem d_jdk_42_155_1 : decode jdk_42_method_155_code 1 = .ok (.iload_n 1, 1) := by decide +kernel
theorem d_jdk_42_155_2 : decode jdk_42_method_155_code 2 = .ok (.getstatic 1053, 3) := by decide +kernel
theorem d_jdk_42_155_5 : decode jdk_42_method_155_code 5 = .ok (.invokestatic 1059, 3) := by decide +kernel
theorem d_jdk_42_155_8 : decode jdk_42_method_155_code 8 = .ok (.pop, 1) := by decide +kernel
theorem d_jdk_42_155_9 : decode jdk_42_method_155_code 9 = .ok (.return_, 1) := by decide +kernel
theorem d_jdk_42_3_0 : decode jdk_42_method_3_code 0 = .ok (.aload_n 0, 1) := by decide +kernel
theorem d_jdk_42_3_1 : decode jdk_42_method_3_code 1 = .ok (.aload_n 1, 1) := by decide +kernel
theorem d_jdk_42_3_2 : decode jdk_42_method_3_code 2 = .ok (.iconst 0, 1) := by decide +kernel
theorem d_jdk_42_3_3 : decode jdk_42_method_3_code 3 = .ok (.aload_n 1, 1) := by decide +kernel
theorem d_jdk_42_3_4 : decode jdk_42_method_3_code 4 = .ok (.arraylength, 1) := by decide +kernel
theorem d_jdk_42_3_5 : decode jdk_42_method_3_code 5 = .ok (.aconst_null, 1) := by decide +kernel
theorem d_jdk_42_3_6 : decode jdk_42_method_3_code 6 = .ok (.invokespecial 27, 3) := by decide +kernel
theorem d_jdk_42_3_9 : decode jdk_42_method_3_code 9 = .ok (.return_, 1) := by decide +kernel
theorem d_jdk_42_54_0 : decode jdk_42_method_54_code 0 = .ok (.aload_n 0, 1) := by decide +kernel
theorem d_jdk_42_54_1 : decode jdk_42_method_54_code 1 = .ok (.getfield 9, 3) := by decide +kernel
theorem d_jdk_42_54_4 : decode jdk_42_method_54_code 4 = .ok (.arraylength, 1) := by decide +kernel
theorem d_jdk_42_54_5 : decode jdk_42_method_54_code 5 = .ok (.aload_n 0, 1) := by decide +kernel
theorem d_jdk_42_54_6 : decode jdk_42_method_54_code 6 = .ok (.invokevirtual 335, 3) := by decide +kernel
theorem d_jdk_42_54_9 : decode jdk_42_method_54_code 9 = .ok (.ishr, 1) := by decide +kernel
theorem d_jdk_42_54_10 : decode jdk_42_method_54_code 10 = .ok (.ireturn, 1) := by decide +kernel
theorem d_jdk_42_56_0 : decode jdk_42_method_56_code 0 = .ok (.aload_n 0, 1) := by decide +kernel
theorem d_jdk_42_56_1 : decode jdk_42_method_56_code 1 = .ok (.invokevirtual 492, 3) := by decide +kernel
theorem d_jdk_42_56_4 : decode jdk_42_method_56_code 4 = .ok (.ifCond .eq 12, 3) := by decide +kernel
theorem d_jdk_42_56_7 : decode jdk_42_method_56_code 7 = .ok (.aload_n 0, 1) := by decide +kernel
theorem d_jdk_42_56_8 : decode jdk_42_method_56_code 8 = .ok (.getfield 9, 3) := by decide +kernel
theorem d_jdk_42_56_11 : decode jdk_42_method_56_code 11 = .ok (.iload_n 1, 1) := by decide +kernel
theorem d_jdk_42_56_12 : decode jdk_42_method_56_code 12 = .ok (.invokestatic 495, 3) := by decide +kernel
theorem d_jdk_42_56_15 : decode jdk_42_method_56_code 15 = .ok (.ireturn, 1) := by decide +kernel
theorem d_jdk_42_56_16 : decode jdk_42_method_56_code 16 = .ok (.aload_n 0, 1) := by decide +kernel
theorem d_jdk_42_56_17 : decode jdk_42_method_56_code 17 = .ok (.getfield 9, 3) := by decide +kernel
theorem d_jdk_42_56_20 : decode jdk_42_method_56_code 20 = .ok (.iload_n 1, 1) := by decide +kernel
theorem d_jdk_42_56_21 : decode jdk_42_method_56_code 21 = .ok (.invokestatic 498, 3) := by decide +kernel
theorem d_jdk_42_56_24 : decode jdk_42_method_56_code 24 = .ok (.ireturn, 1) := by decide +kernel
theorem d_jdk_43_2_0 : decode jdk_43_method_2_code 0 = .ok (.iload_n 1, 1) := by decide +kernel
theorem d_jdk_43_2_1 : decode jdk_43_method_2_code 1 = .ok (.aload_n 0, 1) := by decide +kernel
theorem d_jdk_43_2_2 : decode jdk_43_method_2_code 2 = .ok (.arraylength, 1) := by decide +kernel
theorem d_jdk_43_2_3 : decode jdk_43_method_2_code 3 = .ok (.invokestatic 9, 3) := by decide +kernel
theorem d_jdk_43_2_6 : decode jdk_43_method_2_code 6 = .ok (.aload_n 0, 1) := by decide +kernel
theorem d_jdk_43_2_7 : decode jdk_43_method_2_code 7 = .ok (.iload_n 1, 1) := by decide +kernel
theorem d_jdk_43_2_8 : decode jdk_43_method_2_code 8 = .ok (.baload, 1) := by decide +kernel
theorem d_jdk_43_2_9 : decode jdk_43_method_2_code 9 = .ok (.sipush 255, 3) := by decide +kernel
theorem d_jdk_43_2_12 : decode jdk_43_method_2_code 12 = .ok (.iand, 1) := by decide +kernel
theorem d_jdk_43_2_13 : decode jdk_43_method_2_code 13 = .ok (.i2c, 1) := by decide +kernel
theorem d_jdk_43_2_14 : decode jdk_43_method_2_code 14 = .ok (.ireturn, 1) := by decide +kernel
theorem d_jdk_52_14_0 : decode jdk_52_method_14_code 0 = .ok (.iload_n 2, 1) := by decide +kernel
theorem d_jdk_52_14_1 : decode jdk_52_method_14_code 1 = .ok (.invokestatic 107, 3) := by decide +kernel
theorem d_jdk_52_14_4 : decode jdk_52_method_14_code 4 = .ok (.astore_n 3, 1) := by decide +kernel
theorem d_jdk_52_14_5 : decode jdk_52_method_14_code 5 = .ok (.iconst 0, 1) := by decide +kernel
theorem d_jdk_52_14_6 : decode jdk_52_method_14_code 6 = .ok (.istore 4, 2) := by decide +kernel
theorem d_jdk_52_14_8 : decode jdk_52_method_14_code 8 = .ok (.iload 4, 2) := by decide +kernel
theorem d_jdk_52_14_10 : decode jdk_52_method_14_code 10 = .ok (.iload_n 2, 1) := by decide +kernel
theorem d_jdk_52_14_11 : decode jdk_52_method_14_code 11 = .ok (.if_icmp .ge 21, 3) := by decide +kernel
theorem d_jdk_52_14_14 : decode jdk_52_method_14_code 14 = .ok (.aload_n 3, 1) := by decide +kernel
theorem d_jdk_52_14_15 : decode jdk_52_method_14_code 15 = .ok (.iload 4, 2) := by decide +kernel
theorem d_jdk_52_14_17 : decode jdk_52_method_14_code 17 = .ok (.aload_n 0, 1) := by decide +kernel
theorem d_jdk_52_14_18 : decode jdk_52_method_14_code 18 = .ok (.iload_n 1, 1) := by decide +kernel
theorem d_jdk_52_14_19 : decode jdk_52_method_14_code 19 = .ok (.caload, 1) := by decide +kernel
theorem d_jdk_52_14_20 : decode jdk_52_method_14_code 20 = .ok (.invokestatic 111, 3) := by decide +kernel
theorem d_jdk_52_14_23 : decode jdk_52_method_14_code 23 = .ok (.iinc 1 1, 3) := by decide +kernel
theorem d_jdk_52_14_26 : decode jdk_52_method_14_code 26 = .ok (.iinc 4 1, 3) := by decide +kernel
theorem d_jdk_52_14_29 : decode jdk_52_method_14_code 29 = .ok (.goto (-21), 3) := by decide +kernel
theorem d_jdk_52_14_32 : decode jdk_52_method_14_code 32 = .ok (.aload_n 3, 1) := by decide +kernel
theorem d_jdk_52_14_33 : decode jdk_52_method_14_code 33 = .ok (.areturn, 1) := by decide +kernel
theorem d_jdk_52_15_0 : decode jdk_52_method_15_code 0 = .ok (.iload_n 1, 1) := by decide +kernel
theorem d_jdk_52_15_1 : decode jdk_52_method_15_code 1 = .ok (.aload_n 0, 1) := by decide +kernel
theorem d_jdk_52_15_2 : decode jdk_52_method_15_code 2 = .ok (.arraylength, 1) := by decide +kernel
theorem d_jdk_52_15_3 : decode jdk_52_method_15_code 3 = .ok (.isub, 1) := by decide +kernel
theorem d_jdk_52_15_4 : decode jdk_52_method_15_code 4 = .ok (.bipush 31, 2) := by decide +kernel
theorem d_jdk_52_15_6 : decode jdk_52_method_15_code 6 = .ok (.iushr, 1) := by decide +kernel
theorem d_jdk_52_15_7 : decode jdk_52_method_15_code 7 = .ok (.i2b, 1) := by decide +kernel
theorem d_jdk_52_15_8 : decode jdk_52_method_15_code 8 = .ok (.ireturn, 1) := by decide +kernel
theorem d_jdk_52_16_0 : decode jdk_52_method_16_code 0 = .ok (.iload_n 2, 1) := by decide +kernel
theorem d_jdk_52_16_1 : decode jdk_52_method_16_code 1 = .ok (.newarray .byte, 2) := by decide +kernel
theorem d_jdk_52_16_3 : decode jdk_52_method_16_code 3 = .ok (.astore_n 3, 1) := by decide +kernel
theorem d_jdk_52_16_4 : decode jdk_52_method_16_code 4 = .ok (.aload_n 0, 1) := by decide +kernel
theorem d_jdk_52_16_5 : decode jdk_52_method_16_code 5 = .ok (.iload_n 1, 1) := by decide +kernel
theorem d_jdk_52_16_6 : decode jdk_52_method_16_code 6 = .ok (.aload_n 3, 1) := by decide +kernel
theorem d_jdk_52_16_7 : decode jdk_52_method_16_code 7 = .ok (.iconst 0, 1) := by decide +kernel
theorem d_jdk_52_16_8 : decode jdk_52_method_16_code 8 = .ok (.iload_n 2, 1) := by decide +kernel
theorem d_jdk_52_16_9 : decode jdk_52_method_16_code 9 = .ok (.invokestatic 115, 3) := by decide +kernel
theorem d_jdk_52_16_12 : decode jdk_52_method_16_code 12 = .ok (.istore 4, 2) := by decide +kernel
theorem d_jdk_52_16_14 : decode jdk_52_method_16_code 14 = .ok (.iload 4, 2) := by decide +kernel
theorem d_jdk_52_16_16 : decode jdk_52_method_16_code 16 = .ok (.iload_n 2, 1) := by decide +kernel
theorem d_jdk_52_16_17 : decode jdk_52_method_16_code 17 = .ok (.if_icmp .eq 40, 3) := by decide +kernel
theorem d_jdk_52_16_20 : decode jdk_52_method_16_code 20 = .ok (.aload_n 0, 1) := by decide +kernel
theorem d_jdk_52_16_21 : decode jdk_52_method_16_code 21 = .ok (.iload_n 1, 1) := by decide +kernel
theorem d_jdk_52_16_22 : decode jdk_52_method_16_code 22 = .ok (.iload_n 2, 1) := by decide +kernel
theorem d_jdk_52_16_23 : decode jdk_52_method_16_code 23 = .ok (.invokestatic 119, 3) := by decide +kernel
theorem d_jdk_52_16_26 : decode jdk_52_method_16_code 26 = .ok (.astore 5, 2) := by decide +kernel
theorem d_jdk_52_16_28 : decode jdk_52_method_16_code 28 = .ok (.aload 5, 2) := by decide +kernel
theorem d_jdk_52_16_30 : decode jdk_52_method_16_code 30 = .ok (.iload 4, 2) := by decide +kernel
theorem d_jdk_52_16_32 : decode jdk_52_method_16_code 32 = .ok (.invokestatic 71, 3) := by decide +kernel
theorem d_jdk_52_16_35 : decode jdk_52_method_16_code 35 = .ok (.sipush 255, 3) := by decide +kernel
theorem d_jdk_52_16_38 : decode jdk_52_method_16_code 38 = .ok (.if_icmp .gt 16, 3) := by decide +kernel
theorem d_jdk_52_16_54 : decode jdk_52_method_16_code 54 = .ok (.aload 5, 2) := by decide +kernel
theorem d_jdk_52_16_56 : decode jdk_52_method_16_code 56 = .ok (.areturn, 1) := by decide +kernel
theorem d_jdk_52_16_57 : decode jdk_52_method_16_code 57 = .ok (.aload_n 3, 1) := by decide +kernel
theorem d_jdk_52_16_58 : decode jdk_52_method_16_code 58 = .ok (.areturn, 1) := by decide +kernel
theorem d_jdk_52_21_0 : decode jdk_52_method_21_code 0 = .ok (.iconst 0, 1) := by decide +kernel
theorem d_jdk_52_21_1 : decode jdk_52_method_21_code 1 = .ok (.istore 5, 2) := by decide +kernel
theorem d_jdk_52_21_3 : decode jdk_52_method_21_code 3 = .ok (.iload 5, 2) := by decide +kernel
theorem d_jdk_52_21_5 : decode jdk_52_method_21_code 5 = .ok (.iload 4, 2) := by decide +kernel
theorem d_jdk_52_21_7 : decode jdk_52_method_21_code 7 = .ok (.if_icmp .ge 37, 3) := by decide +kernel
theorem d_jdk_52_21_10 : decode jdk_52_method_21_code 10 = .ok (.aload_n 0, 1) := by decide +kernel
theorem d_jdk_52_21_11 : decode jdk_52_method_21_code 11 = .ok (.iload_n 1, 1) := by decide +kernel
theorem d_jdk_52_21_12 : decode jdk_52_method_21_code 12 = .ok (.caload, 1) := by decide +kernel
theorem d_jdk_52_21_13 : decode jdk_52_method_21_code 13 = .ok (.istore 6, 2) := by decide +kernel
theorem d_jdk_52_21_15 : decode jdk_52_method_21_code 15 = .ok (.iload 6, 2) := by decide +kernel
theorem d_jdk_52_21_17 : decode jdk_52_method_21_code 17 = .ok (.sipush 255, 3) := by decide +kernel
theorem d_jdk_52_21_20 : decode jdk_52_method_21_code 20 = .ok (.if_icmp .le 6, 3) := by decide +kernel
theorem d_jdk_52_21_23 : decode jdk_52_method_21_code 23 = .ok (.iload 5, 2) := by decide +kernel
theorem d_jdk_52_21_25 : decode jdk_52_method_21_code 25 = .ok (.ireturn, 1) := by decide +kernel
theorem d_jdk_52_21_26 : decode jdk_52_method_21_code 26 = .ok (.aload_n 2, 1) := by decide +kernel
theorem d_jdk_52_21_27 : decode jdk_52_method_21_code 27 = .ok (.iload_n 3, 1) := by decide +kernel
theorem d_jdk_52_21_28 : decode jdk_52_method_21_code 28 = .ok (.iload 6, 2) := by decide +kernel
theorem d_jdk_52_21_30 : decode jdk_52_method_21_code 30 = .ok (.i2b, 1) := by decide +kernel
theorem d_jdk_52_21_31 : decode jdk_52_method_21_code 31 = .ok (.bastore, 1) := by decide +kernel
theorem d_jdk_52_21_32 : decode jdk_52_method_21_code 32 = .ok (.iinc 1 1, 3) := by decide +kernel
theorem d_jdk_52_21_35 : decode jdk_52_method_21_code 35 = .ok (.iinc 3 1, 3) := by decide +kernel
theorem d_jdk_52_21_38 : decode jdk_52_method_21_code 38 = .ok (.iinc 5 1, 3) := by decide +kernel
theorem d_jdk_52_21_41 : decode jdk_52_method_21_code 41 = .ok (.goto (-38), 3) := by decide +kernel
theorem d_jdk_52_21_44 : decode jdk_52_method_21_code 44 = .ok (.iload 4, 2) := by decide +kernel
theorem d_jdk_52_21_46 : decode jdk_52_method_21_code 46 = .ok (.ireturn, 1) := by decide +kernel
theorem d_jdk_52_2_0 : decode jdk_52_method_2_code 0 = .ok (.iload_n 0, 1) := by decide +kernel
theorem d_jdk_52_2_1 : decode jdk_52_method_2_code 1 = .ok (.invokestatic 11, 3) := by decide +kernel
theorem d_jdk_52_2_4 : decode jdk_52_method_2_code 4 = .ok (.newarray .byte, 2) := by decide +kernel
theorem d_jdk_52_2_6 : decode jdk_52_method_2_code 6 = .ok (.areturn, 1) := by decide +kernel
theorem d_jdk_52_3_0 : decode jdk_52_method_3_code 0 = .ok (.iload_n 0, 1) := by decide +kernel
theorem d_jdk_52_3_1 : decode jdk_52_method_3_code 1 = .ok (.ifCond .ge 11, 3) := by decide +kernel
theorem d_jdk_52_3_12 : decode jdk_52_method_3_code 12 = .ok (.iload_n 0, 1) := by decide +kernel
theorem d_jdk_52_3_13 : decode jdk_52_method_3_code 13 = .ok (.ldc 20, 2) := by decide +kernel
theorem d_jdk_52_3_15 : decode jdk_52_method_3_code 15 = .ok (.if_icmp .lt 40, 3) := by decide +kernel
theorem d_jdk_52_3_55 : decode jdk_52_method_3_code 55 = .ok (.iload_n 0, 1) := by decide +kernel
theorem d_jdk_52_3_56 : decode jdk_52_method_3_code 56 = .ok (.iconst 1, 1) := by decide +kernel
theorem d_jdk_52_3_57 : decode jdk_52_method_3_code 57 = .ok (.ishl, 1) := by decide +kernel
theorem d_jdk_52_3_58 : decode jdk_52_method_3_code 58 = .ok (.ireturn, 1) := by decide +kernel
theorem d_jdk_52_4_0 : decode jdk_52_method_4_code 0 = .ok (.getstatic 44, 3) := by decide +kernel
theorem d_jdk_52_4_3 : decode jdk_52_method_4_code 3 = .ok (.ifCond .ne 25, 3) := by decide +kernel
theorem d_jdk_52_4_28 : decode jdk_52_method_4_code 28 = .ok (.iload_n 1, 1) := by decide +kernel
theorem d_jdk_52_4_29 : decode jdk_52_method_4_code 29 = .ok (.iconst 1, 1) := by decide +kernel
theorem d_jdk_52_4_30 : decode jdk_52_method_4_code 30 = .ok (.ishl, 1) := by decide +kernel
theorem d_jdk_52_4_31 : decode jdk_52_method_4_code 31 = .ok (.istore_n 1, 1) := by decide +kernel
theorem d_jdk_52_4_32 : decode jdk_52_method_4_code 32 = .ok (.aload_n 0, 1) := by decide +kernel
theorem d_jdk_52_4_33 : decode jdk_52_method_4_code 33 = .ok (.iload_n 1, 1) := by decide +kernel
theorem d_jdk_52_4_34 : decode jdk_52_method_4_code 34 = .ok (.iinc 1 1, 3) := by decide +kernel
theorem d_jdk_52_4_37 : decode jdk_52_method_4_code 37 = .ok (.iload_n 2, 1) := by decide +kernel
theorem d_jdk_52_4_38 : decode jdk_52_method_4_code 38 = .ok (.getstatic 59, 3) := by decide +kernel
theorem d_jdk_52_4_41 : decode jdk_52_method_4_code 41 = .ok (.ishr, 1) := by decide +kernel
theorem d_jdk_52_4_42 : decode jdk_52_method_4_code 42 = .ok (.i2b, 1) := by decide +kernel
theorem d_jdk_52_4_43 : decode jdk_52_method_4_code 43 = .ok (.bastore, 1) := by decide +kernel
theorem d_jdk_52_4_44 : decode jdk_52_method_4_code 44 = .ok (.aload_n 0, 1) := by decide +kernel
theorem d_jdk_52_4_45 : decode jdk_52_method_4_code 45 = .ok (.iload_n 1, 1) := by decide +kernel
theorem d_jdk_52_4_46 : decode jdk_52_method_4_code 46 = .ok (.iload_n 2, 1) := by decide +kernel
theorem d_jdk_52_4_47 : decode jdk_52_method_4_code 47 = .ok (.getstatic 63, 3) := by decide +kernel
theorem d_jdk_52_4_50 : decode jdk_52_method_4_code 50 = .ok (.ishr, 1) := by decide +kernel
theorem d_jdk_52_4_51 : decode jdk_52_method_4_code 51 = .ok (.i2b, 1) := by decide +kernel
theorem d_jdk_52_4_52 : decode jdk_52_method_4_code 52 = .ok (.bastore, 1) := by decide +kernel
theorem d_jdk_52_4_53 : decode jdk_52_method_4_code 53 = .ok (.return_, 1) := by decide +kernel
theorem d_jdk_52_5_0 : decode jdk_52_method_5_code 0 = .ok (.getstatic 44, 3) := by decide +kernel
theorem d_jdk_52_5_3 : decode jdk_52_method_5_code 3 = .ok (.ifCond .ne 25, 3) := by decide +kernel
theorem d_jdk_52_5_28 : decode jdk_52_method_5_code 28 = .ok (.iload_n 1, 1) := by decide +kernel
theorem d_jdk_52_5_29 : decode jdk_52_method_5_code 29 = .ok (.iconst 1, 1) := by decide +kernel
theorem d_jdk_52_5_30 : decode jdk_52_method_5_code 30 = .ok (.ishl, 1) := by decide +kernel
theorem d_jdk_52_5_31 : decode jdk_52_method_5_code 31 = .ok (.istore_n 1, 1) := by decide +kernel
theorem d_jdk_52_5_32 : decode jdk_52_method_5_code 32 = .ok (.aload_n 0, 1) := by decide +kernel
theorem d_jdk_52_5_33 : decode jdk_52_method_5_code 33 = .ok (.iload_n 1, 1) := by decide +kernel
theorem d_jdk_52_5_34 : decode jdk_52_method_5_code 34 = .ok (.iinc 1 1, 3) := by decide +kernel
theorem d_jdk_52_5_37 : decode jdk_52_method_5_code 37 = .ok (.baload, 1) := by decide +kernel
theorem d_jdk_52_5_38 : decode jdk_52_method_5_code 38 = .ok (.sipush 255, 3) := by decide +kernel
theorem d_jdk_52_5_41 : decode jdk_52_method_5_code 41 = .ok (.iand, 1) := by decide +kernel
theorem d_jdk_52_5_42 : decode jdk_52_method_5_code 42 = .ok (.getstatic 59, 3) := by decide +kernel
theorem d_jdk_52_5_45 : decode jdk_52_method_5_code 45 = .ok (.ishl, 1) := by decide +kernel
theorem d_jdk_52_5_46 : decode jdk_52_method_5_code 46 = .ok (.aload_n 0, 1) := by decide +kernel
theorem d_jdk_52_5_47 : decode jdk_52_method_5_code 47 = .ok (.iload_n 1, 1) := by decide +kernel
theorem d_jdk_52_5_48 : decode jdk_52_method_5_code 48 = .ok (.baload, 1) := by decide +kernel
theorem d_jdk_52_5_49 : decode jdk_52_method_5_code 49 = .ok (.sipush 255, 3) := by decide +kernel
theorem d_jdk_52_5_52 : decode jdk_52_method_5_code 52 = .ok (.iand, 1) := by decide +kernel
theorem d_jdk_52_5_53 : decode jdk_52_method_5_code 53 = .ok (.getstatic 63, 3) := by decide +kernel
theorem d_jdk_52_5_56 : decode jdk_52_method_5_code 56 = .ok (.ishl, 1) := by decide +kernel
theorem d_jdk_52_5_57 : decode jdk_52_method_5_code 57 = .ok (.ior, 1) := by decide +kernel
theorem d_jdk_52_5_58 : decode jdk_52_method_5_code 58 = .ok (.i2c, 1) := by decide +kernel
theorem d_jdk_52_5_59 : decode jdk_52_method_5_code 59 = .ok (.ireturn, 1) := by decide +kernel
theorem d_jdk_52_6_0 : decode jdk_52_method_6_code 0 = .ok (.aload_n 0, 1) := by decide +kernel
theorem d_jdk_52_6_1 : decode jdk_52_method_6_code 1 = .ok (.arraylength, 1) := by decide +kernel
theorem d_jdk_52_6_2 : decode jdk_52_method_6_code 2 = .ok (.iconst 1, 1) := by decide +kernel
theorem d_jdk_52_6_3 : decode jdk_52_method_6_code 3 = .ok (.ishr, 1) := by decide +kernel
theorem d_jdk_52_6_4 : decode jdk_52_method_6_code 4 = .ok (.ireturn, 1) := by decide +kernel
theorem d_jdk_52_83_0 : decode jdk_52_method_83_code 0 = .ok (.iload_n 1, 1) := by decide +kernel
theorem d_jdk_52_83_1 : decode jdk_52_method_83_code 1 = .ok (.aload_n 0, 1) := by decide +kernel
theorem d_jdk_52_83_2 : decode jdk_52_method_83_code 2 = .ok (.invokestatic 67, 3) := by decide +kernel
theorem d_jdk_52_83_5 : decode jdk_52_method_83_code 5 = .ok (.aload_n 0, 1) := by decide +kernel
theorem d_jdk_52_83_6 : decode jdk_52_method_83_code 6 = .ok (.iload_n 1, 1) := by decide +kernel
theorem d_jdk_52_83_7 : decode jdk_52_method_83_code 7 = .ok (.invokestatic 71, 3) := by decide +kernel
theorem d_jdk_52_83_10 : decode jdk_52_method_83_code 10 = .ok (.ireturn, 1) := by decide +kernel
theorem d_jdk_52_91_0 : decode jdk_52_method_91_code 0 = .ok (.iload_n 0, 1) := by decide +kernel
theorem d_jdk_52_91_1 : decode jdk_52_method_91_code 1 = .ok (.aload_n 1, 1) := by decide +kernel
theorem d_jdk_52_91_2 : decode jdk_52_method_91_code 2 = .ok (.invokestatic 48, 3) := by decide +kernel
theorem d_jdk_52_91_5 : decode jdk_52_method_91_code 5 = .ok (.invokestatic 414, 3) := by decide +kernel
theorem d_jdk_52_91_8 : decode jdk_52_method_91_code 8 = .ok (.return_, 1) := by decide +kernel
theorem d_method_3_0 : decode method_3_code 0 = .ok (.iload_n 0, 1) := by decide +kernel
theorem d_method_3_1 : decode method_3_code 1 = .ok (.bipush 97, 2) := by decide +kernel
theorem d_method_3_3 : decode method_3_code 3 = .ok (.if_icmp .lt 17, 3) := by decide +kernel
theorem d_method_3_6 : decode method_3_code 6 = .ok (.iload_n 0, 1) := by decide +kernel
theorem d_method_3_7 : decode method_3_code 7 = .ok (.bipush 122, 2) := by decide +kernel
theorem d_method_3_9 : decode method_3_code 9 = .ok (.if_icmp .gt 11, 3) := by decide +kernel
theorem d_method_3_12 : decode method_3_code 12 = .ok (.iload_n 0, 1) := by decide +kernel
theorem d_method_3_13 : decode method_3_code 13 = .ok (.bipush 32, 2) := by decide +kernel
theorem d_method_3_15 : decode method_3_code 15 = .ok (.isub, 1) := by decide +kernel
theorem d_method_3_16 : decode method_3_code 16 = .ok (.i2c, 1) := by decide +kernel
theorem d_method_3_17 : decode method_3_code 17 = .ok (.goto 4, 3) := by decide +kernel
theorem d_method_3_20 : decode method_3_code 20 = .ok (.iload_n 0, 1) := by decide +kernel
theorem d_method_3_21 : decode method_3_code 21 = .ok (.ireturn, 1) := by decide +kernel
theorem d_method_4_0 : decode method_4_code 0 = .ok (.iload_n 2, 1) := by decide +kernel
theorem d_method_4_1 : decode method_4_code 1 = .ok (.ifCond .ne 5, 3) := by decide +kernel
theorem d_method_4_4 : decode method_4_code 4 = .ok (.iload_n 1, 1) := by decide +kernel
theorem d_method_4_5 : decode method_4_code 5 = .ok (.ireturn, 1) := by decide +kernel
theorem d_method_4_6 : decode method_4_code 6 = .ok (.iload_n 2, 1) := by decide +kernel
theorem d_method_4_7 : decode method_4_code 7 = .ok (.iconst 1, 1) := by decide +kernel
theorem d_method_4_8 : decode method_4_code 8 = .ok (.if_icmp .ne 25, 3) := by decide +kernel
theorem d_method_4_11 : decode method_4_code 11 = .ok (.iload_n 1, 1) := by decide +kernel
theorem d_method_4_12 : decode method_4_code 12 = .ok (.bipush 65, 2) := by decide +kernel
theorem d_method_4_14 : decode method_4_code 14 = .ok (.if_icmp .lt 17, 3) := by decide +kernel
theorem d_method_4_17 : decode method_4_code 17 = .ok (.iload_n 1, 1) := by decide +kernel
theorem d_method_4_18 : decode method_4_code 18 = .ok (.bipush 90, 2) := by decide +kernel
theorem d_method_4_20 : decode method_4_code 20 = .ok (.if_icmp .gt 11, 3) := by decide +kernel
theorem d_method_4_23 : decode method_4_code 23 = .ok (.iload_n 1, 1) := by decide +kernel
theorem d_method_4_24 : decode method_4_code 24 = .ok (.bipush 32, 2) := by decide +kernel
theorem d_method_4_26 : decode method_4_code 26 = .ok (.iadd, 1) := by decide +kernel
theorem d_method_4_27 : decode method_4_code 27 = .ok (.i2c, 1) := by decide +kernel
theorem d_method_4_28 : decode method_4_code 28 = .ok (.goto 4, 3) := by decide +kernel
theorem d_method_4_31 : decode method_4_code 31 = .ok (.iload_n 1, 1) := by decide +kernel
theorem d_method_4_32 : decode method_4_code 32 = .ok (.ireturn, 1) := by decide +kernel
theorem d_method_4_33 : decode method_4_code 33 = .ok (.iload_n 0, 1) := by decide +kernel
theorem d_method_4_34 : decode method_4_code 34 = .ok (.ireturn, 1) := by decide +kernel
theorem d_method_5_0 : decode method_5_code 0 = .ok (.iload_n 0, 1) := by decide +kernel
theorem d_method_5_1 : decode method_5_code 1 = .ok (.iload_n 1, 1) := by decide +kernel
theorem d_method_5_2 : decode method_5_code 2 = .ok (.if_icmp .eq 23, 3) := by decide +kernel
theorem d_method_5_5 : decode method_5_code 5 = .ok (.iload_n 1, 1) := by decide +kernel
theorem d_method_5_6 : decode method_5_code 6 = .ok (.bipush 65, 2) := by decide +kernel
theorem d_method_5_8 : decode method_5_code 8 = .ok (.if_icmp .lt 21, 3) := by decide +kernel
theorem d_method_5_11 : decode method_5_code 11 = .ok (.iload_n 1, 1) := by decide +kernel
theorem d_method_5_12 : decode method_5_code 12 = .ok (.bipush 90, 2) := by decide +kernel
theorem d_method_5_14 : decode method_5_code 14 = .ok (.if_icmp .gt 15, 3) := by decide +kernel
theorem d_method_5_17 : decode method_5_code 17 = .ok (.iload_n 0, 1) := by decide +kernel
theorem d_method_5_18 : decode method_5_code 18 = .ok (.iload_n 1, 1) := by decide +kernel
theorem d_method_5_19 : decode method_5_code 19 = .ok (.bipush 32, 2) := by decide +kernel
theorem d_method_5_21 : decode method_5_code 21 = .ok (.iadd, 1) := by decide +kernel
theorem d_method_5_22 : decode method_5_code 22 = .ok (.if_icmp .ne 7, 3) := by decide +kernel
theorem d_method_5_25 : decode method_5_code 25 = .ok (.iconst 1, 1) := by decide +kernel
theorem d_method_5_26 : decode method_5_code 26 = .ok (.goto 4, 3) := by decide +kernel
theorem d_method_5_29 : decode method_5_code 29 = .ok (.iconst 0, 1) := by decide +kernel
theorem d_method_5_30 : decode method_5_code 30 = .ok (.ireturn, 1) := by decide +kernel
theorem d_prog_10_1_0 : decode prog_10_method_1_code 0 = .ok (.aload_n 0, 1) := by decide +kernel
theorem d_prog_10_1_1 : decode prog_10_method_1_code 1 = .ok (.invokespecial 1, 3) := by decide +kernel
theorem d_prog_10_1_4 : decode prog_10_method_1_code 4 = .ok (.aload_n 0, 1) := by decide +kernel
theorem d_prog_10_1_5 : decode prog_10_method_1_code 5 = .ok (.aload_n 1, 1) := by decide +kernel
theorem d_prog_10_1_6 : decode prog_10_method_1_code 6 = .ok (.putfield 7, 3) := by decide +kernel
theorem d_prog_10_1_9 : decode prog_10_method_1_code 9 = .ok (.aload_n 0, 1) := by decide +kernel
theorem d_prog_10_1_10 : decode prog_10_method_1_code 10 = .ok (.iload_n 2, 1) := by decide +kernel
theorem d_prog_10_1_11 : decode prog_10_method_1_code 11 = .ok (.putfield 13, 3) := by decide +kernel
theorem d_prog_10_1_14 : decode prog_10_method_1_code 14 = .ok (.aload_n 0, 1) := by decide +kernel
theorem d_prog_10_1_15 : decode prog_10_method_1_code 15 = .ok (.iload_n 3, 1) := by decide +kernel
theorem d_prog_10_1_16 : decode prog_10_method_1_code 16 = .ok (.putfield 17, 3) := by decide +kernel
theorem d_prog_10_1_19 : decode prog_10_method_1_code 19 = .ok (.return_, 1) := by decide +kernel
theorem d_prog_10_5_0 : decode prog_10_method_5_code 0 = .ok (.aload_n 0, 1) := by decide +kernel
theorem d_prog_10_5_1 : decode prog_10_method_5_code 1 = .ok (.getfield 7, 3) := by decide +kernel
theorem d_prog_10_5_4 : decode prog_10_method_5_code 4 = .ok (.getstatic 20, 3) := by decide +kernel
theorem d_prog_10_5_7 : decode prog_10_method_5_code 7 = .ok (.if_acmp .ne 19, 3) := by decide +kernel
theorem d_prog_10_5_10 : decode prog_10_method_5_code 10 = .ok (.aload_n 0, 1) := by decide +kernel
theorem d_prog_10_5_11 : decode prog_10_method_5_code 11 = .ok (.getfield 17, 3) := by decide +kernel
theorem d_prog_10_5_14 : decode prog_10_method_5_code 14 = .ok (.aload_n 0, 1) := by decide +kernel
theorem d_prog_10_5_15 : decode prog_10_method_5_code 15 = .ok (.getfield 13, 3) := by decide +kernel
theorem d_prog_10_5_18 : decode prog_10_method_5_code 18 = .ok (.isub, 1) := by decide +kernel
theorem d_prog_10_5_19 : decode prog_10_method_5_code 19 = .ok (.aload_n 2, 1) := by decide +kernel
theorem d_prog_10_5_20 : decode prog_10_method_5_code 20 = .ok (.invokevirtual 25, 3) := by decide +kernel
theorem d_prog_10_5_23 : decode prog_10_method_5_code 23 = .ok (.if_icmp .eq 5, 3) := by decide +kernel
theorem d_prog_10_5_26 : decode prog_10_method_5_code 26 = .ok (.iconst 0, 1) := by decide +kernel
theorem d_prog_10_5_27 : decode prog_10_method_5_code 27 = .ok (.ireturn, 1) := by decide +kernel
theorem d_prog_10_5_28 : decode prog_10_method_5_code 28 = .ok (.iconst 0, 1) := by decide +kernel
theorem d_prog_10_5_29 : decode prog_10_method_5_code 29 = .ok (.istore_n 3, 1) := by decide +kernel
theorem d_prog_10_5_30 : decode prog_10_method_5_code 30 = .ok (.iload_n 3, 1) := by decide +kernel
theorem d_prog_10_5_31 : decode prog_10_method_5_code 31 = .ok (.aload_n 2, 1) := by decide +kernel
theorem d_prog_10_5_32 : decode prog_10_method_5_code 32 = .ok (.invokevirtual 25, 3) := by decide +kernel
theorem d_prog_10_5_35 : decode prog_10_method_5_code 35 = .ok (.if_icmp .ge 65, 3) := by decide +kernel
theorem d_prog_10_5_38 : decode prog_10_method_5_code 38 = .ok (.aload_n 1, 1) := by decide +kernel
theorem d_prog_10_5_39 : decode prog_10_method_5_code 39 = .ok (.aload_n 0, 1) := by decide +kernel
theorem d_prog_10_5_40 : decode prog_10_method_5_code 40 = .ok (.getfield 13, 3) := by decide +kernel
theorem d_prog_10_5_43 : decode prog_10_method_5_code 43 = .ok (.iload_n 3, 1) := by decide +kernel
theorem d_prog_10_5_44 : decode prog_10_method_5_code 44 = .ok (.iadd, 1) := by decide +kernel
theorem d_prog_10_5_45 : decode prog_10_method_5_code 45 = .ok (.invokeinterface 31 2, 5) := by decide +kernel
theorem d_prog_10_5_50 : decode prog_10_method_5_code 50 = .ok (.istore 4, 2) := by decide +kernel
theorem d_prog_10_5_52 : decode prog_10_method_5_code 52 = .ok (.iload 4, 2) := by decide +kernel
theorem d_prog_10_5_54 : decode prog_10_method_5_code 54 = .ok (.bipush 97, 2) := by decide +kernel
theorem d_prog_10_5_56 : decode prog_10_method_5_code 56 = .ok (.if_icmp .lt 22, 3) := by decide +kernel
theorem d_prog_10_5_59 : decode prog_10_method_5_code 59 = .ok (.iload 4, 2) := by decide +kernel
theorem d_prog_10_5_61 : decode prog_10_method_5_code 61 = .ok (.bipush 122, 2) := by decide +kernel
theorem d_prog_10_5_63 : decode prog_10_method_5_code 63 = .ok (.if_icmp .gt 15, 3) := by decide +kernel
theorem d_prog_10_5_66 : decode prog_10_method_5_code 66 = .ok (.iload 4, 2) := by decide +kernel
theorem d_prog_10_5_68 : decode prog_10_method_5_code 68 = .ok (.bipush 97, 2) := by decide +kernel
theorem d_prog_10_5_70 : decode prog_10_method_5_code 70 = .ok (.isub, 1) := by decide +kernel
theorem d_prog_10_5_71 : decode prog_10_method_5_code 71 = .ok (.bipush 65, 2) := by decide +kernel
theorem d_prog_10_5_73 : decode prog_10_method_5_code 73 = .ok (.iadd, 1) := by decide +kernel
theorem d_prog_10_5_74 : decode prog_10_method_5_code 74 = .ok (.i2c, 1) := by decide +kernel
theorem d_prog_10_5_75 : decode prog_10_method_5_code 75 = .ok (.goto 5, 3) := by decide +kernel
theorem d_prog_10_5_78 : decode prog_10_method_5_code 78 = .ok (.iload 4, 2) := by decide +kernel
theorem d_prog_10_5_80 : decode prog_10_method_5_code 80 = .ok (.istore 5, 2) := by decide +kernel
theorem d_prog_10_5_82 : decode prog_10_method_5_code 82 = .ok (.iload 5, 2) := by decide +kernel
theorem d_prog_10_5_84 : decode prog_10_method_5_code 84 = .ok (.aload_n 2, 1) := by decide +kernel
theorem d_prog_10_5_85 : decode prog_10_method_5_code 85 = .ok (.iload_n 3, 1) := by decide +kernel
theorem d_prog_10_5_86 : decode prog_10_method_5_code 86 = .ok (.invokevirtual 37, 3) := by decide +kernel
theorem d_prog_10_5_89 : decode prog_10_method_5_code 89 = .ok (.if_icmp .eq 5, 3) := by decide +kernel
theorem d_prog_10_5_92 : decode prog_10_method_5_code 92 = .ok (.iconst 0, 1) := by decide +kernel
theorem d_prog_10_5_93 : decode prog_10_method_5_code 93 = .ok (.ireturn, 1) := by decide +kernel
theorem d_prog_10_5_94 : decode prog_10_method_5_code 94 = .ok (.iinc 3 1, 3) := by decide +kernel
theorem d_prog_10_5_97 : decode prog_10_method_5_code 97 = .ok (.goto (-67), 3) := by decide +kernel
theorem d_prog_10_5_100 : decode prog_10_method_5_code 100 = .ok (.iconst 1, 1) := by decide +kernel
theorem d_prog_10_5_101 : decode prog_10_method_5_code 101 = .ok (.ireturn, 1) := by decide +kernel
theorem pd_0 : parseMethodDescriptor "(I)I" = some ⟨[.int], some .int⟩ := by decide +kernel
theorem pd_1 : parseMethodDescriptor "(I)[B" = some ⟨[.int], some (.array .byte)⟩ := by decide +kernel
theorem pd_2 : parseMethodDescriptor "([BII)V" = some ⟨[(.array .byte), .int, .int], none⟩ := by decide +kernel
theorem pd_3 : parseMethodDescriptor "([CI[BII)I" = some ⟨[(.array .char), .int, (.array .byte), .int, .int], some .int⟩ := by decide +kernel
theorem pd_4 : parseMethodDescriptor "([CII)[B" = some ⟨[(.array .char), .int, .int], some (.array .byte)⟩ := by decide +kernel
theorem pd_5 : parseMethodDescriptor "([BI)C" = some ⟨[(.array .byte), .int], some .char⟩ := by decide +kernel
theorem pd_6 : parseMethodDescriptor "([BI)B" = some ⟨[(.array .byte), .int], some .byte⟩ := by decide +kernel
theorem pd_7 : parseMethodDescriptor "([CIILjava/lang/Void;)V" = some ⟨[(.array .char), .int, .int, (.object "java/lang/Void")], none⟩ := by decide +kernel
theorem pd_8 : parseMethodDescriptor "()B" = some ⟨[], some .byte⟩ := by decide +kernel
theorem pd_9 : parseMethodDescriptor "(IILjava/util/function/BiFunction;)I" = some ⟨[.int, .int, (.object "java/util/function/BiFunction")], some .int⟩ := by decide +kernel
theorem pd_10 : parseMethodDescriptor "(II)V" = some ⟨[.int, .int], none⟩ := by decide +kernel
theorem pd_11 : parseMethodDescriptor "([B)I" = some ⟨[(.array .byte)], some .int⟩ := by decide +kernel
theorem pd_12 : parseMethodDescriptor "(I[B)V" = some ⟨[.int, (.array .byte)], none⟩ := by decide +kernel
theorem pd_13 : parseMethodDescriptor "()Z" = some ⟨[], some .boolean⟩ := by decide +kernel
theorem pd_14 : parseMethodDescriptor "()I" = some ⟨[], some .int⟩ := by decide +kernel
theorem pd_15 : parseMethodDescriptor "(I)C" = some ⟨[.int], some .char⟩ := by decide +kernel
theorem pd_16 : parseMethodDescriptor "(C)C" = some ⟨[.char], some .char⟩ := by decide +kernel
theorem pd_17 : parseMethodDescriptor "(CCI)C" = some ⟨[.char, .char, .int], some .char⟩ := by decide +kernel
theorem pd_18 : parseMethodDescriptor "([C)V" = some ⟨[(.array .char)], none⟩ := by decide +kernel
theorem pd_19 : parseMethodDescriptor "(Lcom/example/updatable_views/updatableviews/SqlToken$Kind;II)V" = some ⟨[(.object "com/example/updatable_views/updatableviews/SqlToken$Kind"), .int, .int], none⟩ := by decide +kernel
theorem pd_20 : parseMethodDescriptor "(Ljava/lang/CharSequence;Ljava/lang/String;)Z" = some ⟨[(.object "java/lang/CharSequence"), (.object "java/lang/String")], some .boolean⟩ := by decide +kernel
theorem pd_21 : parseMethodDescriptor "(CC)Z" = some ⟨[.char, .char], some .boolean⟩ := by decide +kernel
theorem pn_0 : plainName "java/lang/StringUTF16" = true := by first | (simp [plainName, overriddenIn]; done) | decide +kernel
theorem pn_1 : plainName "java/lang/String" = true := by first | (simp [plainName, overriddenIn]; done) | decide +kernel
theorem pn_2 : plainName "jdk/internal/util/Preconditions" = true := by first | (simp [plainName, overriddenIn]; done) | decide +kernel
theorem pn_3 : plainName "java/lang/StringLatin1" = true := by first | (simp [plainName, overriddenIn]; done) | decide +kernel
theorem pn_4 : plainName "com/example/updatable_views/updatableviews/SqlTokenIsKeywordPinLaw" = true := by first | (simp [plainName, overriddenIn]; done) | decide +kernel
theorem pn_5 : plainName "com/example/updatable_views/updatableviews/SqlToken" = true := by first | (simp [plainName, overriddenIn]; done) | decide +kernel
theorem own_t0 : (0 : Int32).toInt = 0 := rfl
theorem own_t1 : (1 : Int32).toInt = 1 := rfl
theorem own_t2 : (2 : Int32).toInt = 2 := rfl
theorem own_t3 : (3 : Int32).toInt = 3 := rfl
theorem own_t32 : (32 : Int32).toInt = 32 := rfl
theorem own_t65 : (65 : Int32).toInt = 65 := rfl
theorem own_t90 : (90 : Int32).toInt = 90 := rfl
theorem own_t97 : (97 : Int32).toInt = 97 := rfl
theorem own_t122 : (122 : Int32).toInt = 122 := rfl
theorem own_fldI {s : State} {args : Array Value} {t : Term} {a : Addr} {C f : String} {z : Int32} (e : t.eval args s none [] s = some (.ref a)) (h : (Jvm.Cond.eq (Jvm.Term.field t C f "I") (Jvm.Term.int z)).value args s none s [] = some true) : Fld s s.heap a C f "I" (.int z) := by
  have q := eqv_i (Z := s) (F := Jvm.Term.int z) (y := z) rfl h
  rw [fld_at e] at q
  exact Fld.start q
theorem own_fldJ {s : State} {args : Array Value} {t : Term} {a : Addr} {C f : String} {z : Int64} (e : t.eval args s none [] s = some (.ref a)) (h : (Jvm.Cond.eq (Jvm.Term.field t C f "J") (Jvm.Term.long z)).value args s none s [] = some true) : Fld s s.heap a C f "J" (.long z) := by
  have q := eqv_l (Z := s) (F := Jvm.Term.long z) (y := z) rfl h
  rw [fld_at e] at q
  exact Fld.start q
theorem own_fldR {s : State} {args : Array Value} {t u : Term} {a b : Addr} {C f d : String} (e : t.eval args s none [] s = some (.ref a)) (eu : u.eval args s none [] s = some (.ref b)) (h : (Jvm.Cond.eq (Jvm.Term.field t C f d) u).value args s none s [] = some true) : Fld s s.heap a C f d (.ref b) := by
  obtain ⟨x, y, e1, e2, k1, k2⟩ := cmp_v (Or.inl h)
  cases eu.symm.trans e2
  have hx : x.isRef = true := k2.2
  have q := gotT (eq_R e1 e2 hx rfl) h
  subst q
  rw [fld_at e] at e1
  exact Fld.start e1
theorem own_fitsO {C : String} {v : Value} (h : v.isRef = true) : fits (.object C) v = true := by cases v <;> simp [Value.isRef, fits] at h ⊢
theorem own_narO {C : String} {v : Value} (h : v.isRef = true) : narrow (.object C) v = v := by cases v <;> first | rfl | simp [Value.isRef] at h
theorem own_all0 {P : Int32 → Prop} : ∀ c ∈ ([] : List Int32), P c := fun _ q => nomatch q
theorem own_allS {P : Int32 → Prop} {a : Int32} {L : List Int32} (q : P a) (r : ∀ c ∈ L, P c) : ∀ c ∈ a :: L, P c := fun x z => (List.mem_cons.mp z).elim (fun u => u ▸ q) (r x)
def latB (c : Int32) : Value := .int c.toInt8.toInt32
/-- the object at a is a Latin-1 String of the chars cs; its bytes lie at b -/
def SL (Z : State) (h : Heap) (a b : Nat) (cs : List Int32) : Prop := Exa Z h a "java/lang/String" ∧ Fld Z h a "java/lang/String" "coder" "B" (.int 0) ∧ Fld Z h a "java/lang/String" "value" "[B" (.ref b) ∧ Ary Z h b .byte (cs.map latB) ∧ ∀ c ∈ cs, 0 ≤ c.toInt ∧ c.toInt ≤ 255
theorem SL.keep {Z : State} {h h' : Heap} {a b : Addr} {cs : List Int32} {ws : List Addr} (S : SL Z h a b cs) (K : Keep h h' ws) (qa : a ∉ ws) (qb : b ∉ ws) : SL Z h' a b cs := by
  obtain ⟨E, F1, F2, V, q⟩ := S
  exact ⟨E.keep K, F1.keep K qa, F2.keep K qa, V.keep K qb, q⟩
theorem SL.lt {Z : State} {h : Heap} {a b : Addr} {cs : List Int32} (S : SL Z h a b cs) : a < h.size := S.1.lt
theorem SL.ltb {Z : State} {h : Heap} {a b : Addr} {cs : List Int32} (S : SL Z h a b cs) : b < h.size := S.2.2.2.1.lt
theorem own_b8 (c : Int32) : c.toInt8.toInt32.toInt8.toInt32 = c.toInt8.toInt32 := by simp
theorem own_toInt {n : Nat} (h : n < 2 ^ 31) : n.toInt32.toInt = n := len_toInt h
theorem own_ltn {i n : Nat} (h : i < n) (hn : n < 2 ^ 31) : i.toInt32 < n.toInt32 := by
  rw [Int32.lt_iff_toInt_lt, own_toInt (by omega), own_toInt hn]; omega
theorem own_nltn {i n : Nat} (h : n ≤ i) (hn : i < 2 ^ 31) : ¬ i.toInt32 < n.toInt32 := by
  rw [Int32.lt_iff_toInt_lt, own_toInt hn, own_toInt (by omega)]; omega
theorem own_nneg {n : Nat} (hn : n < 2 ^ 31) : ¬ n.toInt32 < 0 := by
  rw [Int32.lt_iff_toInt_lt, own_toInt hn]; simp
theorem own_succ (i : Nat) : i.toInt32 + Int32.ofInt 1 = (i + 1).toInt32 := by
  show Int32.ofNat i + Int32.ofInt 1 = Int32.ofNat (i + 1)
  rw [Int32.ofNat_add]; rfl
theorem own_fill {cs : List Int32} {bs : List Value} {i : Nat} {c : Int32} (hl : bs.length = cs.length) (hc : cs[i]? = some c) : ((cs.take i).map latB ++ bs.drop i).set i (latB c) = (cs.take (i + 1)).map latB ++ bs.drop (i + 1) := by
  have hi : i < cs.length := (List.getElem?_eq_some_iff.mp hc).1
  have e1 : ((cs.take i).map latB).length = i := by simp; omega
  have e2 : bs.drop i = bs[i] :: bs.drop (i + 1) := List.drop_eq_getElem_cons (by omega)
  have e3 : cs.take (i + 1) = cs.take i ++ [c] := by rw [List.take_add_one, hc]; rfl
  rw [List.set_append_right _ _ (by omega), e1, e2, e3, Nat.sub_self, List.set_cons_zero, List.map_append, List.append_assoc]
  rfl
theorem own_back (c : Int32) (h : 0 ≤ c.toInt ∧ c.toInt ≤ 255) : nar .char (c.toInt8.toInt32 &&& 255).toUInt32.toUInt16.toUInt32.toInt32 = c := by
  have e : ∀ n : Fin 256, nar .char ((Int32.ofNat n.1).toInt8.toInt32 &&& 255).toUInt32.toUInt16.toUInt32.toInt32 = Int32.ofNat n.1 := by decide +kernel
  have q : c = Int32.ofNat c.toInt.toNat := by
    apply Int32.toInt_inj.mp
    rw [show Int32.ofNat c.toInt.toNat = c.toInt.toNat.toInt32 from rfl, own_toInt (by omega)]; omega
  rw [q]
  exact e ⟨c.toInt.toNat, by omega⟩
theorem own_csub (n : Int32) : (((n - n).toUInt32 >>> ((31 : Int32) &&& 31).toUInt32).toInt32).toInt8.toInt32 = 0 := by
  rw [Int32.sub_self]; decide
theorem own_nchar {c : Int32} (h : 0 ≤ c.toInt ∧ c.toInt < 65536) : nar .char c = c := by
  have q := c_i2c c
  apply Int32.toInt_inj.mp
  show c.toUInt32.toUInt16.toUInt32.toInt32.toInt = c.toInt
  omega
/-- the JDK's statics that String's methods read -/
def SEnv (Z : State) (cc : Int32) (fm : Value) : Prop := Sta Z Z.heap "java/lang/String" "COMPACT_STRINGS" "Z" (.int cc) ∧ ¬ cc = 0 ∧ Sta Z Z.heap "jdk/internal/util/Preconditions" "SIOOBE_FORMATTER" "Ljava/util/function/BiFunction;" fm ∧ fm.isRef = true
def loB (c : Int32) : Value := .int c.toInt8.toInt32
def hiB (c : Int32) : Value := .int (c >>> ((8 : Int32) &&& 31)).toInt8.toInt32
def utfB : List Int32 → List Value
  | [] => []
  | c :: t => loB c :: hiB c :: utfB t
theorem own_ulen : ∀ cs : List Int32, (utfB cs).length = 2 * cs.length
  | [] => rfl
  | c :: t => by simp only [utfB, List.length_cons, own_ulen t]; omega
theorem own_uapp : ∀ xs ys : List Int32, utfB (xs ++ ys) = utfB xs ++ utfB ys
  | [], ys => rfl
  | c :: t, ys => by simp only [List.cons_append, utfB, own_uapp t ys]
theorem own_uget : ∀ (cs : List Int32) (i : Nat) (c : Int32), cs[i]? = some c → (utfB cs)[2 * i]? = some (loB c) ∧ (utfB cs)[2 * i + 1]? = some (hiB c)
  | [], i, c, h => by simp at h
  | d :: t, 0, c, h => by simp at h; subst h; exact ⟨rfl, rfl⟩
  | d :: t, i + 1, c, h => by
    have q := own_uget t i c (by simpa using h)
    exact ⟨by rw [show 2 * (i + 1) = 2 * i + 1 + 1 from by omega]; simpa [utfB] using q.1, by rw [show 2 * (i + 1) + 1 = 2 * i + 1 + 1 + 1 from by omega]; simpa [utfB] using q.2⟩
theorem own_ufill {cs : List Int32} {bs : List Value} {i : Nat} {c : Int32} (hl : bs.length = 2 * cs.length) (hc : cs[i]? = some c) : ((utfB (cs.take i) ++ bs.drop (2 * i)).set (2 * i) (loB c)).set (2 * i + 1) (hiB c) = utfB (cs.take (i + 1)) ++ bs.drop (2 * (i + 1)) := by
  have hi : i < cs.length := (List.getElem?_eq_some_iff.mp hc).1
  have e1 : (utfB (cs.take i)).length = 2 * i := by rw [own_ulen, List.length_take]; omega
  have e2 : bs.drop (2 * i) = bs[2 * i] :: bs[2 * i + 1] :: bs.drop (2 * i + 1 + 1) := by
    rw [List.drop_eq_getElem_cons (by omega), List.drop_eq_getElem_cons (i := 2 * i + 1) (by omega)]
  have e3 : cs.take (i + 1) = cs.take i ++ [c] := by rw [List.take_add_one, hc]; rfl
  rw [List.set_append_right _ _ (by omega), List.set_append_right _ _ (by omega), e1, e2, e3, own_uapp, List.append_assoc, Nat.sub_self, show 2 * i + 1 - 2 * i = 1 from by omega, show 2 * (i + 1) = 2 * i + 1 + 1 from by omega]
  rfl
theorem own_u16 (c : Int32) (h : 0 ≤ c.toInt ∧ c.toInt < 65536) : nar .char ((((c.toInt8.toInt32 &&& (255 : Int32)) <<< ((0 : Int32) &&& 31)) ||| (((c >>> ((8 : Int32) &&& 31)).toInt8.toInt32 &&& (255 : Int32)) <<< ((8 : Int32) &&& 31))).toUInt32.toUInt16.toUInt32.toInt32) = c := by
  have a1 := c_mask c.toInt8.toInt32 255 8 (by decide) (by decide)
  have a2 := (c_i2b c).1
  have a3 := c_ishl (c.toInt8.toInt32 &&& (255 : Int32)) 0 0 (by decide)
  have r3 := rng32 ((c.toInt8.toInt32 &&& (255 : Int32)) <<< ((0 : Int32) &&& 31))
  have b0 := c_ishr c 8 8 (by decide)
  have b1 := c_mask (c >>> ((8 : Int32) &&& 31)).toInt8.toInt32 255 8 (by decide) (by decide)
  have b2 := (c_i2b (c >>> ((8 : Int32) &&& 31))).1
  have b3 := c_ishl ((c >>> ((8 : Int32) &&& 31)).toInt8.toInt32 &&& (255 : Int32)) 8 8 (by decide)
  have r4 := rng32 (((c >>> ((8 : Int32) &&& 31)).toInt8.toInt32 &&& (255 : Int32)) <<< ((8 : Int32) &&& 31))
  generalize (c.toInt8.toInt32 &&& (255 : Int32)) <<< ((0 : Int32) &&& 31) = X at *
  generalize ((c >>> ((8 : Int32) &&& 31)).toInt8.toInt32 &&& (255 : Int32)) <<< ((8 : Int32) &&& 31) = Y at *
  have o := c_or' X Y 8 (by decide) 256 (by decide) (by omega) (by omega) (by omega)
  have r5 := rng32 (X ||| Y)
  generalize X ||| Y = W at *
  have e : W.toInt = c.toInt := by omega
  have e2 : W = c := Int32.toInt_inj.mp e
  subst e2
  have q := c_i2c W
  have e3 : W.toUInt32.toUInt16.toUInt32.toInt32 = W := by apply Int32.toInt_inj.mp; omega
  rw [e3]; exact own_nchar h
theorem own_shr0 (x : Int32) : x >>> ((0 : Int32) &&& 31) = x := by
  apply Int32.toInt_inj.mp
  rw [c_ishr x 0 0 rfl]
  simp
theorem own_shl1 {k : Nat} (h : k < 2 ^ 29) : k.toInt32 <<< ((1 : Int32) &&& 31) = (2 * k).toInt32 := by
  apply Int32.toInt_inj.mp
  have a := c_ishl k.toInt32 1 1 (by decide)
  have r := rng32 (k.toInt32 <<< ((1 : Int32) &&& 31))
  rw [own_toInt (by omega)] at a ⊢
  omega
theorem own_shr1 {k : Nat} (h : k < 2 ^ 29) : (2 * k).toInt32 >>> ((1 : Int32) &&& 31) = k.toInt32 := by
  apply Int32.toInt_inj.mp
  rw [c_ishr _ 1 1 (by decide), own_toInt (by omega), own_toInt (by omega)]
  omega
theorem own_csub1 {k : Nat} (h0 : 0 < k) (h : k < 2 ^ 29) : (((k.toInt32 - (2 * k).toInt32).toUInt32 >>> ((31 : Int32) &&& 31).toUInt32).toInt32).toInt8.toInt32 = 1 := by
  have a := c_iushr (k.toInt32 - (2 * k).toInt32) 31 31 (by decide) (by decide)
  have b := c_isub k.toInt32 (2 * k).toInt32
  have r := rng32 (k.toInt32 - (2 * k).toInt32)
  rw [own_toInt (by omega), own_toInt (by omega)] at b
  have e : ((k.toInt32 - (2 * k).toInt32).toUInt32 >>> ((31 : Int32) &&& 31).toUInt32).toInt32 = 1 := by
    apply Int32.toInt_inj.mp
    rw [a]
    have : (1 : Int32).toInt = 1 := rfl
    omega
  rw [e]; rfl
/-- a UTF-16 String -/
def SU (Z : State) (h : Heap) (a b : Addr) (cs : List Int32) : Prop := Exa Z h a "java/lang/String" ∧ Fld Z h a "java/lang/String" "coder" "B" (.int 1) ∧ Fld Z h a "java/lang/String" "value" "[B" (.ref b) ∧ Ary Z h b .byte (utfB cs) ∧ (∀ c ∈ cs, 0 ≤ c.toInt ∧ c.toInt < 65536) ∧ cs.length < 2 ^ 29
def SG (Z : State) (h : Heap) (a b : Addr) (cs : List Int32) : Prop := SL Z h a b cs ∨ SU Z h a b cs
theorem SU.keep {Z : State} {h h' : Heap} {a b : Addr} {cs : List Int32} {ws : List Addr} (S : SU Z h a b cs) (K : Keep h h' ws) (qa : a ∉ ws) (qb : b ∉ ws) : SU Z h' a b cs := by
  obtain ⟨E, F1, F2, V, q⟩ := S
  exact ⟨E.keep K, F1.keep K qa, F2.keep K qa, V.keep K qb, q⟩
theorem SG.keep {Z : State} {h h' : Heap} {a b : Addr} {cs : List Int32} {ws : List Addr} (S : SG Z h a b cs) (K : Keep h h' ws) (qa : a ∉ ws) (qb : b ∉ ws) : SG Z h' a b cs := S.imp (fun s => s.keep K qa qb) (fun s => s.keep K qa qb)
theorem SG.exa {Z : State} {h : Heap} {a b : Addr} {cs : List Int32} (S : SG Z h a b cs) : Exa Z h a "java/lang/String" := S.elim (fun s => s.1) (fun s => s.1)
theorem SG.lt {Z : State} {h : Heap} {a b : Addr} {cs : List Int32} (S : SG Z h a b cs) : a < h.size := S.exa.lt
theorem SG.ltb {Z : State} {h : Heap} {a b : Addr} {cs : List Int32} (S : SG Z h a b cs) : b < h.size := S.elim (fun s => s.2.2.2.1.lt) (fun s => s.2.2.2.1.lt)
def SEnvU (Z : State) : Prop := Sta Z Z.heap "java/lang/StringUTF16" "$assertionsDisabled" "Z" (.int 1) ∧ Sta Z Z.heap "java/lang/StringUTF16" "HI_BYTE_SHIFT" "I" (.int 0) ∧ Sta Z Z.heap "java/lang/StringUTF16" "LO_BYTE_SHIFT" "I" (.int 8)
set_option maxRecDepth 65536 in
set_option maxHeartbeats 40000000 in
theorem c_nbl (l : Launch) (Z : State) (a0 : Array Value) (hw : ∀ d ∈ tables_1, d.before a0 Z = true) (hE : EW Z a0 consts_1) (k : Nat) (h0 : Heap) (O : Ext Z.heap h0) (hk : k < 2 ^ 29) :
    Con l Z consts_1 (⟨"java/lang/StringUTF16", "newBytesLength", "(I)I"⟩ : MethodName) jdk_52_method_3_code 1 (Option.some Jvm.ClassFile.FieldType.int) ({ frames := 0, cells := 0, slots := 0, locals := 0 } : Room) #[(.int k.toInt32)] h0 [] (pureQ (some (.int (2 * k).toInt32)) h0) := by
  refine Con.of (a0 := a0) #[.val (.int k.toInt32)] (plainFor_of_name pn_0) hE O all0 (fun m => by first | (simp [entryFrame, mkF, argsToLocals, Value.category]; done) | rfl) ?_
  intro p e s m below meth c T0 hx hby hml hnm hret hlk hh W0
  refine g_iloadN (pc' := 1) W0.here hx (hb hby d_jdk_52_3_0) rfl rfl ?_
  refine g_ifY (pc' := 12) W0.here hx (hb hby d_jdk_52_3_1) rfl (flt (show ¬ (k.toInt32 < (0 : Int32)) from (own_nneg (by omega)))).2.1 ?_
  refine g_iloadN (pc' := 13) W0.here hx (hb hby d_jdk_52_3_12) rfl rfl ?_
  refine w_ldcI (pc' := 15) W0 hx (hw _ (List.mem_of_getElem? w_61)) (hb hby d_jdk_52_3_13) rfl ?_
  refine g_icmpY (pc' := 55) W0.here hx (hb hby d_jdk_52_3_15) rfl (tlt (show k.toInt32 < (1073741823 : Int32) from (by rw [Int32.lt_iff_toInt_lt, own_toInt (by omega)]; have : (1073741823 : Int32).toInt = 1073741823 := rfl; omega))).1 ?_
  refine g_iloadN (pc' := 56) W0.here hx (hb hby d_jdk_52_3_55) rfl rfl ?_
  refine g_iconst (1 : Int32) (pc' := 57) W0.here hx (hb hby d_jdk_52_3_56) rfl rfl ?_
  refine g_ishl (pc' := 58) W0.here hx (hb hby d_jdk_52_3_57) rfl ?_
  refine w_retI W0 hx hh hlk hret (hb hby d_jdk_52_3_58) (Nat.le_of_ble_eq_true rfl) (Nat.le_of_ble_eq_true rfl) ?_
  exact ⟨congrArg (fun z => some (Value.int z)) (own_shl1 hk), rfl⟩
set_option maxRecDepth 65536 in
set_option maxHeartbeats 40000000 in
theorem c_nbf (l : Launch) (Z : State) (a0 : Array Value) (hw : ∀ d ∈ tables_1, d.before a0 Z = true) (hE : EW Z a0 consts_1) (k : Nat) (h0 : Heap) (O : Ext Z.heap h0) (hk : k ≤ 5) :
    ConF l Z consts_1 (⟨"java/lang/StringUTF16", "newBytesFor", "(I)[B"⟩ : MethodName) jdk_52_method_2_code 1 (Option.some (Jvm.ClassFile.FieldType.array Jvm.ClassFile.FieldType.byte)) ({ frames := 1, cells := 1, slots := 10, locals := 12 } : Room) #[(.int k.toInt32)] h0 [] (fun N v h => ∃ ba : Nat, N = [ba] ∧ v = some (.ref ba) ∧ Ary Z h ba .byte (List.replicate (2 * k) (.int 0))) := by
  refine ConF.of (a0 := a0) #[.val (.int k.toInt32)] (plainFor_of_name pn_0) hE O all0 (fun m => by first | (simp [entryFrame, mkF, argsToLocals, Value.category]; done) | rfl) ?_
  intro p e s m below meth c T0 hx hby hml hnm hret hlk hh W0
  refine g_iloadN (pc' := 1) W0.here hx (hb hby d_jdk_52_2_0) rfl rfl ?_
  refine w_callSp (pc' := 4) (st := []) (y := (⟨"java/lang/StringUTF16", "newBytesLength", "(I)I"⟩ : MethodName)) W0 hx [(.int k.toInt32)] (hw _ (List.mem_of_getElem? w_58)) (hw _ (List.mem_of_getElem? w_59)) (hw _ (List.mem_of_getElem? w_46)) (hw _ (List.mem_of_getElem? w_60)) (by decide) (c_nbl l Z a0 hw hE k h0 W0.old (by omega)) (by rw [hml]; rfl) (lenOf pd_0 rfl) rfl (hb hby d_jdk_52_2_1) (Nat.le_of_ble_eq_true rfl) (Nat.le_of_ble_eq_true rfl) rfl rfl (Nat.le_of_ble_eq_true rfl) (Nat.le_of_ble_eq_true rfl) rfl fun T1 W1 => ?_
  refine w_newarr (pc' := 6) (cap := 10) W1 hx (hw _ (List.mem_of_getElem? w_48)) (hb hby d_jdk_52_2_4) (own_nneg (by omega)) (by rw [i32_nat (by omega)]; omega) (Nat.le_of_ble_eq_true rfl) (Nat.le_of_ble_eq_true rfl) (Nat.le_of_ble_eq_true rfl) rfl rfl fun T2 h2 b2 g2 W2 K2 V2 => ?_
  have z_K2 : h0.size ≤ h2.size := K2.1
  have lt_b2 : b2 < h2.size := W2.lt (List.mem_cons_self ..)
  rw [i32_nat (by omega)] at V2
  refine w_retAF W2 hx hh hlk hret rfl rfl (hb hby d_jdk_52_2_6) (Nat.le_of_ble_eq_true rfl) (Nat.le_of_ble_eq_true rfl) [b2] (allS (List.mem_of_getElem? (i := 0) rfl) all0) ?_
  exact ⟨_, rfl, rfl, V2⟩
set_option maxRecDepth 65536 in
set_option maxHeartbeats 40000000 in
theorem c_putChar (l : Launch) (Z : State) (a0 : Array Value) (hw : ∀ d ∈ tables_1, d.before a0 Z = true) (hE : EW Z a0 consts_1) (cc : Int32) (fm : Value) (ba i : Nat) (cv : Int32) (bs : List Value) (h0 : Heap) (O : Ext Z.heap h0) (G : SEnv Z cc fm) (GU : SEnvU Z) (VB : Ary Z h0 ba .byte bs) (hi : 2 * i + 1 < bs.length) (hbl : bs.length < 2 ^ 29) (hz : Z.heap.size ≤ ba) :
    Con l Z consts_1 (⟨"java/lang/StringUTF16", "putChar", "([BII)V"⟩ : MethodName) jdk_52_method_4_code 3 (Option.none : Option Jvm.ClassFile.FieldType) ({ frames := 0, cells := 0, slots := 0, locals := 0 } : Room) #[(.ref ba), (.int i.toInt32), (.int cv)] h0 [ba] (fun v h => v = none ∧ Ary Z h ba .byte ((bs.set (2 * i) (loB cv)).set (2 * i + 1) (hiB cv))) := by
  refine Con.of (a0 := a0) #[.val (.ref ba), .val (.int i.toInt32), .val (.int cv)] (plainFor_of_name pn_0) hE O (allS ⟨hz, VB.lt⟩ all0) (fun m => by first | (simp [entryFrame, mkF, argsToLocals, Value.category]; done) | rfl) ?_
  intro p e s m below meth c T0 hx hby hml hnm hret hlk hh W0
  refine w_getS (pc' := 3) W0 hx (hw _ (List.mem_of_getElem? w_65)) Via.refl GU.1 (hb hby d_jdk_52_4_0) rfl fun T3 W3 => ?_
  refine g_ifY (pc' := 28) W3.here hx (hb hby d_jdk_52_4_3) rfl (feq (show ¬ ((1 : Int32) = (0 : Int32)) from (by decide))).2 ?_
  refine g_iloadN (pc' := 29) W3.here hx (hb hby d_jdk_52_4_28) rfl rfl ?_
  refine g_iconst (1 : Int32) (pc' := 30) W3.here hx (hb hby d_jdk_52_4_29) rfl rfl ?_
  refine g_ishl (pc' := 31) W3.here hx (hb hby d_jdk_52_4_30) rfl ?_
  refine g_name (w := .int (2 * i).toInt32) (congrArg Value.int (own_shl1 (by omega)).symm) ?_
  refine g_istoreN (pc' := 32) (Ls' := #[.val (.ref ba), .val (.int (2 * i).toInt32), .val (.int cv)]) W3.here hx (hb hby d_jdk_52_4_31) rfl rfl ?_
  refine g_aloadN (pc' := 33) W3.here hx (hb hby d_jdk_52_4_32) rfl rfl rfl ?_
  refine g_iloadN (pc' := 34) W3.here hx (hb hby d_jdk_52_4_33) rfl rfl ?_
  refine g_iincV (2 * i + 1).toInt32 (pc' := 37) (Ls' := #[.val (.ref ba), .val (.int (2 * i + 1).toInt32), .val (.int cv)]) W3.here hx (hb hby d_jdk_52_4_34) (own_succ (2 * i)) rfl rfl rfl ?_
  refine g_iloadN (pc' := 38) W3.here hx (hb hby d_jdk_52_4_37) rfl rfl ?_
  refine w_getS (pc' := 41) W3 hx (hw _ (List.mem_of_getElem? w_66)) Via.refl GU.2.1 (hb hby d_jdk_52_4_38) rfl fun T4 W4 => ?_
  refine g_ishr (pc' := 42) W4.here hx (hb hby d_jdk_52_4_41) rfl ?_
  refine g_i2b (pc' := 43) W4.here hx (hb hby d_jdk_52_4_42) rfl ?_
  refine w_bastore (pc' := 44) (x' := cv.toInt8.toInt32) W4 hx VB (own_nneg (by omega)) (by rw [i32_nat (by omega)]; first | omega | (simp; omega)) (List.mem_of_getElem? (i := 0) rfl) (by rw [own_shr0, own_b8]) (hb hby d_jdk_52_4_43) rfl fun T5 h5 W5 K5 V5 => ?_
  have z_K5 : h0.size ≤ h5.size := K5.1
  have V5 : Ary Z h5 ba .byte (bs.set (2 * i) (loB cv)) := by rw [i32_nat (by omega)] at V5; exact V5
  refine g_aloadN (pc' := 45) W5.here hx (hb hby d_jdk_52_4_44) rfl rfl rfl ?_
  refine g_iloadN (pc' := 46) W5.here hx (hb hby d_jdk_52_4_45) rfl rfl ?_
  refine g_iloadN (pc' := 47) W5.here hx (hb hby d_jdk_52_4_46) rfl rfl ?_
  refine w_getS (pc' := 50) W5 hx (hw _ (List.mem_of_getElem? w_67)) Via.refl GU.2.2 (hb hby d_jdk_52_4_47) rfl fun T6 W6 => ?_
  refine g_ishr (pc' := 51) W6.here hx (hb hby d_jdk_52_4_50) rfl ?_
  refine g_i2b (pc' := 52) W6.here hx (hb hby d_jdk_52_4_51) rfl ?_
  refine w_bastore (pc' := 53) (x' := (cv >>> ((8 : Int32) &&& 31)).toInt8.toInt32) W6 hx V5 (own_nneg (by omega)) (by rw [i32_nat (by omega)]; first | omega | (simp; omega)) (List.mem_of_getElem? (i := 0) rfl) (own_b8 _) (hb hby d_jdk_52_4_52) rfl fun T7 h7 W7 K7 V7 => ?_
  have z_K7 : h5.size ≤ h7.size := K7.1
  have V7 : Ary Z h7 ba .byte ((bs.set (2 * i) (loB cv)).set (2 * i + 1) (hiB cv)) := by rw [i32_nat (by omega)] at V7; exact V7
  refine w_retV W7 hx hh hlk hret (hb hby d_jdk_52_4_53) (Nat.le_of_ble_eq_true rfl) (Nat.le_of_ble_eq_true rfl) ?_
  exact ⟨rfl, V7⟩
set_option maxRecDepth 65536 in
set_option maxHeartbeats 40000000 in
theorem c_getChar (l : Launch) (Z : State) (a0 : Array Value) (hw : ∀ d ∈ tables_1, d.before a0 Z = true) (hE : EW Z a0 consts_1) (cc : Int32) (fm : Value) (ba i : Nat) (cv : Int32) (bs : List Value) (h0 : Heap) (O : Ext Z.heap h0) (G : SEnv Z cc fm) (GU : SEnvU Z) (VB : Ary Z h0 ba .byte bs) (hi : i < 2 ^ 28) (hg1 : bs[2 * i]? = some (loB cv)) (hg2 : bs[2 * i + 1]? = some (hiB cv)) (hcv : 0 ≤ cv.toInt ∧ cv.toInt < 65536) :
    Con l Z consts_1 (⟨"java/lang/StringUTF16", "getChar", "([BI)C"⟩ : MethodName) jdk_52_method_5_code 2 (Option.some Jvm.ClassFile.FieldType.char) ({ frames := 0, cells := 0, slots := 0, locals := 0 } : Room) #[(.ref ba), (.int i.toInt32)] h0 [] (pureQ (some (.int cv)) h0) := by
  refine Con.of (a0 := a0) #[.val (.ref ba), .val (.int i.toInt32)] (plainFor_of_name pn_0) hE O all0 (fun m => by first | (simp [entryFrame, mkF, argsToLocals, Value.category]; done) | rfl) ?_
  intro p e s m below meth c T0 hx hby hml hnm hret hlk hh W0
  refine w_getS (pc' := 3) W0 hx (hw _ (List.mem_of_getElem? w_65)) Via.refl GU.1 (hb hby d_jdk_52_5_0) rfl fun T8 W8 => ?_
  refine g_ifY (pc' := 28) W8.here hx (hb hby d_jdk_52_5_3) rfl (feq (show ¬ ((1 : Int32) = (0 : Int32)) from (by decide))).2 ?_
  refine g_iloadN (pc' := 29) W8.here hx (hb hby d_jdk_52_5_28) rfl rfl ?_
  refine g_iconst (1 : Int32) (pc' := 30) W8.here hx (hb hby d_jdk_52_5_29) rfl rfl ?_
  refine g_ishl (pc' := 31) W8.here hx (hb hby d_jdk_52_5_30) rfl ?_
  refine g_name (w := .int (2 * i).toInt32) (congrArg Value.int (own_shl1 (by omega)).symm) ?_
  refine g_istoreN (pc' := 32) (Ls' := #[.val (.ref ba), .val (.int (2 * i).toInt32)]) W8.here hx (hb hby d_jdk_52_5_31) rfl rfl ?_
  refine g_aloadN (pc' := 33) W8.here hx (hb hby d_jdk_52_5_32) rfl rfl rfl ?_
  refine g_iloadN (pc' := 34) W8.here hx (hb hby d_jdk_52_5_33) rfl rfl ?_
  refine g_iincV (2 * i + 1).toInt32 (pc' := 37) (Ls' := #[.val (.ref ba), .val (.int (2 * i + 1).toInt32)]) W8.here hx (hb hby d_jdk_52_5_34) (own_succ (2 * i)) rfl rfl rfl ?_
  refine w_baload (pc' := 38) (v := (.int cv.toInt8.toInt32)) W8 hx VB (own_nneg (by omega)) (by rw [i32_nat (by omega)]; exact hg1) (hb hby d_jdk_52_5_37) rfl ?_
  refine g_sipush (255 : Int32) (pc' := 41) W8.here hx (hb hby d_jdk_52_5_38) rfl rfl ?_
  refine g_iand (pc' := 42) W8.here hx (hb hby d_jdk_52_5_41) rfl ?_
  refine w_getS (pc' := 45) W8 hx (hw _ (List.mem_of_getElem? w_66)) Via.refl GU.2.1 (hb hby d_jdk_52_5_42) rfl fun T9 W9 => ?_
  refine g_ishl (pc' := 46) W9.here hx (hb hby d_jdk_52_5_45) rfl ?_
  refine g_aloadN (pc' := 47) W9.here hx (hb hby d_jdk_52_5_46) rfl rfl rfl ?_
  refine g_iloadN (pc' := 48) W9.here hx (hb hby d_jdk_52_5_47) rfl rfl ?_
  refine w_baload (pc' := 49) (v := (.int (cv >>> ((8 : Int32) &&& 31)).toInt8.toInt32)) W9 hx VB (own_nneg (by omega)) (by rw [i32_nat (by omega)]; exact hg2) (hb hby d_jdk_52_5_48) rfl ?_
  refine g_sipush (255 : Int32) (pc' := 52) W9.here hx (hb hby d_jdk_52_5_49) rfl rfl ?_
  refine g_iand (pc' := 53) W9.here hx (hb hby d_jdk_52_5_52) rfl ?_
  refine w_getS (pc' := 56) W9 hx (hw _ (List.mem_of_getElem? w_67)) Via.refl GU.2.2 (hb hby d_jdk_52_5_53) rfl fun T10 W10 => ?_
  refine g_ishl (pc' := 57) W10.here hx (hb hby d_jdk_52_5_56) rfl ?_
  refine g_ior (pc' := 58) W10.here hx (hb hby d_jdk_52_5_57) rfl ?_
  refine g_i2c (pc' := 59) W10.here hx (hb hby d_jdk_52_5_58) rfl ?_
  refine w_retN (t := .char) W10 hx hh hlk hret (by simp) (hb hby d_jdk_52_5_59) (Nat.le_of_ble_eq_true rfl) (Nat.le_of_ble_eq_true rfl) ?_
  exact ⟨congrArg (fun z => some (Value.int z)) (own_u16 cv hcv), rfl⟩
set_option maxRecDepth 65536 in
set_option maxHeartbeats 40000000 in
theorem c_toBytes (l : Launch) (Z : State) (a0 : Array Value) (hw : ∀ d ∈ tables_1, d.before a0 Z = true) (hE : EW Z a0 consts_1) (cc : Int32) (fm : Value) (ca : Nat) (cs : List Int32) (h0 : Heap) (O : Ext Z.heap h0) (G : SEnv Z cc fm) (GU : SEnvU Z) (hn : cs.length ≤ 5) (hch : ∀ c ∈ cs, 0 ≤ c.toInt ∧ c.toInt < 65536) (VA : Ary Z h0 ca .char (cs.map Value.int))  :
    Con l Z consts_1 (⟨"java/lang/StringUTF16", "toBytes", "([CII)[B"⟩ : MethodName) jdk_52_method_14_code 5 (Option.some (Jvm.ClassFile.FieldType.array Jvm.ClassFile.FieldType.byte)) ({ frames := 2, cells := 1, slots := 10, locals := 24 } : Room) #[(.ref ca), (.int (0 : Int32)), (.int cs.length.toInt32)] h0 [] (fun v h => ∃ ba : Nat, v = some (.ref ba) ∧ h0.size ≤ ba ∧ Ary Z h ba .byte (utfB cs)) := by
  refine Con.of (a0 := a0) #[.val (.ref ca), .val (.int (0 : Int32)), .val (.int cs.length.toInt32), .unset, .unset] (plainFor_of_name pn_0) hE O all0 (fun m => by first | (simp [entryFrame, mkF, argsToLocals, Value.category]; done) | rfl) ?_
  intro p e s m below meth c T0 hx hby hml hnm hret hlk hh W0
  have hn31 : cs.length < 2 ^ 29 := by omega
  have lt_ca : ca < h0.size := VA.lt
  refine g_iloadN (pc' := 1) W0.here hx (hb hby d_jdk_52_14_0) rfl rfl ?_
  refine w_callSF (pc' := 4) (st := []) (y := (⟨"java/lang/StringUTF16", "newBytesFor", "(I)[B"⟩ : MethodName)) W0 hx [(.int cs.length.toInt32)] (hw _ (List.mem_of_getElem? w_55)) (hw _ (List.mem_of_getElem? w_56)) (hw _ (List.mem_of_getElem? w_46)) (hw _ (List.mem_of_getElem? w_57)) (by decide) (c_nbf l Z a0 hw hE cs.length h0 W0.old hn) all0 (by rw [hml]; rfl) (lenOf pd_1 rfl) rfl (hb hby d_jdk_52_14_1) (Nat.le_of_ble_eq_true rfl) (Nat.le_of_ble_eq_true rfl) (Nat.le_of_ble_eq_true rfl) (Nat.le_of_ble_eq_true rfl) rfl fun N11 v11 T11 h11 W11 K11 G11 Q11 => ?_
  have z_K11 : h0.size ≤ h11.size := K11.1
  obtain ⟨ba12, rfl, rfl, V12⟩ := Q11
  have gz12 := (G11 ba12 (List.mem_cons_self ..)).1
  have ne_ca_ba12 : ca ≠ ba12 := by omega
  have lt_ba12 : ba12 < h11.size := V12.lt
  refine g_astoreN (pc' := 5) (Ls' := #[.val (.ref ca), .val (.int (0 : Int32)), .val (.int cs.length.toInt32), .val (.ref ba12), .unset]) W11.here hx (hb hby d_jdk_52_14_4) rfl rfl rfl ?_
  refine g_iconst (0 : Int32) (pc' := 6) W11.here hx (hb hby d_jdk_52_14_5) rfl rfl ?_
  refine g_istore (pc' := 8) (Ls' := #[.val (.ref ca), .val (.int (0 : Int32)), .val (.int cs.length.toInt32), .val (.ref ba12), .val (.int (0 : Int32))]) W11.here hx (hb hby d_jdk_52_14_6) rfl rfl ?_
  obtain ⟨ba, hba⟩ : ∃ z : Nat, z = ba12 := ⟨_, rfl⟩
  have hzb : Z.heap.size ≤ ba := by have := O.1; omega
  obtain ⟨bs, hbs⟩ : ∃ z : List Value, z = List.replicate (2 * cs.length) (.int 0) := ⟨_, rfl⟩
  have hbl : bs.length = 2 * cs.length := by rw [hbs]; simp
  have hneb : ca ≠ ba := by omega
  have c13 := (VA.keep K11 nin0)
  have LOOP : ∀ (k i : Nat), i + k = cs.length → ∀ (TL : State) (hL : Heap), Wk p l e ({ frames := 2, cells := 1, slots := 10, locals := 24 } : Room) s m #[(.ref ca), (.int (0 : Int32)), (.int cs.length.toInt32)] below meth c Z consts_1 "java/lang/StringUTF16" [] [ba] TL hL 1 10 → Keep h11 hL [ba] → Ary Z hL ba .byte (utfB (cs.take i) ++ bs.drop (2 * i)) → Gets p.tables e below (Post s Z consts_1 ({ frames := 2, cells := 1, slots := 10, locals := 24 } : Room) h0 [] (fun v h => ∃ ba : Nat, v = some (.ref ba) ∧ h0.size ≤ ba ∧ Ary Z h ba .byte (utfB cs))) TL (mkF m 8 #[.val (.ref ca), .val (.int i.toInt32), .val (.int cs.length.toInt32), .val (.ref ba), .val (.int i.toInt32)] []) := by
    intro k
    induction k with
    | zero =>
      intro i hi TL hL WL KL VBL
      have VAL := (c13).keep KL (ninS hneb nin0)
      refine g_iload (pc' := 10) WL.here hx (hb hby d_jdk_52_14_8) rfl rfl ?_
      refine g_iloadN (pc' := 11) WL.here hx (hb hby d_jdk_52_14_10) rfl rfl ?_
      refine g_icmpY (pc' := 32) WL.here hx (hb hby d_jdk_52_14_11) rfl (flt (show ¬ (i.toInt32 < cs.length.toInt32) from (own_nltn (by omega) (by omega)))).2.1 ?_
      refine g_aloadN (pc' := 33) WL.here hx (hb hby d_jdk_52_14_32) rfl rfl rfl ?_
      refine w_retA WL hx hh hlk hret rfl rfl (hb hby d_jdk_52_14_33) (Nat.le_of_ble_eq_true rfl) (Nat.le_of_ble_eq_true rfl) ?_
      have e1 : i = cs.length := by omega
      subst e1
      rw [List.take_length, List.drop_eq_nil_of_le (by omega), List.append_nil] at VBL
      exact ⟨_, rfl, by omega, VBL⟩
    | succ k ih =>
      intro i hi TL hL WL KL VBL
      have VAL := (c13).keep KL (ninS hneb nin0)
      obtain ⟨ci, hci⟩ : ∃ ci, cs[i]? = some ci := ⟨_, List.getElem?_eq_getElem (by omega)⟩
      refine g_iload (pc' := 10) WL.here hx (hb hby d_jdk_52_14_8) rfl rfl ?_
      refine g_iloadN (pc' := 11) WL.here hx (hb hby d_jdk_52_14_10) rfl rfl ?_
      refine g_icmpN (pc' := 14) WL.here hx (hb hby d_jdk_52_14_11) rfl (tlt (show i.toInt32 < cs.length.toInt32 from (own_ltn (by omega) (by omega)))).2.1 ?_
      refine g_aloadN (pc' := 15) WL.here hx (hb hby d_jdk_52_14_14) rfl rfl rfl ?_
      refine g_iload (pc' := 17) WL.here hx (hb hby d_jdk_52_14_15) rfl rfl ?_
      refine g_aloadN (pc' := 18) WL.here hx (hb hby d_jdk_52_14_17) rfl rfl rfl ?_
      refine g_iloadN (pc' := 19) WL.here hx (hb hby d_jdk_52_14_18) rfl rfl ?_
      refine w_caload (pc' := 20) (v := (.int ci)) WL hx VAL (own_nneg (by omega)) (by rw [i32_nat (by omega), List.getElem?_map, hci]; rfl) (hb hby d_jdk_52_14_19) rfl ?_
      refine w_callS (pc' := 23) (st := []) (y := (⟨"java/lang/StringUTF16", "putChar", "([BII)V"⟩ : MethodName)) WL hx [(.ref ba), (.int i.toInt32), (.int ci)] (hw _ (List.mem_of_getElem? w_62)) (hw _ (List.mem_of_getElem? w_63)) (hw _ (List.mem_of_getElem? w_46)) (hw _ (List.mem_of_getElem? w_64)) (by decide) (c_putChar l Z a0 hw hE cc fm ba i ci _ hL WL.old G GU VBL (by rw [List.length_append, own_ulen, List.length_take, List.length_drop]; omega) (by rw [List.length_append, own_ulen, List.length_take, List.length_drop]; omega) hzb) (allS (List.mem_of_getElem? (i := 0) rfl) all0) (by rw [hml]; rfl) (lenOf pd_2 rfl) rfl (hb hby d_jdk_52_14_20) (Nat.le_of_ble_eq_true rfl) (Nat.le_of_ble_eq_true rfl) (Nat.le_of_ble_eq_true rfl) (Nat.le_of_ble_eq_true rfl) rfl fun v14 T14 h14 W14 K14 Q14 => ?_
      have z_K14 : hL.size ≤ h14.size := K14.1
      obtain ⟨rfl, V15⟩ := Q14
      rw [own_ufill hbl hci] at V15
      refine g_iincV (i + 1).toInt32 (pc' := 26) (Ls' := #[.val (.ref ca), .val (.int (i + 1).toInt32), .val (.int cs.length.toInt32), .val (.ref ba), .val (.int i.toInt32)]) W14.here hx (hb hby d_jdk_52_14_23) (own_succ i) rfl rfl rfl ?_
      refine g_iincV (i + 1).toInt32 (pc' := 29) (Ls' := #[.val (.ref ca), .val (.int (i + 1).toInt32), .val (.int cs.length.toInt32), .val (.ref ba), .val (.int (i + 1).toInt32)]) W14.here hx (hb hby d_jdk_52_14_26) (own_succ i) rfl rfl rfl ?_
      refine g_goto (pc' := 8) W14.here hx (hb hby d_jdk_52_14_29) rfl ?_
      exact ih (i + 1) (by omega) _ _ W14 (KL.trans K14 (fun x q => Or.inl q)) V15
  rw [← hba] at V12 W11 ⊢
  rw [← hbs] at V12
  exact LOOP cs.length 0 (by omega) _ _ W11 (Keep.refl _ _) (by simpa [utfB] using V12)
theorem own_pre1 {cs : List Int32} {i : Nat} {ci : Int32} (H : ∀ c ∈ cs.take i, ¬ (255 : Int32) < c) (hc : cs[i]? = some ci) (q : ¬ (255 : Int32) < ci) : ∀ c ∈ cs.take (i + 1), ¬ (255 : Int32) < c := fun c hm => by
  rw [List.take_add_one, hc] at hm
  rcases List.mem_append.mp hm with z | z
  · exact H c z
  · simp at z; rw [z]; exact q
set_option maxRecDepth 65536 in
set_option maxHeartbeats 40000000 in
theorem c_compr (l : Launch) (Z : State) (a0 : Array Value) (hw : ∀ d ∈ tables_1, d.before a0 Z = true) (hE : EW Z a0 consts_1) (ca ba : Nat) (cs : List Int32) (bs : List Value) (h0 : Heap) (O : Ext Z.heap h0) (hn : cs.length ≤ 5) (hch : ∀ c ∈ cs, 0 ≤ c.toInt ∧ c.toInt < 65536) (VA : Ary Z h0 ca .char (cs.map Value.int)) (VB : Ary Z h0 ba .byte bs) (hbl : bs.length = cs.length) (hne : ca ≠ ba) (hz : Z.heap.size ≤ ba) :
    Con l Z consts_1 (⟨"java/lang/StringUTF16", "compress", "([CI[BII)I"⟩ : MethodName) jdk_52_method_21_code 7 (Option.some Jvm.ClassFile.FieldType.int) ({ frames := 0, cells := 0, slots := 0, locals := 0 } : Room) #[(.ref ca), (.int (0 : Int32)), (.ref ba), (.int (0 : Int32)), (.int cs.length.toInt32)] h0 [ba] (fun v h => (v = some (.int cs.length.toInt32) ∧ (∀ c ∈ cs, ¬ (255 : Int32) < c) ∧ Ary Z h ba .byte (cs.map latB)) ∨ (∃ (i : Nat) (ci : Int32), i < cs.length ∧ cs[i]? = some ci ∧ (255 : Int32) < ci ∧ v = some (.int i.toInt32))) := by
  refine Con.of (a0 := a0) #[.val (.ref ca), .val (.int (0 : Int32)), .val (.ref ba), .val (.int (0 : Int32)), .val (.int cs.length.toInt32), .unset, .unset] (plainFor_of_name pn_0) hE O (allS ⟨hz, VB.lt⟩ all0) (fun m => by first | (simp [entryFrame, mkF, argsToLocals, Value.category]; done) | rfl) ?_
  intro p e s m below meth c T0 hx hby hml hnm hret hlk hh W0
  have hn31 : cs.length < 2 ^ 29 := by omega
  refine g_iconst (0 : Int32) (pc' := 1) W0.here hx (hb hby d_jdk_52_21_0) rfl rfl ?_
  refine g_istore (pc' := 3) (Ls' := #[.val (.ref ca), .val (.int (0 : Int32)), .val (.ref ba), .val (.int (0 : Int32)), .val (.int cs.length.toInt32), .val (.int (0 : Int32)), .unset]) W0.here hx (hb hby d_jdk_52_21_1) rfl rfl ?_
  have LOOP : ∀ (k i : Nat), i + k = cs.length → ∀ (TL : State) (hL : Heap) (o6 : Slot), One o6 → Wk p l e ({ frames := 0, cells := 0, slots := 0, locals := 0 } : Room) s m #[(.ref ca), (.int (0 : Int32)), (.ref ba), (.int (0 : Int32)), (.int cs.length.toInt32)] below meth c Z consts_1 "java/lang/StringUTF16" [ba] [] TL hL 0 0 → Keep h0 hL [ba] → Ary Z hL ba .byte ((cs.take i).map latB ++ bs.drop i) → (∀ c ∈ cs.take i, ¬ (255 : Int32) < c) → Gets p.tables e below (Post s Z consts_1 ({ frames := 0, cells := 0, slots := 0, locals := 0 } : Room) h0 [ba] (fun v h => (v = some (.int cs.length.toInt32) ∧ (∀ c ∈ cs, ¬ (255 : Int32) < c) ∧ Ary Z h ba .byte (cs.map latB)) ∨ (∃ (i : Nat) (ci : Int32), i < cs.length ∧ cs[i]? = some ci ∧ (255 : Int32) < ci ∧ v = some (.int i.toInt32)))) TL (mkF m 3 #[.val (.ref ca), .val (.int i.toInt32), .val (.ref ba), .val (.int i.toInt32), .val (.int cs.length.toInt32), .val (.int i.toInt32), o6] []) := by
    intro k
    induction k with
    | zero =>
      intro i hi TL hL o6 ho6 WL KL VBL HP
      have VAL := VA.keep KL (ninS hne nin0)
      refine g_iload (pc' := 5) WL.here hx (hb hby d_jdk_52_21_3) rfl rfl ?_
      refine g_iload (pc' := 7) WL.here hx (hb hby d_jdk_52_21_5) rfl rfl ?_
      refine g_icmpY (pc' := 44) WL.here hx (hb hby d_jdk_52_21_7) rfl (flt (show ¬ (i.toInt32 < cs.length.toInt32) from (own_nltn (by omega) (by omega)))).2.1 ?_
      refine g_iload (pc' := 46) WL.here hx (hb hby d_jdk_52_21_44) rfl rfl ?_
      refine w_retI WL hx hh hlk hret (hb hby d_jdk_52_21_46) (Nat.le_of_ble_eq_true rfl) (Nat.le_of_ble_eq_true rfl) ?_
      have e1 : i = cs.length := by omega
      subst e1
      rw [List.take_length] at HP VBL
      rw [List.drop_eq_nil_of_le (by omega), List.append_nil] at VBL
      exact Or.inl ⟨rfl, HP, VBL⟩
    | succ k ih =>
      intro i hi TL hL o6 ho6 WL KL VBL HP
      have VAL := VA.keep KL (ninS hne nin0)
      have hi2 : i < cs.length := by omega
      obtain ⟨ci, hci⟩ : ∃ ci, cs[i]? = some ci := ⟨_, List.getElem?_eq_getElem hi2⟩
      refine g_iload (pc' := 5) WL.here hx (hb hby d_jdk_52_21_3) rfl rfl ?_
      refine g_iload (pc' := 7) WL.here hx (hb hby d_jdk_52_21_5) rfl rfl ?_
      refine g_icmpN (pc' := 10) WL.here hx (hb hby d_jdk_52_21_7) rfl (tlt (show i.toInt32 < cs.length.toInt32 from (own_ltn hi2 (by omega)))).2.1 ?_
      refine g_aloadN (pc' := 11) WL.here hx (hb hby d_jdk_52_21_10) rfl rfl rfl ?_
      refine g_iloadN (pc' := 12) WL.here hx (hb hby d_jdk_52_21_11) rfl rfl ?_
      refine w_caload (pc' := 13) (v := (.int ci)) WL hx VAL (own_nneg (by omega)) (by rw [i32_nat (by omega), List.getElem?_map, hci]; rfl) (hb hby d_jdk_52_21_12) rfl ?_
      refine g_istore (pc' := 15) (Ls' := #[.val (.ref ca), .val (.int i.toInt32), .val (.ref ba), .val (.int i.toInt32), .val (.int cs.length.toInt32), .val (.int i.toInt32), .val (.int ci)]) WL.here hx (hb hby d_jdk_52_21_13) (XS.store1 (o := o6) rfl ho6 rfl) rfl ?_
      refine g_iload (pc' := 17) WL.here hx (hb hby d_jdk_52_21_15) rfl rfl ?_
      refine g_sipush (255 : Int32) (pc' := 20) WL.here hx (hb hby d_jdk_52_21_17) rfl rfl ?_
      by_cases hc20_16 : (255 : Int32) < ci
      · refine g_icmpN (pc' := 23) WL.here hx (hb hby d_jdk_52_21_20) rfl (tlt hc20_16).2.2.2 ?_
        refine g_iload (pc' := 25) WL.here hx (hb hby d_jdk_52_21_23) rfl rfl ?_
        refine w_retI WL hx hh hlk hret (hb hby d_jdk_52_21_25) (Nat.le_of_ble_eq_true rfl) (Nat.le_of_ble_eq_true rfl) ?_
        exact Or.inr ⟨i, ci, hi2, hci, hc20_16, rfl⟩
      · refine g_icmpY (pc' := 26) WL.here hx (hb hby d_jdk_52_21_20) rfl (flt hc20_16).2.2.2 ?_
        refine g_aloadN (pc' := 27) WL.here hx (hb hby d_jdk_52_21_26) rfl rfl rfl ?_
        refine g_iloadN (pc' := 28) WL.here hx (hb hby d_jdk_52_21_27) rfl rfl ?_
        refine g_iload (pc' := 30) WL.here hx (hb hby d_jdk_52_21_28) rfl rfl ?_
        refine g_i2b (pc' := 31) WL.here hx (hb hby d_jdk_52_21_30) rfl ?_
        refine w_bastore (pc' := 32) (x' := ci.toInt8.toInt32) WL hx VBL (own_nneg (by omega)) (by rw [i32_nat (by omega)]; simp; omega) (List.mem_of_getElem? (i := 0) rfl) (own_b8 ci) (hb hby d_jdk_52_21_31) rfl fun T17 h17 W17 K17 V17 => ?_
        have z_K17 : hL.size ≤ h17.size := K17.1
        have V17 : Ary Z h17 ba .byte ((cs.take (i + 1)).map latB ++ bs.drop (i + 1)) := by rw [i32_nat (by omega)] at V17; rw [← own_fill hbl hci]; exact V17
        refine g_iincV (i + 1).toInt32 (pc' := 35) (Ls' := #[.val (.ref ca), .val (.int (i + 1).toInt32), .val (.ref ba), .val (.int i.toInt32), .val (.int cs.length.toInt32), .val (.int i.toInt32), .val (.int ci)]) W17.here hx (hb hby d_jdk_52_21_32) (own_succ i) rfl rfl rfl ?_
        refine g_iincV (i + 1).toInt32 (pc' := 38) (Ls' := #[.val (.ref ca), .val (.int (i + 1).toInt32), .val (.ref ba), .val (.int (i + 1).toInt32), .val (.int cs.length.toInt32), .val (.int i.toInt32), .val (.int ci)]) W17.here hx (hb hby d_jdk_52_21_35) (own_succ i) rfl rfl rfl ?_
        refine g_iincV (i + 1).toInt32 (pc' := 41) (Ls' := #[.val (.ref ca), .val (.int (i + 1).toInt32), .val (.ref ba), .val (.int (i + 1).toInt32), .val (.int cs.length.toInt32), .val (.int (i + 1).toInt32), .val (.int ci)]) W17.here hx (hb hby d_jdk_52_21_38) (own_succ i) rfl rfl rfl ?_
        refine g_goto (pc' := 3) W17.here hx (hb hby d_jdk_52_21_41) rfl ?_
        exact ih (i + 1) (by omega) _ _ _ (One.val rfl) W17 (KL.trans K17 (fun x q => Or.inl q)) V17 (own_pre1 HP hci hc20_16)
  exact LOOP cs.length 0 (by omega) _ _ _ One.u W0 (Keep.refl _ _) (by simpa using VB) (by simp)
theorem own_n32 {n k : Nat} (hn : n < 2 ^ 31) (hk : k < 2 ^ 31) : n.toInt32 = k.toInt32 ↔ n = k := by
  constructor
  · intro q
    have := congrArg Int32.toInt q
    rw [own_toInt hn, own_toInt hk] at this; omega
  · intro q; rw [q]
set_option maxRecDepth 65536 in
set_option maxHeartbeats 40000000 in
theorem c_compress (l : Launch) (Z : State) (a0 : Array Value) (hw : ∀ d ∈ tables_1, d.before a0 Z = true) (hE : EW Z a0 consts_1) (cc : Int32) (fm : Value) (ca : Nat) (cs : List Int32) (h0 : Heap) (O : Ext Z.heap h0) (G : SEnv Z cc fm) (GU : SEnvU Z) (hn : cs.length ≤ 5) (hch : ∀ c ∈ cs, 0 ≤ c.toInt ∧ c.toInt < 65536) (VA : Ary Z h0 ca .char (cs.map Value.int))  :
    Con l Z consts_1 (⟨"java/lang/StringUTF16", "compress", "([CII)[B"⟩ : MethodName) jdk_52_method_16_code 6 (Option.some (Jvm.ClassFile.FieldType.array Jvm.ClassFile.FieldType.byte)) ({ frames := 3, cells := 2, slots := 15, locals := 40 } : Room) #[(.ref ca), (.int (0 : Int32)), (.int cs.length.toInt32)] h0 [] (fun v h => ∃ (ba : Nat) (bs : List Value), v = some (.ref ba) ∧ h0.size ≤ ba ∧ Ary Z h ba .byte bs ∧ (((∀ c ∈ cs, ¬ (255 : Int32) < c) ∧ bs = cs.map latB) ∨ ((∃ c ∈ cs, (255 : Int32) < c) ∧ bs = utfB cs))) := by
  refine Con.of (a0 := a0) #[.val (.ref ca), .val (.int (0 : Int32)), .val (.int cs.length.toInt32), .unset, .unset, .unset] (plainFor_of_name pn_0) hE O all0 (fun m => by first | (simp [entryFrame, mkF, argsToLocals, Value.category]; done) | rfl) ?_
  intro p e s m below meth c T0 hx hby hml hnm hret hlk hh W0
  have hn31 : cs.length < 2 ^ 29 := by omega
  have lt_ca : ca < h0.size := VA.lt
  refine g_iloadN (pc' := 1) W0.here hx (hb hby d_jdk_52_16_0) rfl rfl ?_
  refine w_newarr (pc' := 3) (cap := 5) W0 hx (hw _ (List.mem_of_getElem? w_48)) (hb hby d_jdk_52_16_1) (own_nneg (by omega)) (by rw [i32_nat (by omega)]; exact hn) (Nat.le_of_ble_eq_true rfl) (Nat.le_of_ble_eq_true rfl) (Nat.le_of_ble_eq_true rfl) rfl rfl fun T18 h18 b18 g18 W18 K18 V18 => ?_
  have z_K18 : h0.size ≤ h18.size := K18.1
  have ne_ca_b18 : ca ≠ b18 := by omega
  have lt_b18 : b18 < h18.size := W18.lt (List.mem_cons_self ..)
  have V19 : Ary Z h18 b18 .byte (List.replicate cs.length (.int 0)) := by rw [i32_nat (by omega)] at V18; exact V18
  refine g_astoreN (pc' := 4) (Ls' := #[.val (.ref ca), .val (.int (0 : Int32)), .val (.int cs.length.toInt32), .val (.ref b18), .unset, .unset]) W18.here hx (hb hby d_jdk_52_16_3) rfl rfl rfl ?_
  refine g_aloadN (pc' := 5) W18.here hx (hb hby d_jdk_52_16_4) rfl rfl rfl ?_
  refine g_iloadN (pc' := 6) W18.here hx (hb hby d_jdk_52_16_5) rfl rfl ?_
  refine g_aloadN (pc' := 7) W18.here hx (hb hby d_jdk_52_16_6) rfl rfl rfl ?_
  refine g_iconst (0 : Int32) (pc' := 8) W18.here hx (hb hby d_jdk_52_16_7) rfl rfl ?_
  refine g_iloadN (pc' := 9) W18.here hx (hb hby d_jdk_52_16_8) rfl rfl ?_
  have c20 := (VA.keep K18 nin0)
  refine w_callS (pc' := 12) (st := []) (y := (⟨"java/lang/StringUTF16", "compress", "([CI[BII)I"⟩ : MethodName)) W18 hx [(.ref ca), (.int (0 : Int32)), (.ref b18), (.int (0 : Int32)), (.int cs.length.toInt32)] (hw _ (List.mem_of_getElem? w_49)) (hw _ (List.mem_of_getElem? w_50)) (hw _ (List.mem_of_getElem? w_46)) (hw _ (List.mem_of_getElem? w_51)) (by decide) (c_compr l Z a0 hw hE ca b18 cs _ h18 W18.old hn hch c20 V19 (by simp) ne_ca_b18 (by have := O.1; omega)) (allS (List.mem_of_getElem? (i := 0) rfl) all0) (by rw [hml]; rfl) (lenOf pd_3 rfl) rfl (hb hby d_jdk_52_16_9) (Nat.le_of_ble_eq_true rfl) (Nat.le_of_ble_eq_true rfl) (Nat.le_of_ble_eq_true rfl) (Nat.le_of_ble_eq_true rfl) rfl fun v21 T21 h21 W21 K21 Q21 => ?_
  have z_K21 : h18.size ≤ h21.size := K21.1
  rcases Q21 with ⟨rfl, hlat, V22⟩ | ⟨gi, gc, hgi, hgc, hbig, rfl⟩
  · have hz9 := hlat
    refine g_istore (pc' := 14) (Ls' := #[.val (.ref ca), .val (.int (0 : Int32)), .val (.int cs.length.toInt32), .val (.ref b18), .val (.int cs.length.toInt32), .unset]) W21.here hx (hb hby d_jdk_52_16_12) rfl rfl ?_
    refine g_iload (pc' := 16) W21.here hx (hb hby d_jdk_52_16_14) rfl rfl ?_
    refine g_iloadN (pc' := 17) W21.here hx (hb hby d_jdk_52_16_16) rfl rfl ?_
    refine g_icmpY (pc' := 57) W21.here hx (hb hby d_jdk_52_16_17) rfl (teq (show cs.length.toInt32 = cs.length.toInt32 from rfl)).1 ?_
    refine g_aloadN (pc' := 58) W21.here hx (hb hby d_jdk_52_16_57) rfl rfl rfl ?_
    refine w_retA W21 hx hh hlk hret rfl rfl (hb hby d_jdk_52_16_58) (Nat.le_of_ble_eq_true rfl) (Nat.le_of_ble_eq_true rfl) ?_
    exact ⟨_, _, rfl, by omega, V22, Or.inl ⟨hlat, rfl⟩⟩
  · have hz9 := hbig
    refine g_istore (pc' := 14) (Ls' := #[.val (.ref ca), .val (.int (0 : Int32)), .val (.int cs.length.toInt32), .val (.ref b18), .val (.int gi.toInt32), .unset]) W21.here hx (hb hby d_jdk_52_16_12) rfl rfl ?_
    refine g_iload (pc' := 16) W21.here hx (hb hby d_jdk_52_16_14) rfl rfl ?_
    refine g_iloadN (pc' := 17) W21.here hx (hb hby d_jdk_52_16_16) rfl rfl ?_
    refine g_icmpN (pc' := 20) W21.here hx (hb hby d_jdk_52_16_17) rfl (feq (show ¬ (gi.toInt32 = cs.length.toInt32) from (fun q => by have := (own_n32 (by omega) (by omega)).mp q; omega))).1 ?_
    refine g_aloadN (pc' := 21) W21.here hx (hb hby d_jdk_52_16_20) rfl rfl rfl ?_
    refine g_iloadN (pc' := 22) W21.here hx (hb hby d_jdk_52_16_21) rfl rfl ?_
    refine g_iloadN (pc' := 23) W21.here hx (hb hby d_jdk_52_16_22) rfl rfl ?_
    have c23 := (c20.keep K21 (ninS ne_ca_b18 nin0))
    refine w_callS (pc' := 26) (st := []) (y := (⟨"java/lang/StringUTF16", "toBytes", "([CII)[B"⟩ : MethodName)) W21 hx [(.ref ca), (.int (0 : Int32)), (.int cs.length.toInt32)] (hw _ (List.mem_of_getElem? w_52)) (hw _ (List.mem_of_getElem? w_53)) (hw _ (List.mem_of_getElem? w_46)) (hw _ (List.mem_of_getElem? w_54)) (by decide) (c_toBytes l Z a0 hw hE cc fm ca cs h21 W21.old G GU hn hch c23) all0 (by rw [hml]; rfl) (lenOf pd_4 rfl) rfl (hb hby d_jdk_52_16_23) (Nat.le_of_ble_eq_true rfl) (Nat.le_of_ble_eq_true rfl) (Nat.le_of_ble_eq_true rfl) (Nat.le_of_ble_eq_true rfl) rfl fun v24 T24 h24 W24 K24 Q24 => ?_
    have z_K24 : h21.size ≤ h24.size := K24.1
    obtain ⟨ba25, rfl, gz25, V25⟩ := Q24
    have ne_ca_ba25 : ca ≠ ba25 := by omega
    have ne_b18_ba25 : b18 ≠ ba25 := by omega
    have lt_ba25 : ba25 < h24.size := V25.lt
    refine g_astore (pc' := 28) (Ls' := #[.val (.ref ca), .val (.int (0 : Int32)), .val (.int cs.length.toInt32), .val (.ref b18), .val (.int gi.toInt32), .val (.ref ba25)]) W24.here hx (hb hby d_jdk_52_16_26) rfl rfl rfl ?_
    refine g_aload (pc' := 30) W24.here hx (hb hby d_jdk_52_16_28) rfl rfl rfl ?_
    refine g_iload (pc' := 32) W24.here hx (hb hby d_jdk_52_16_30) rfl rfl ?_
    refine w_callSp (pc' := 35) (st := []) (y := (⟨"java/lang/StringUTF16", "getChar", "([BI)C"⟩ : MethodName)) W24 hx [(.ref ba25), (.int gi.toInt32)] (hw _ (List.mem_of_getElem? w_68)) (hw _ (List.mem_of_getElem? w_69)) (hw _ (List.mem_of_getElem? w_46)) (hw _ (List.mem_of_getElem? w_70)) (by decide) (c_getChar l Z a0 hw hE cc fm ba25 gi gc _ h24 W24.old G GU V25 (by omega) (own_uget cs gi gc hgc).1 (own_uget cs gi gc hgc).2 (hch gc (List.mem_of_getElem? hgc))) (by rw [hml]; rfl) (lenOf pd_5 rfl) rfl (hb hby d_jdk_52_16_32) (Nat.le_of_ble_eq_true rfl) (Nat.le_of_ble_eq_true rfl) rfl rfl (Nat.le_of_ble_eq_true rfl) (Nat.le_of_ble_eq_true rfl) rfl fun T26 W26 => ?_
    refine g_sipush (255 : Int32) (pc' := 38) W26.here hx (hb hby d_jdk_52_16_35) rfl rfl ?_
    refine g_icmpY (pc' := 54) W26.here hx (hb hby d_jdk_52_16_38) rfl (tlt (show (255 : Int32) < gc from hbig)).2.2.1 ?_
    refine g_aload (pc' := 56) W26.here hx (hb hby d_jdk_52_16_54) rfl rfl rfl ?_
    refine w_retA W26 hx hh hlk hret rfl rfl (hb hby d_jdk_52_16_56) (Nat.le_of_ble_eq_true rfl) (Nat.le_of_ble_eq_true rfl) ?_
    exact ⟨_, _, rfl, by omega, V25, Or.inr ⟨⟨gc, List.mem_of_getElem? hgc, hbig⟩, rfl⟩⟩
set_option maxRecDepth 65536 in
set_option maxHeartbeats 40000000 in
theorem c_coderFromL (l : Launch) (Z : State) (a0 : Array Value) (hw : ∀ d ∈ tables_1, d.before a0 Z = true) (hE : EW Z a0 consts_1) (ba : Nat) (cs : List Int32) (bs : List Value) (h0 : Heap) (O : Ext Z.heap h0) (VB : Ary Z h0 ba .byte bs) (hbl : bs.length = cs.length) (hpos : 0 < cs.length) (hn : cs.length < 2 ^ 29) :
    Con l Z consts_1 (⟨"java/lang/StringUTF16", "coderFromArrayLen", "([BI)B"⟩ : MethodName) jdk_52_method_15_code 2 (Option.some Jvm.ClassFile.FieldType.byte) ({ frames := 0, cells := 0, slots := 0, locals := 0 } : Room) #[(.ref ba), (.int cs.length.toInt32)] h0 [] (pureQ (some (.int 0)) h0) := by
  refine Con.of (a0 := a0) #[.val (.ref ba), .val (.int cs.length.toInt32)] (plainFor_of_name pn_0) hE O all0 (fun m => by first | (simp [entryFrame, mkF, argsToLocals, Value.category]; done) | rfl) ?_
  intro p e s m below meth c T0 hx hby hml hnm hret hlk hh W0
  refine g_iloadN (pc' := 1) W0.here hx (hb hby d_jdk_52_15_0) rfl rfl ?_
  refine g_aloadN (pc' := 2) W0.here hx (hb hby d_jdk_52_15_1) rfl rfl rfl ?_
  refine w_len (pc' := 3) W0 hx VB (hb hby d_jdk_52_15_2) rfl ?_
  refine g_name (w := .int cs.length.toInt32) (congrArg Value.int (by rw [hbl])) ?_
  refine g_isub (pc' := 4) W0.here hx (hb hby d_jdk_52_15_3) rfl ?_
  refine g_bipush (31 : Int32) (pc' := 6) W0.here hx (hb hby d_jdk_52_15_4) rfl rfl ?_
  refine g_iushr (pc' := 7) W0.here hx (hb hby d_jdk_52_15_6) rfl ?_
  refine g_i2b (pc' := 8) W0.here hx (hb hby d_jdk_52_15_7) rfl ?_
  refine w_retN (t := .byte) W0 hx hh hlk hret (by simp) (hb hby d_jdk_52_15_8) (Nat.le_of_ble_eq_true rfl) (Nat.le_of_ble_eq_true rfl) ?_
  exact ⟨congrArg (fun z => some (Value.int z)) (by rw [own_csub]; rfl), rfl⟩
set_option maxRecDepth 65536 in
set_option maxHeartbeats 40000000 in
theorem c_coderFromU (l : Launch) (Z : State) (a0 : Array Value) (hw : ∀ d ∈ tables_1, d.before a0 Z = true) (hE : EW Z a0 consts_1) (ba : Nat) (cs : List Int32) (bs : List Value) (h0 : Heap) (O : Ext Z.heap h0) (VB : Ary Z h0 ba .byte bs) (hbl : bs.length = 2 * cs.length) (hpos : 0 < cs.length) (hn : cs.length < 2 ^ 29) :
    Con l Z consts_1 (⟨"java/lang/StringUTF16", "coderFromArrayLen", "([BI)B"⟩ : MethodName) jdk_52_method_15_code 2 (Option.some Jvm.ClassFile.FieldType.byte) ({ frames := 0, cells := 0, slots := 0, locals := 0 } : Room) #[(.ref ba), (.int cs.length.toInt32)] h0 [] (pureQ (some (.int 1)) h0) := by
  refine Con.of (a0 := a0) #[.val (.ref ba), .val (.int cs.length.toInt32)] (plainFor_of_name pn_0) hE O all0 (fun m => by first | (simp [entryFrame, mkF, argsToLocals, Value.category]; done) | rfl) ?_
  intro p e s m below meth c T0 hx hby hml hnm hret hlk hh W0
  refine g_iloadN (pc' := 1) W0.here hx (hb hby d_jdk_52_15_0) rfl rfl ?_
  refine g_aloadN (pc' := 2) W0.here hx (hb hby d_jdk_52_15_1) rfl rfl rfl ?_
  refine w_len (pc' := 3) W0 hx VB (hb hby d_jdk_52_15_2) rfl ?_
  refine g_name (w := .int (2 * cs.length).toInt32) (congrArg Value.int (by rw [hbl])) ?_
  refine g_isub (pc' := 4) W0.here hx (hb hby d_jdk_52_15_3) rfl ?_
  refine g_bipush (31 : Int32) (pc' := 6) W0.here hx (hb hby d_jdk_52_15_4) rfl rfl ?_
  refine g_iushr (pc' := 7) W0.here hx (hb hby d_jdk_52_15_6) rfl ?_
  refine g_i2b (pc' := 8) W0.here hx (hb hby d_jdk_52_15_7) rfl ?_
  refine w_retN (t := .byte) W0 hx hh hlk hret (by simp) (hb hby d_jdk_52_15_8) (Nat.le_of_ble_eq_true rfl) (Nat.le_of_ble_eq_true rfl) ?_
  exact ⟨congrArg (fun z => some (Value.int z)) (by rw [own_csub1 hpos hn]; rfl), rfl⟩
theorem own_pos0 {n : Nat} (h : 0 < n) (hn : n < 2 ^ 31) : ¬ n.toInt32 = 0 := fun q => by
  have := congrArg Int32.toInt q
  rw [own_toInt hn] at this
  simp at this; omega
theorem own_nil {cs : List Int32} (hn : cs.length < 2 ^ 31) (q : cs.length.toInt32 = (0 : Int32)) : cs = [] := by
  cases cs with
  | nil => rfl
  | cons a t => exact absurd q (own_pos0 (by simp) hn)
theorem own_lat2 {cs : List Int32} (h : ∀ c ∈ cs, 0 ≤ c.toInt ∧ c.toInt < 65536) (q : ∀ c ∈ cs, ¬ (255 : Int32) < c) : ∀ c ∈ cs, 0 ≤ c.toInt ∧ c.toInt ≤ 255 := fun c hc => by
  have a := h c hc
  have b := q c hc
  rw [Int32.lt_iff_toInt_lt] at b
  have e : (255 : Int32).toInt = 255 := rfl
  omega
theorem own_atoms {Z : State} {a0 : Array Value} (hw : ∀ d ∈ tables_1, d.before a0 Z = true) : ∀ a ∈ Bundle.stringAtoms, a.before a0 Z = true := fun d hd => by
  simp only [Bundle.stringAtoms, Bundle.sN, List.mem_cons, List.not_mem_nil, or_false] at hd
  rcases hd with rfl | rfl | rfl | rfl | rfl | rfl | rfl
  · exact (hw _ (List.mem_of_getElem? w_32))
  · exact (hw _ (List.mem_of_getElem? w_31))
  · exact (hw _ (List.mem_of_getElem? w_48))
  · exact (hw _ (List.mem_of_getElem? w_77))
  · exact (hw _ (List.mem_of_getElem? w_75))
  · exact (hw _ (List.mem_of_getElem? w_79))
  · exact (hw _ (List.mem_of_getElem? w_80))
set_option maxRecDepth 65536 in
set_option maxHeartbeats 40000000 in
theorem c_str4 (l : Launch) (Z : State) (a0 : Array Value) (hw : ∀ d ∈ tables_1, d.before a0 Z = true) (hE : EW Z a0 consts_1) (cc : Int32) (fm : Value) (o ca : Nat) (cs : List Int32) (h0 : Heap) (O : Ext Z.heap h0) (G : SEnv Z cc fm) (GU : SEnvU Z) (hn : cs.length ≤ 5) (hch : ∀ c ∈ cs, 0 ≤ c.toInt ∧ c.toInt < 65536) (VA : Ary Z h0 ca .char (cs.map Value.int)) (hz : Z.heap.size ≤ o) (E0 : Exa Z h0 o "java/lang/String") (u1 u2 : Value) (F1 : Fld Z h0 o "java/lang/String" "coder" "B" u1) (F2 : Fld Z h0 o "java/lang/String" "value" "[B" u2) (hoc : o ≠ ca)  :
    Con l Z consts_1 (⟨"java/lang/String", "<init>", "([CIILjava/lang/Void;)V"⟩ : MethodName) jdk_42_method_149_code 6 (Option.none : Option Jvm.ClassFile.FieldType) ({ frames := 4, cells := 4, slots := 15, locals := 57 } : Room) #[(.ref o), (.ref ca), (.int (0 : Int32)), (.int cs.length.toInt32), .null] h0 [o] (fun v h => v = none ∧ ∃ b : Nat, SG Z h o b cs) := by
  refine Con.of (a0 := a0) #[.val (.ref o), .val (.ref ca), .val (.int (0 : Int32)), .val (.int cs.length.toInt32), .val .null, .unset] (plainFor_of_name pn_1) hE O (allS ⟨hz, E0.lt⟩ all0) (fun m => by first | (simp [entryFrame, mkF, argsToLocals, Value.category]; done) | rfl) ?_
  intro p e s m below meth c T0 hx hby hml hnm hret hlk hh W0
  have hn31 : cs.length < 2 ^ 29 := by omega
  have lt_ca : ca < h0.size := VA.lt
  have lt_o : o < h0.size := E0.lt
  refine g_aloadN (pc' := 1) W0.here hx (hb hby d_jdk_42_149_0) rfl rfl rfl ?_
  refine w_initO (pc' := 4) W0 hx (hw _ (List.mem_of_getElem? w_40)) (hw _ (List.mem_of_getElem? w_41)) (hw _ (List.mem_of_getElem? w_42)) (by rw [hml]; rfl) (hb hby d_jdk_42_149_1) (Nat.le_of_ble_eq_true rfl) (Nat.le_of_ble_eq_true rfl) rfl fun T27 W27 => ?_
  refine g_iloadN (pc' := 5) W27.here hx (hb hby d_jdk_42_149_4) rfl rfl ?_
  by_cases hc5_28 : cs.length.toInt32 = (0 : Int32)
  · refine g_ifN (pc' := 8) W27.here hx (hb hby d_jdk_42_149_5) rfl (teq hc5_28).2 ?_
    have e0 : cs = [] := own_nil (by omega) hc5_28
    refine g_aloadN (pc' := 9) W27.here hx (hb hby d_jdk_42_149_8) rfl rfl rfl ?_
    refine w_ldcS (pc' := 11) (vs := []) (z := 0) W27 hx (hw _ (List.mem_of_getElem? w_78)) (own_atoms hw) (List.mem_of_getElem? (i := 0) rfl) ⟨fun _ q => (nomatch q), rfl⟩ (by decide) rfl (hb hby d_jdk_42_149_9) 0 (Nat.le_of_ble_eq_true rfl) (Nat.le_of_ble_eq_true rfl) (Nat.le_of_ble_eq_true rfl) (Nat.le_of_ble_eq_true rfl) rfl fun T29 h29 sa29 sb29 W29 K29 A29 C29 F29 V29 N29 => ?_
    have z_K29 : h0.size ≤ h29.size := K29.1
    obtain ⟨ne_o_sa29, ne_o_sb29⟩ := N29 o (List.mem_of_getElem? (i := 0) rfl)
    refine w_get (pc' := 14) W29 hx (hw _ (List.mem_of_getElem? w_76)) Via.refl F29 (hb hby d_jdk_42_149_11) rfl fun T30 W30 => ?_
    have c31 := (F2.keep K29 nin0)
    have c32 := (E0.keep K29)
    refine w_put (pc' := 17) W30 hx (hw _ (List.mem_of_getElem? w_76)) Via.refl c31 c32 (Or.inr ⟨(hw _ (List.mem_of_getElem? w_77)), rfl, hnm⟩) (hw _ (List.mem_of_getElem? w_31)) (ty := (.array .byte)) (by decide) rfl rfl (List.mem_of_getElem? (i := 0) rfl) (hb hby d_jdk_42_149_14) rfl fun T33 h33 W33 K33 R33 F33 A33 => ?_
    have c34 := (F1.keep K29 nin0)
    have z_K33 : h29.size ≤ h33.size := K33.1
    have c35 := (c34.other R33 (Or.inr (slot_ne (Or.inr (hw _ (List.mem_of_getElem? w_75))) (Or.inr (hw _ (List.mem_of_getElem? w_77))) (by decide) (t := .byte) (t' := (.array .byte)) (by decide) (by decide))))
    refine g_aloadN (pc' := 18) W33.here hx (hb hby d_jdk_42_149_17) rfl rfl rfl ?_
    refine w_ldcS (pc' := 20) (vs := []) (z := 0) W33 hx (hw _ (List.mem_of_getElem? w_78)) (own_atoms hw) (List.mem_of_getElem? (i := 0) rfl) ⟨fun _ q => (nomatch q), rfl⟩ (by decide) rfl (hb hby d_jdk_42_149_18) 0 (Nat.le_of_ble_eq_true rfl) (Nat.le_of_ble_eq_true rfl) (Nat.le_of_ble_eq_true rfl) (Nat.le_of_ble_eq_true rfl) rfl fun T36 h36 sa36 sb36 W36 K36 A36 C36 F36 V36 N36 => ?_
    have z_K36 : h33.size ≤ h36.size := K36.1
    obtain ⟨ne_o_sa36, ne_o_sb36⟩ := N36 o (List.mem_of_getElem? (i := 0) rfl)
    refine w_get (pc' := 23) W36 hx (hw _ (List.mem_of_getElem? w_74)) Via.refl C36 (hb hby d_jdk_42_149_20) rfl fun T37 W37 => ?_
    have c38 := (c35.keep K36 nin0)
    have c39 := (A33.keep K36)
    refine w_putN (pc' := 26) (v' := (.int (0 : Int32))) W37 hx (hw _ (List.mem_of_getElem? w_74)) Via.refl c38 c39 (Or.inr ⟨(hw _ (List.mem_of_getElem? w_75)), rfl, hnm⟩) (hw _ (List.mem_of_getElem? w_31)) (ty := .byte) (by decide) rfl rfl (List.mem_of_getElem? (i := 0) rfl) (hb hby d_jdk_42_149_23) rfl fun T40 h40 W40 K40 R40 F40 A40 => ?_
    have c41 := (F33.keep K36 nin0)
    have z_K40 : h36.size ≤ h40.size := K40.1
    have c42 := (c41.other R40 (Or.inr (slot_ne (Or.inr (hw _ (List.mem_of_getElem? w_77))) (Or.inr (hw _ (List.mem_of_getElem? w_75))) (by decide) (t := (.array .byte)) (t' := .byte) (by decide) (by decide))))
    have c43 := (((V29.keep K33 (ninS (Ne.symm ne_o_sb29) nin0)).keep K36 nin0).keep K40 (ninS (Ne.symm ne_o_sb29) nin0))
    refine w_retV W40 hx hh hlk hret (hb hby d_jdk_42_149_26) (Nat.le_of_ble_eq_true rfl) (Nat.le_of_ble_eq_true rfl) ?_
    refine ⟨rfl, sb29, Or.inl ⟨A40, F40, c42, ?_, by rw [e0]; exact own_all0⟩⟩
    rw [e0]; exact c43
  · refine g_ifY (pc' := 27) W27.here hx (hb hby d_jdk_42_149_5) rfl (feq hc5_28).2 ?_
    have hpos : 0 < cs.length := by rcases Nat.eq_zero_or_pos cs.length with q | q; exact absurd (by rw [q]; rfl) hc5_28; exact q
    refine w_getS (pc' := 30) W27 hx (hw _ (List.mem_of_getElem? w_43)) Via.refl G.1 (hb hby d_jdk_42_149_27) rfl fun T44 W44 => ?_
    refine g_ifN (pc' := 33) W44.here hx (hb hby d_jdk_42_149_30) rfl (feq (show ¬ (cc = (0 : Int32)) from G.2.1)).1 ?_
    refine g_aloadN (pc' := 34) W44.here hx (hb hby d_jdk_42_149_33) rfl rfl rfl ?_
    refine g_iloadN (pc' := 35) W44.here hx (hb hby d_jdk_42_149_34) rfl rfl ?_
    refine g_iloadN (pc' := 36) W44.here hx (hb hby d_jdk_42_149_35) rfl rfl ?_
    refine w_callS (pc' := 39) (st := []) (y := (⟨"java/lang/StringUTF16", "compress", "([CII)[B"⟩ : MethodName)) W44 hx [(.ref ca), (.int (0 : Int32)), (.int cs.length.toInt32)] (hw _ (List.mem_of_getElem? w_44)) (hw _ (List.mem_of_getElem? w_45)) (hw _ (List.mem_of_getElem? w_46)) (hw _ (List.mem_of_getElem? w_47)) (by decide) (c_compress l Z a0 hw hE cc fm ca cs h0 W44.old G GU hn hch VA) all0 (by rw [hml]; rfl) (lenOf pd_4 rfl) rfl (hb hby d_jdk_42_149_36) (Nat.le_of_ble_eq_true rfl) (Nat.le_of_ble_eq_true rfl) (Nat.le_of_ble_eq_true rfl) (Nat.le_of_ble_eq_true rfl) rfl fun v45 T45 h45 W45 K45 Q45 => ?_
    have z_K45 : h0.size ≤ h45.size := K45.1
    obtain ⟨ba46, bs, rfl, gz46, V46, hcase⟩ := Q45
    have ne_ca_ba46 : ca ≠ ba46 := by omega
    have ne_o_ba46 : o ≠ ba46 := by omega
    have lt_ba46 : ba46 < h45.size := V46.lt
    rcases hcase with ⟨hlat, rfl⟩ | ⟨hbig, rfl⟩
    · have hz8 := hlat
      refine g_astore (pc' := 41) (Ls' := #[.val (.ref o), .val (.ref ca), .val (.int (0 : Int32)), .val (.int cs.length.toInt32), .val .null, .val (.ref ba46)]) W45.here hx (hb hby d_jdk_42_149_39) rfl rfl rfl ?_
      refine g_aloadN (pc' := 42) W45.here hx (hb hby d_jdk_42_149_41) rfl rfl rfl ?_
      refine g_aload (pc' := 44) W45.here hx (hb hby d_jdk_42_149_42) rfl rfl rfl ?_
      refine g_iloadN (pc' := 45) W45.here hx (hb hby d_jdk_42_149_44) rfl rfl ?_
      refine w_callSp (pc' := 48) (st := [(.ref o)]) (y := (⟨"java/lang/StringUTF16", "coderFromArrayLen", "([BI)B"⟩ : MethodName)) W45 hx [(.ref ba46), (.int cs.length.toInt32)] (hw _ (List.mem_of_getElem? w_71)) (hw _ (List.mem_of_getElem? w_72)) (hw _ (List.mem_of_getElem? w_46)) (hw _ (List.mem_of_getElem? w_73)) (by decide) (c_coderFromL l Z a0 hw hE ba46 cs _ h45 W45.old V46 (by simp) hpos hn31) (by rw [hml]; rfl) (lenOf pd_6 rfl) rfl (hb hby d_jdk_42_149_45) (Nat.le_of_ble_eq_true rfl) (Nat.le_of_ble_eq_true rfl) rfl rfl (Nat.le_of_ble_eq_true rfl) (Nat.le_of_ble_eq_true rfl) rfl fun T47 W47 => ?_
      have c48 := (F1.keep K45 nin0)
      have c49 := (E0.keep K45)
      refine w_putN (pc' := 51) (v' := (.int (0 : Int32))) W47 hx (hw _ (List.mem_of_getElem? w_74)) Via.refl c48 c49 (Or.inr ⟨(hw _ (List.mem_of_getElem? w_75)), rfl, hnm⟩) (hw _ (List.mem_of_getElem? w_31)) (ty := .byte) (by decide) rfl rfl (List.mem_of_getElem? (i := 0) rfl) (hb hby d_jdk_42_149_48) rfl fun T50 h50 W50 K50 R50 F50 A50 => ?_
      have c51 := (F2.keep K45 nin0)
      have z_K50 : h45.size ≤ h50.size := K50.1
      have c52 := (c51.other R50 (Or.inr (slot_ne (Or.inr (hw _ (List.mem_of_getElem? w_77))) (Or.inr (hw _ (List.mem_of_getElem? w_75))) (by decide) (t := (.array .byte)) (t' := .byte) (by decide) (by decide))))
      refine g_aloadN (pc' := 52) W50.here hx (hb hby d_jdk_42_149_51) rfl rfl rfl ?_
      refine g_aload (pc' := 54) W50.here hx (hb hby d_jdk_42_149_52) rfl rfl rfl ?_
      refine w_put (pc' := 57) W50 hx (hw _ (List.mem_of_getElem? w_76)) Via.refl c52 A50 (Or.inr ⟨(hw _ (List.mem_of_getElem? w_77)), rfl, hnm⟩) (hw _ (List.mem_of_getElem? w_31)) (ty := (.array .byte)) (by decide) rfl rfl (List.mem_of_getElem? (i := 0) rfl) (hb hby d_jdk_42_149_54) rfl fun T53 h53 W53 K53 R53 F53 A53 => ?_
      have z_K53 : h50.size ≤ h53.size := K53.1
      have c54 := (F50.other R53 (Or.inr (slot_ne (Or.inr (hw _ (List.mem_of_getElem? w_75))) (Or.inr (hw _ (List.mem_of_getElem? w_77))) (by decide) (t := .byte) (t' := (.array .byte)) (by decide) (by decide))))
      have c55 := ((V46.keep K50 (ninS (Ne.symm ne_o_ba46) nin0)).keep K53 (ninS (Ne.symm ne_o_ba46) nin0))
      refine w_retV W53 hx hh hlk hret (hb hby d_jdk_42_149_57) (Nat.le_of_ble_eq_true rfl) (Nat.le_of_ble_eq_true rfl) ?_
      exact ⟨rfl, ba46, Or.inl ⟨A53, c54, F53, c55, own_lat2 hch hlat⟩⟩
    · have hz8 := hbig
      refine g_astore (pc' := 41) (Ls' := #[.val (.ref o), .val (.ref ca), .val (.int (0 : Int32)), .val (.int cs.length.toInt32), .val .null, .val (.ref ba46)]) W45.here hx (hb hby d_jdk_42_149_39) rfl rfl rfl ?_
      refine g_aloadN (pc' := 42) W45.here hx (hb hby d_jdk_42_149_41) rfl rfl rfl ?_
      refine g_aload (pc' := 44) W45.here hx (hb hby d_jdk_42_149_42) rfl rfl rfl ?_
      refine g_iloadN (pc' := 45) W45.here hx (hb hby d_jdk_42_149_44) rfl rfl ?_
      refine w_callSp (pc' := 48) (st := [(.ref o)]) (y := (⟨"java/lang/StringUTF16", "coderFromArrayLen", "([BI)B"⟩ : MethodName)) W45 hx [(.ref ba46), (.int cs.length.toInt32)] (hw _ (List.mem_of_getElem? w_71)) (hw _ (List.mem_of_getElem? w_72)) (hw _ (List.mem_of_getElem? w_46)) (hw _ (List.mem_of_getElem? w_73)) (by decide) (c_coderFromU l Z a0 hw hE ba46 cs _ h45 W45.old V46 (own_ulen cs) hpos hn31) (by rw [hml]; rfl) (lenOf pd_6 rfl) rfl (hb hby d_jdk_42_149_45) (Nat.le_of_ble_eq_true rfl) (Nat.le_of_ble_eq_true rfl) rfl rfl (Nat.le_of_ble_eq_true rfl) (Nat.le_of_ble_eq_true rfl) rfl fun T56 W56 => ?_
      have c57 := (F1.keep K45 nin0)
      have c58 := (E0.keep K45)
      refine w_putN (pc' := 51) (v' := (.int (1 : Int32))) W56 hx (hw _ (List.mem_of_getElem? w_74)) Via.refl c57 c58 (Or.inr ⟨(hw _ (List.mem_of_getElem? w_75)), rfl, hnm⟩) (hw _ (List.mem_of_getElem? w_31)) (ty := .byte) (by decide) rfl rfl (List.mem_of_getElem? (i := 0) rfl) (hb hby d_jdk_42_149_48) rfl fun T59 h59 W59 K59 R59 F59 A59 => ?_
      have c60 := (F2.keep K45 nin0)
      have z_K59 : h45.size ≤ h59.size := K59.1
      have c61 := (c60.other R59 (Or.inr (slot_ne (Or.inr (hw _ (List.mem_of_getElem? w_77))) (Or.inr (hw _ (List.mem_of_getElem? w_75))) (by decide) (t := (.array .byte)) (t' := .byte) (by decide) (by decide))))
      refine g_aloadN (pc' := 52) W59.here hx (hb hby d_jdk_42_149_51) rfl rfl rfl ?_
      refine g_aload (pc' := 54) W59.here hx (hb hby d_jdk_42_149_52) rfl rfl rfl ?_
      refine w_put (pc' := 57) W59 hx (hw _ (List.mem_of_getElem? w_76)) Via.refl c61 A59 (Or.inr ⟨(hw _ (List.mem_of_getElem? w_77)), rfl, hnm⟩) (hw _ (List.mem_of_getElem? w_31)) (ty := (.array .byte)) (by decide) rfl rfl (List.mem_of_getElem? (i := 0) rfl) (hb hby d_jdk_42_149_54) rfl fun T62 h62 W62 K62 R62 F62 A62 => ?_
      have z_K62 : h59.size ≤ h62.size := K62.1
      have c63 := (F59.other R62 (Or.inr (slot_ne (Or.inr (hw _ (List.mem_of_getElem? w_75))) (Or.inr (hw _ (List.mem_of_getElem? w_77))) (by decide) (t := .byte) (t' := (.array .byte)) (by decide) (by decide))))
      have c64 := ((V46.keep K59 (ninS (Ne.symm ne_o_ba46) nin0)).keep K62 (ninS (Ne.symm ne_o_ba46) nin0))
      refine w_retV W62 hx hh hlk hret (hb hby d_jdk_42_149_57) (Nat.le_of_ble_eq_true rfl) (Nat.le_of_ble_eq_true rfl) ?_
      exact ⟨rfl, ba46, Or.inr ⟨A62, c63, F62, c64, hch, hn31⟩⟩
set_option maxRecDepth 65536 in
set_option maxHeartbeats 40000000 in
theorem c_strC (l : Launch) (Z : State) (a0 : Array Value) (hw : ∀ d ∈ tables_1, d.before a0 Z = true) (hE : EW Z a0 consts_1) (cc : Int32) (fm : Value) (o ca : Nat) (cs : List Int32) (h0 : Heap) (O : Ext Z.heap h0) (G : SEnv Z cc fm) (GU : SEnvU Z) (hn : cs.length ≤ 5) (hch : ∀ c ∈ cs, 0 ≤ c.toInt ∧ c.toInt < 65536) (VA : Ary Z h0 ca .char (cs.map Value.int)) (hz : Z.heap.size ≤ o) (E0 : Exa Z h0 o "java/lang/String") (u1 u2 : Value) (F1 : Fld Z h0 o "java/lang/String" "coder" "B" u1) (F2 : Fld Z h0 o "java/lang/String" "value" "[B" u2) (hoc : o ≠ ca)  :
    Con l Z consts_1 (⟨"java/lang/String", "<init>", "([C)V"⟩ : MethodName) jdk_42_method_3_code 2 (Option.none : Option Jvm.ClassFile.FieldType) ({ frames := 5, cells := 4, slots := 15, locals := 74 } : Room) #[(.ref o), (.ref ca)] h0 [o] (fun v h => v = none ∧ ∃ b : Nat, SG Z h o b cs) := by
  refine Con.of (a0 := a0) #[.val (.ref o), .val (.ref ca)] (plainFor_of_name pn_1) hE O (allS ⟨hz, E0.lt⟩ all0) (fun m => by first | (simp [entryFrame, mkF, argsToLocals, Value.category]; done) | rfl) ?_
  intro p e s m below meth c T0 hx hby hml hnm hret hlk hh W0
  have hn31 : cs.length < 2 ^ 29 := by omega
  have lt_ca : ca < h0.size := VA.lt
  have lt_o : o < h0.size := E0.lt
  refine g_aloadN (pc' := 1) W0.here hx (hb hby d_jdk_42_3_0) rfl rfl rfl ?_
  refine g_aloadN (pc' := 2) W0.here hx (hb hby d_jdk_42_3_1) rfl rfl rfl ?_
  refine g_iconst (0 : Int32) (pc' := 3) W0.here hx (hb hby d_jdk_42_3_2) rfl rfl ?_
  refine g_aloadN (pc' := 4) W0.here hx (hb hby d_jdk_42_3_3) rfl rfl rfl ?_
  refine w_len (pc' := 5) W0 hx VA (hb hby d_jdk_42_3_4) rfl ?_
  refine g_name (w := .int cs.length.toInt32) (congrArg Value.int (by rw [List.length_map])) ?_
  refine g_aconstNull (pc' := 6) W0.here hx (hb hby d_jdk_42_3_5) rfl ?_
  refine w_special (pc' := 9) (st := []) (y := (⟨"java/lang/String", "<init>", "([CIILjava/lang/Void;)V"⟩ : MethodName)) (a := o) W0 hx [(.ref ca), (.int (0 : Int32)), (.int cs.length.toInt32), .null] rfl (hw _ (List.mem_of_getElem? w_36)) (hw _ (List.mem_of_getElem? w_37)) (hw _ (List.mem_of_getElem? w_32)) (hw _ (List.mem_of_getElem? w_39)) (by decide) (c_str4 l Z a0 hw hE cc fm o ca cs h0 W0.old G GU hn hch VA (by have := O.1; omega) E0 _ _ F1 F2 hoc) (allS (List.mem_of_getElem? (i := 0) rfl) all0) (by rw [hml]; rfl) (lenOf pd_7 rfl) rfl (hb hby d_jdk_42_3_6) (Nat.le_of_ble_eq_true rfl) (Nat.le_of_ble_eq_true rfl) (Nat.le_of_ble_eq_true rfl) (Nat.le_of_ble_eq_true rfl) rfl fun v65 T65 h65 W65 K65 Q65 => ?_
  have z_K65 : h0.size ≤ h65.size := K65.1
  obtain ⟨rfl, sb66, S66⟩ := Q65
  have ES66 := S66.exa
  have lt_sb66 : sb66 < h65.size := S66.ltb
  refine w_retV W65 hx hh hlk hret (hb hby d_jdk_42_3_9) (Nat.le_of_ble_eq_true rfl) (Nat.le_of_ble_eq_true rfl) ?_
  exact ⟨rfl, _, S66⟩
set_option maxRecDepth 65536 in
set_option maxHeartbeats 40000000 in
theorem c_coderL (l : Launch) (Z : State) (a0 : Array Value) (hw : ∀ d ∈ tables_1, d.before a0 Z = true) (hE : EW Z a0 consts_1) (cc : Int32) (fm : Value) (a b : Nat) (cs : List Int32)  (h0 : Heap) (O : Ext Z.heap h0) (G : SEnv Z cc fm) (GU : SEnvU Z) (S0 : SL Z h0 a b cs)  :
    Con l Z consts_1 (⟨"java/lang/String", "coder", "()B"⟩ : MethodName) jdk_42_method_152_code 1 (Option.some Jvm.ClassFile.FieldType.byte) ({ frames := 0, cells := 0, slots := 0, locals := 0 } : Room) #[(.ref a)] h0 [] (pureQ (some (.int 0)) h0) := by
  refine Con.of (a0 := a0) #[.val (.ref a)] (plainFor_of_name pn_1) hE O all0 (fun m => by first | (simp [entryFrame, mkF, argsToLocals, Value.category]; done) | rfl) ?_
  intro p e s m below meth c T0 hx hby hml hnm hret hlk hh W0
  obtain ⟨E_a, FC_a, FV_a, V_b, L_a⟩ := id S0
  have hl29 : cs.length < 2 ^ 31 := by have := V_b.len; simpa using this
  refine w_getS (pc' := 3) W0 hx (hw _ (List.mem_of_getElem? w_43)) Via.refl G.1 (hb hby d_jdk_42_152_0) rfl fun T71 W71 => ?_
  refine g_ifN (pc' := 6) W71.here hx (hb hby d_jdk_42_152_3) rfl (feq (show ¬ (cc = (0 : Int32)) from G.2.1)).1 ?_
  refine g_aloadN (pc' := 7) W71.here hx (hb hby d_jdk_42_152_6) rfl rfl rfl ?_
  refine w_get (pc' := 10) W71 hx (hw _ (List.mem_of_getElem? w_74)) Via.refl FC_a (hb hby d_jdk_42_152_7) rfl fun T72 W72 => ?_
  refine g_goto (pc' := 14) W72.here hx (hb hby d_jdk_42_152_10) rfl ?_
  refine w_retN (t := .byte) W72 hx hh hlk hret (by simp) (hb hby d_jdk_42_152_14) (Nat.le_of_ble_eq_true rfl) (Nat.le_of_ble_eq_true rfl) ?_
  exact ⟨rfl, rfl⟩
set_option maxRecDepth 65536 in
set_option maxHeartbeats 40000000 in
theorem c_coderU (l : Launch) (Z : State) (a0 : Array Value) (hw : ∀ d ∈ tables_1, d.before a0 Z = true) (hE : EW Z a0 consts_1) (cc : Int32) (fm : Value) (a b : Nat) (cs : List Int32)  (h0 : Heap) (O : Ext Z.heap h0) (G : SEnv Z cc fm) (GU : SEnvU Z) (S0 : SU Z h0 a b cs)  :
    Con l Z consts_1 (⟨"java/lang/String", "coder", "()B"⟩ : MethodName) jdk_42_method_152_code 1 (Option.some Jvm.ClassFile.FieldType.byte) ({ frames := 0, cells := 0, slots := 0, locals := 0 } : Room) #[(.ref a)] h0 [] (pureQ (some (.int 1)) h0) := by
  refine Con.of (a0 := a0) #[.val (.ref a)] (plainFor_of_name pn_1) hE O all0 (fun m => by first | (simp [entryFrame, mkF, argsToLocals, Value.category]; done) | rfl) ?_
  intro p e s m below meth c T0 hx hby hml hnm hret hlk hh W0
  obtain ⟨E_a, FC_a, FV_a, V_b, L_a, hl29⟩ := id S0
  refine w_getS (pc' := 3) W0 hx (hw _ (List.mem_of_getElem? w_43)) Via.refl G.1 (hb hby d_jdk_42_152_0) rfl fun T73 W73 => ?_
  refine g_ifN (pc' := 6) W73.here hx (hb hby d_jdk_42_152_3) rfl (feq (show ¬ (cc = (0 : Int32)) from G.2.1)).1 ?_
  refine g_aloadN (pc' := 7) W73.here hx (hb hby d_jdk_42_152_6) rfl rfl rfl ?_
  refine w_get (pc' := 10) W73 hx (hw _ (List.mem_of_getElem? w_74)) Via.refl FC_a (hb hby d_jdk_42_152_7) rfl fun T74 W74 => ?_
  refine g_goto (pc' := 14) W74.here hx (hb hby d_jdk_42_152_10) rfl ?_
  refine w_retN (t := .byte) W74 hx hh hlk hret (by simp) (hb hby d_jdk_42_152_14) (Nat.le_of_ble_eq_true rfl) (Nat.le_of_ble_eq_true rfl) ?_
  exact ⟨rfl, rfl⟩
set_option maxRecDepth 65536 in
set_option maxHeartbeats 40000000 in
theorem c_lengthL (l : Launch) (Z : State) (a0 : Array Value) (hw : ∀ d ∈ tables_1, d.before a0 Z = true) (hE : EW Z a0 consts_1) (cc : Int32) (fm : Value) (a b : Nat) (cs : List Int32)  (h0 : Heap) (O : Ext Z.heap h0) (G : SEnv Z cc fm) (GU : SEnvU Z) (S0 : SL Z h0 a b cs)  :
    Con l Z consts_1 (⟨"java/lang/String", "length", "()I"⟩ : MethodName) jdk_42_method_54_code 1 (Option.some Jvm.ClassFile.FieldType.int) ({ frames := 1, cells := 0, slots := 0, locals := 13 } : Room) #[(.ref a)] h0 [] (pureQ (some (.int cs.length.toInt32)) h0) := by
  refine Con.of (a0 := a0) #[.val (.ref a)] (plainFor_of_name pn_1) hE O all0 (fun m => by first | (simp [entryFrame, mkF, argsToLocals, Value.category]; done) | rfl) ?_
  intro p e s m below meth c T0 hx hby hml hnm hret hlk hh W0
  obtain ⟨E_a, FC_a, FV_a, V_b, L_a⟩ := id S0
  have hl29 : cs.length < 2 ^ 31 := by have := V_b.len; simpa using this
  refine g_aloadN (pc' := 1) W0.here hx (hb hby d_jdk_42_54_0) rfl rfl rfl ?_
  refine w_get (pc' := 4) W0 hx (hw _ (List.mem_of_getElem? w_76)) Via.refl FV_a (hb hby d_jdk_42_54_1) rfl fun T79 W79 => ?_
  refine w_len (pc' := 5) W79 hx V_b (hb hby d_jdk_42_54_4) rfl ?_
  refine g_name (w := .int cs.length.toInt32) (congrArg Value.int (by rw [List.length_map])) ?_
  refine g_aloadN (pc' := 6) W79.here hx (hb hby d_jdk_42_54_5) rfl rfl rfl ?_
  refine w_virtualp (pc' := 9) (st := [(.int cs.length.toInt32)]) (y := (⟨"java/lang/String", "coder", "()B"⟩ : MethodName)) (z := (⟨"java/lang/String", "coder", "()B"⟩ : MethodName)) (a := a) W79 hx [] (hw _ (List.mem_of_getElem? w_105)) (hw _ (List.mem_of_getElem? w_106)) (nfS (z := (⟨"java/lang/String", "coder", "()B"⟩ : MethodName)) (hw _ (List.mem_of_getElem? w_108))) (hw _ (List.mem_of_getElem? w_108)) (hw _ (List.mem_of_getElem? w_107)) (hw _ (List.mem_of_getElem? w_32)) (hw _ (List.mem_of_getElem? w_109)) (by decide) (c_coderL l Z a0 hw hE cc fm a b cs  h0 W79.old G GU S0 ) E_a (by rw [hml]; rfl) (lenOf pd_8 rfl) rfl (hb hby d_jdk_42_54_6) (Nat.le_of_ble_eq_true rfl) (Nat.le_of_ble_eq_true rfl) rfl rfl (Nat.le_of_ble_eq_true rfl) (Nat.le_of_ble_eq_true rfl) rfl fun T80 W80 => ?_
  refine g_ishr (pc' := 10) W80.here hx (hb hby d_jdk_42_54_9) rfl ?_
  refine w_retI W80 hx hh hlk hret (hb hby d_jdk_42_54_10) (Nat.le_of_ble_eq_true rfl) (Nat.le_of_ble_eq_true rfl) ?_
  exact ⟨congrArg (fun z => some (Value.int z)) (own_shr0 _), rfl⟩
set_option maxRecDepth 65536 in
set_option maxHeartbeats 40000000 in
theorem c_lengthU (l : Launch) (Z : State) (a0 : Array Value) (hw : ∀ d ∈ tables_1, d.before a0 Z = true) (hE : EW Z a0 consts_1) (cc : Int32) (fm : Value) (a b : Nat) (cs : List Int32)  (h0 : Heap) (O : Ext Z.heap h0) (G : SEnv Z cc fm) (GU : SEnvU Z) (S0 : SU Z h0 a b cs)  :
    Con l Z consts_1 (⟨"java/lang/String", "length", "()I"⟩ : MethodName) jdk_42_method_54_code 1 (Option.some Jvm.ClassFile.FieldType.int) ({ frames := 1, cells := 0, slots := 0, locals := 13 } : Room) #[(.ref a)] h0 [] (pureQ (some (.int cs.length.toInt32)) h0) := by
  refine Con.of (a0 := a0) #[.val (.ref a)] (plainFor_of_name pn_1) hE O all0 (fun m => by first | (simp [entryFrame, mkF, argsToLocals, Value.category]; done) | rfl) ?_
  intro p e s m below meth c T0 hx hby hml hnm hret hlk hh W0
  obtain ⟨E_a, FC_a, FV_a, V_b, L_a, hl29⟩ := id S0
  refine g_aloadN (pc' := 1) W0.here hx (hb hby d_jdk_42_54_0) rfl rfl rfl ?_
  refine w_get (pc' := 4) W0 hx (hw _ (List.mem_of_getElem? w_76)) Via.refl FV_a (hb hby d_jdk_42_54_1) rfl fun T81 W81 => ?_
  refine w_len (pc' := 5) W81 hx V_b (hb hby d_jdk_42_54_4) rfl ?_
  refine g_name (w := .int (2 * cs.length).toInt32) (congrArg Value.int (by rw [own_ulen])) ?_
  refine g_aloadN (pc' := 6) W81.here hx (hb hby d_jdk_42_54_5) rfl rfl rfl ?_
  refine w_virtualp (pc' := 9) (st := [(.int (2 * cs.length).toInt32)]) (y := (⟨"java/lang/String", "coder", "()B"⟩ : MethodName)) (z := (⟨"java/lang/String", "coder", "()B"⟩ : MethodName)) (a := a) W81 hx [] (hw _ (List.mem_of_getElem? w_105)) (hw _ (List.mem_of_getElem? w_106)) (nfS (z := (⟨"java/lang/String", "coder", "()B"⟩ : MethodName)) (hw _ (List.mem_of_getElem? w_108))) (hw _ (List.mem_of_getElem? w_108)) (hw _ (List.mem_of_getElem? w_107)) (hw _ (List.mem_of_getElem? w_32)) (hw _ (List.mem_of_getElem? w_109)) (by decide) (c_coderU l Z a0 hw hE cc fm a b cs  h0 W81.old G GU S0 ) E_a (by rw [hml]; rfl) (lenOf pd_8 rfl) rfl (hb hby d_jdk_42_54_6) (Nat.le_of_ble_eq_true rfl) (Nat.le_of_ble_eq_true rfl) rfl rfl (Nat.le_of_ble_eq_true rfl) (Nat.le_of_ble_eq_true rfl) rfl fun T82 W82 => ?_
  refine g_ishr (pc' := 10) W82.here hx (hb hby d_jdk_42_54_9) rfl ?_
  refine w_retI W82 hx hh hlk hret (hb hby d_jdk_42_54_10) (Nat.le_of_ble_eq_true rfl) (Nat.le_of_ble_eq_true rfl) ?_
  exact ⟨congrArg (fun z => some (Value.int z)) (own_shr1 hl29), rfl⟩
theorem c_length (l : Launch) (Z : State) (a0 : Array Value) (hw : ∀ d ∈ tables_1, d.before a0 Z = true) (hE : EW Z a0 consts_1) (cc : Int32) (fm : Value) (a b : Nat) (cs : List Int32)  (h0 : Heap) (O : Ext Z.heap h0) (G : SEnv Z cc fm) (GU : SEnvU Z) (S0 : SG Z h0 a b cs)  :
       Con l Z consts_1 (⟨"java/lang/String", "length", "()I"⟩ : MethodName) jdk_42_method_54_code 1 (Option.some Jvm.ClassFile.FieldType.int) ({ frames := 1, cells := 0, slots := 0, locals := 13 } : Room) #[(.ref a)] h0 [] (pureQ (some (.int cs.length.toInt32)) h0) := by
  rcases S0 with S0 | S0
  · exact c_lengthL l Z a0 hw hE cc fm a b cs h0 O G GU S0
  · exact c_lengthU l Z a0 hw hE cc fm a b cs h0 O G GU S0
set_option maxRecDepth 65536 in
set_option maxHeartbeats 40000000 in
theorem c_isLatL (l : Launch) (Z : State) (a0 : Array Value) (hw : ∀ d ∈ tables_1, d.before a0 Z = true) (hE : EW Z a0 consts_1) (cc : Int32) (fm : Value) (a b : Nat) (cs : List Int32)  (h0 : Heap) (O : Ext Z.heap h0) (G : SEnv Z cc fm) (GU : SEnvU Z) (S0 : SL Z h0 a b cs)  :
    Con l Z consts_1 (⟨"java/lang/String", "isLatin1", "()Z"⟩ : MethodName) jdk_42_method_154_code 1 (Option.some Jvm.ClassFile.FieldType.boolean) ({ frames := 0, cells := 0, slots := 0, locals := 0 } : Room) #[(.ref a)] h0 [] (pureQ (some (.int 1)) h0) := by
  refine Con.of (a0 := a0) #[.val (.ref a)] (plainFor_of_name pn_1) hE O all0 (fun m => by first | (simp [entryFrame, mkF, argsToLocals, Value.category]; done) | rfl) ?_
  intro p e s m below meth c T0 hx hby hml hnm hret hlk hh W0
  obtain ⟨E_a, FC_a, FV_a, V_b, L_a⟩ := id S0
  have hl29 : cs.length < 2 ^ 31 := by have := V_b.len; simpa using this
  refine w_getS (pc' := 3) W0 hx (hw _ (List.mem_of_getElem? w_43)) Via.refl G.1 (hb hby d_jdk_42_154_0) rfl fun T87 W87 => ?_
  refine g_ifN (pc' := 6) W87.here hx (hb hby d_jdk_42_154_3) rfl (feq (show ¬ (cc = (0 : Int32)) from G.2.1)).1 ?_
  refine g_aloadN (pc' := 7) W87.here hx (hb hby d_jdk_42_154_6) rfl rfl rfl ?_
  refine w_get (pc' := 10) W87 hx (hw _ (List.mem_of_getElem? w_74)) Via.refl FC_a (hb hby d_jdk_42_154_7) rfl fun T88 W88 => ?_
  refine g_ifN (pc' := 13) W88.here hx (hb hby d_jdk_42_154_10) rfl (teq (show (0 : Int32) = (0 : Int32) from (by decide))).2 ?_
  refine g_iconst (1 : Int32) (pc' := 14) W88.here hx (hb hby d_jdk_42_154_13) rfl rfl ?_
  refine g_goto (pc' := 18) W88.here hx (hb hby d_jdk_42_154_14) rfl ?_
  refine w_retN (t := .boolean) W88 hx hh hlk hret (by simp) (hb hby d_jdk_42_154_18) (Nat.le_of_ble_eq_true rfl) (Nat.le_of_ble_eq_true rfl) ?_
  exact ⟨rfl, rfl⟩
set_option maxRecDepth 65536 in
set_option maxHeartbeats 40000000 in
theorem c_isLatU (l : Launch) (Z : State) (a0 : Array Value) (hw : ∀ d ∈ tables_1, d.before a0 Z = true) (hE : EW Z a0 consts_1) (cc : Int32) (fm : Value) (a b : Nat) (cs : List Int32)  (h0 : Heap) (O : Ext Z.heap h0) (G : SEnv Z cc fm) (GU : SEnvU Z) (S0 : SU Z h0 a b cs)  :
    Con l Z consts_1 (⟨"java/lang/String", "isLatin1", "()Z"⟩ : MethodName) jdk_42_method_154_code 1 (Option.some Jvm.ClassFile.FieldType.boolean) ({ frames := 0, cells := 0, slots := 0, locals := 0 } : Room) #[(.ref a)] h0 [] (pureQ (some (.int 0)) h0) := by
  refine Con.of (a0 := a0) #[.val (.ref a)] (plainFor_of_name pn_1) hE O all0 (fun m => by first | (simp [entryFrame, mkF, argsToLocals, Value.category]; done) | rfl) ?_
  intro p e s m below meth c T0 hx hby hml hnm hret hlk hh W0
  obtain ⟨E_a, FC_a, FV_a, V_b, L_a, hl29⟩ := id S0
  refine w_getS (pc' := 3) W0 hx (hw _ (List.mem_of_getElem? w_43)) Via.refl G.1 (hb hby d_jdk_42_154_0) rfl fun T89 W89 => ?_
  refine g_ifN (pc' := 6) W89.here hx (hb hby d_jdk_42_154_3) rfl (feq (show ¬ (cc = (0 : Int32)) from G.2.1)).1 ?_
  refine g_aloadN (pc' := 7) W89.here hx (hb hby d_jdk_42_154_6) rfl rfl rfl ?_
  refine w_get (pc' := 10) W89 hx (hw _ (List.mem_of_getElem? w_74)) Via.refl FC_a (hb hby d_jdk_42_154_7) rfl fun T90 W90 => ?_
  refine g_ifY (pc' := 17) W90.here hx (hb hby d_jdk_42_154_10) rfl (feq (show ¬ ((1 : Int32) = (0 : Int32)) from (by decide))).2 ?_
  refine g_iconst (0 : Int32) (pc' := 18) W90.here hx (hb hby d_jdk_42_154_17) rfl rfl ?_
  refine w_retN (t := .boolean) W90 hx hh hlk hret (by simp) (hb hby d_jdk_42_154_18) (Nat.le_of_ble_eq_true rfl) (Nat.le_of_ble_eq_true rfl) ?_
  exact ⟨rfl, rfl⟩
set_option maxRecDepth 65536 in
set_option maxHeartbeats 40000000 in
theorem c_chk3 (l : Launch) (Z : State) (a0 : Array Value) (hw : ∀ d ∈ tables_1, d.before a0 Z = true) (hE : EW Z a0 consts_1) (j n : Int32) (fm : Value) (h0 : Heap) (O : Ext Z.heap h0) (hfm : fm.isRef = true) (hj : ¬ j < 0) (hjn : j < n) :
    Con l Z consts_1 (⟨"jdk/internal/util/Preconditions", "checkIndex", "(IILjava/util/function/BiFunction;)I"⟩ : MethodName) jdk_41_method_11_code 3 (Option.some Jvm.ClassFile.FieldType.int) ({ frames := 0, cells := 0, slots := 0, locals := 0 } : Room) #[(.int j), (.int n), fm] h0 [] (pureQ (some (.int j)) h0) := by
  refine Con.of (a0 := a0) #[.val (.int j), .val (.int n), .val fm] (plainFor_of_name pn_2) hE O all0 (fun m => by rcases ref_cases hfm with rfl | ⟨_, rfl⟩ <;> rfl) ?_
  intro p e s m below meth c T0 hx hby hml hnm hret hlk hh W0
  refine g_iloadN (pc' := 1) W0.here hx (hb hby d_jdk_41_11_0) rfl rfl ?_
  refine g_ifN (pc' := 4) W0.here hx (hb hby d_jdk_41_11_1) rfl (flt (show ¬ (j < (0 : Int32)) from hj)).1 ?_
  refine g_iloadN (pc' := 5) W0.here hx (hb hby d_jdk_41_11_4) rfl rfl ?_
  refine g_iloadN (pc' := 6) W0.here hx (hb hby d_jdk_41_11_5) rfl rfl ?_
  refine g_icmpY (pc' := 16) W0.here hx (hb hby d_jdk_41_11_6) rfl (tlt (show j < n from hjn)).1 ?_
  refine g_iloadN (pc' := 17) W0.here hx (hb hby d_jdk_41_11_16) rfl rfl ?_
  refine w_retI W0 hx hh hlk hret (hb hby d_jdk_41_11_17) (Nat.le_of_ble_eq_true rfl) (Nat.le_of_ble_eq_true rfl) ?_
  exact ⟨rfl, rfl⟩
set_option maxRecDepth 65536 in
set_option maxHeartbeats 40000000 in
theorem c_chk2 (l : Launch) (Z : State) (a0 : Array Value) (hw : ∀ d ∈ tables_1, d.before a0 Z = true) (hE : EW Z a0 consts_1) (cc : Int32) (fm : Value) (j n : Int32) (h0 : Heap) (O : Ext Z.heap h0) (G : SEnv Z cc fm) (GU : SEnvU Z) (hj : ¬ j < 0) (hjn : j < n) :
    Con l Z consts_1 (⟨"java/lang/String", "checkIndex", "(II)V"⟩ : MethodName) jdk_42_method_155_code 2 (Option.none : Option Jvm.ClassFile.FieldType) ({ frames := 1, cells := 0, slots := 0, locals := 14 } : Room) #[(.int j), (.int n)] h0 [] (pureQ none h0) := by
  refine Con.of (a0 := a0) #[.val (.int j), .val (.int n)] (plainFor_of_name pn_1) hE O all0 (fun m => by first | (simp [entryFrame, mkF, argsToLocals, Value.category]; done) | rfl) ?_
  intro p e s m below meth c T0 hx hby hml hnm hret hlk hh W0
  refine g_iloadN (pc' := 1) W0.here hx (hb hby d_jdk_42_155_0) rfl rfl ?_
  refine g_iloadN (pc' := 2) W0.here hx (hb hby d_jdk_42_155_1) rfl rfl ?_
  refine w_getS (pc' := 5) W0 hx (hw _ (List.mem_of_getElem? w_131)) Via.refl G.2.2.1 (hb hby d_jdk_42_155_2) rfl fun T91 W91 => ?_
  refine w_callSp (pc' := 8) (st := []) (y := (⟨"jdk/internal/util/Preconditions", "checkIndex", "(IILjava/util/function/BiFunction;)I"⟩ : MethodName)) W91 hx [(.int j), (.int n), fm] (hw _ (List.mem_of_getElem? w_133)) (hw _ (List.mem_of_getElem? w_134)) (hw _ (List.mem_of_getElem? w_132)) (hw _ (List.mem_of_getElem? w_135)) (by decide) (c_chk3 l Z a0 hw hE j n fm h0 W91.old G.2.2.2 hj hjn) (by rw [hml]; rfl) (lenOf pd_9 rfl) rfl (hb hby d_jdk_42_155_5) (Nat.le_of_ble_eq_true rfl) (Nat.le_of_ble_eq_true rfl) rfl rfl (Nat.le_of_ble_eq_true rfl) (Nat.le_of_ble_eq_true rfl) rfl fun T92 W92 => ?_
  refine g_pop (pc' := 9) W92.here hx (hb hby d_jdk_42_155_8) rfl rfl ?_
  refine w_retV W92 hx hh hlk hret (hb hby d_jdk_42_155_9) (Nat.le_of_ble_eq_true rfl) (Nat.le_of_ble_eq_true rfl) ?_
  exact ⟨rfl, rfl⟩
set_option maxRecDepth 65536 in
set_option maxHeartbeats 40000000 in
theorem c_l1at (l : Launch) (Z : State) (a0 : Array Value) (hw : ∀ d ∈ tables_1, d.before a0 Z = true) (hE : EW Z a0 consts_1) (cc : Int32) (fm : Value) (a b : Nat) (cs : List Int32) (j cj : Int32) (h0 : Heap) (O : Ext Z.heap h0) (G : SEnv Z cc fm) (GU : SEnvU Z) (S0 : SL Z h0 a b cs) (hj : ¬ j < 0) (hjn : j < cs.length.toInt32) (hcj : cs[j.toNatClampNeg]? = some cj) :
    Con l Z consts_1 (⟨"java/lang/StringLatin1", "charAt", "([BI)C"⟩ : MethodName) jdk_43_method_2_code 2 (Option.some Jvm.ClassFile.FieldType.char) ({ frames := 2, cells := 0, slots := 0, locals := 27 } : Room) #[(.ref b), (.int j)] h0 [] (pureQ (some (.int cj)) h0) := by
  refine Con.of (a0 := a0) #[.val (.ref b), .val (.int j)] (plainFor_of_name pn_3) hE O all0 (fun m => by first | (simp [entryFrame, mkF, argsToLocals, Value.category]; done) | rfl) ?_
  intro p e s m below meth c T0 hx hby hml hnm hret hlk hh W0
  obtain ⟨E_a, FC_a, FV_a, V_b, L_a⟩ := id S0
  have hl29 : cs.length < 2 ^ 31 := by have := V_b.len; simpa using this
  refine g_iloadN (pc' := 1) W0.here hx (hb hby d_jdk_43_2_0) rfl rfl ?_
  refine g_aloadN (pc' := 2) W0.here hx (hb hby d_jdk_43_2_1) rfl rfl rfl ?_
  refine w_len (pc' := 3) W0 hx V_b (hb hby d_jdk_43_2_2) rfl ?_
  refine g_name (w := .int cs.length.toInt32) (congrArg Value.int (by rw [List.length_map])) ?_
  refine w_callSp (pc' := 6) (st := []) (y := (⟨"java/lang/String", "checkIndex", "(II)V"⟩ : MethodName)) W0 hx [(.int j), (.int cs.length.toInt32)] (hw _ (List.mem_of_getElem? w_128)) (hw _ (List.mem_of_getElem? w_129)) (hw _ (List.mem_of_getElem? w_32)) (hw _ (List.mem_of_getElem? w_130)) (by decide) (c_chk2 l Z a0 hw hE cc fm j cs.length.toInt32 h0 W0.old G GU hj hjn) (by rw [hml]; rfl) (lenOf pd_10 rfl) rfl (hb hby d_jdk_43_2_3) (Nat.le_of_ble_eq_true rfl) (Nat.le_of_ble_eq_true rfl) rfl rfl (Nat.le_of_ble_eq_true rfl) (Nat.le_of_ble_eq_true rfl) rfl fun T93 W93 => ?_
  refine g_aloadN (pc' := 7) W93.here hx (hb hby d_jdk_43_2_6) rfl rfl rfl ?_
  refine g_iloadN (pc' := 8) W93.here hx (hb hby d_jdk_43_2_7) rfl rfl ?_
  refine w_baload (pc' := 9) (v := (.int cj.toInt8.toInt32)) W93 hx V_b hj (by rw [List.getElem?_map, hcj]; rfl) (hb hby d_jdk_43_2_8) rfl ?_
  refine g_sipush (255 : Int32) (pc' := 12) W93.here hx (hb hby d_jdk_43_2_9) rfl rfl ?_
  refine g_iand (pc' := 13) W93.here hx (hb hby d_jdk_43_2_12) rfl ?_
  refine g_i2c (pc' := 14) W93.here hx (hb hby d_jdk_43_2_13) rfl ?_
  refine w_retN (t := .char) W93 hx hh hlk hret (by simp) (hb hby d_jdk_43_2_14) (Nat.le_of_ble_eq_true rfl) (Nat.le_of_ble_eq_true rfl) ?_
  exact ⟨congrArg (fun z => some (Value.int z)) (own_back cj (L_a cj (List.mem_of_getElem? hcj))), rfl⟩
set_option maxRecDepth 65536 in
set_option maxHeartbeats 40000000 in
theorem c_ulen (l : Launch) (Z : State) (a0 : Array Value) (hw : ∀ d ∈ tables_1, d.before a0 Z = true) (hE : EW Z a0 consts_1) (cc : Int32) (fm : Value) (a b : Nat) (cs : List Int32)  (h0 : Heap) (O : Ext Z.heap h0) (G : SEnv Z cc fm) (GU : SEnvU Z) (S0 : SU Z h0 a b cs)  :
    Con l Z consts_1 (⟨"java/lang/StringUTF16", "length", "([B)I"⟩ : MethodName) jdk_52_method_6_code 1 (Option.some Jvm.ClassFile.FieldType.int) ({ frames := 0, cells := 0, slots := 0, locals := 0 } : Room) #[(.ref b)] h0 [] (pureQ (some (.int cs.length.toInt32)) h0) := by
  refine Con.of (a0 := a0) #[.val (.ref b)] (plainFor_of_name pn_0) hE O all0 (fun m => by first | (simp [entryFrame, mkF, argsToLocals, Value.category]; done) | rfl) ?_
  intro p e s m below meth c T0 hx hby hml hnm hret hlk hh W0
  obtain ⟨E_a, FC_a, FV_a, V_b, L_a, hl29⟩ := id S0
  refine g_aloadN (pc' := 1) W0.here hx (hb hby d_jdk_52_6_0) rfl rfl rfl ?_
  refine w_len (pc' := 2) W0 hx V_b (hb hby d_jdk_52_6_1) rfl ?_
  refine g_name (w := .int (2 * cs.length).toInt32) (congrArg Value.int (by rw [own_ulen])) ?_
  refine g_iconst (1 : Int32) (pc' := 3) W0.here hx (hb hby d_jdk_52_6_2) rfl rfl ?_
  refine g_ishr (pc' := 4) W0.here hx (hb hby d_jdk_52_6_3) rfl ?_
  refine w_retI W0 hx hh hlk hret (hb hby d_jdk_52_6_4) (Nat.le_of_ble_eq_true rfl) (Nat.le_of_ble_eq_true rfl) ?_
  exact ⟨congrArg (fun z => some (Value.int z)) (own_shr1 hl29), rfl⟩
set_option maxRecDepth 65536 in
set_option maxHeartbeats 40000000 in
theorem c_uchk (l : Launch) (Z : State) (a0 : Array Value) (hw : ∀ d ∈ tables_1, d.before a0 Z = true) (hE : EW Z a0 consts_1) (cc : Int32) (fm : Value) (a b : Nat) (cs : List Int32) (j : Int32) (h0 : Heap) (O : Ext Z.heap h0) (G : SEnv Z cc fm) (GU : SEnvU Z) (S0 : SU Z h0 a b cs) (hj : ¬ j < 0) (hjn : j < cs.length.toInt32) :
    Con l Z consts_1 (⟨"java/lang/StringUTF16", "checkIndex", "(I[B)V"⟩ : MethodName) jdk_52_method_91_code 2 (Option.none : Option Jvm.ClassFile.FieldType) ({ frames := 2, cells := 0, slots := 0, locals := 27 } : Room) #[(.int j), (.ref b)] h0 [] (pureQ none h0) := by
  refine Con.of (a0 := a0) #[.val (.int j), .val (.ref b)] (plainFor_of_name pn_0) hE O all0 (fun m => by first | (simp [entryFrame, mkF, argsToLocals, Value.category]; done) | rfl) ?_
  intro p e s m below meth c T0 hx hby hml hnm hret hlk hh W0
  obtain ⟨E_a, FC_a, FV_a, V_b, L_a, hl29⟩ := id S0
  refine g_iloadN (pc' := 1) W0.here hx (hb hby d_jdk_52_91_0) rfl rfl ?_
  refine g_aloadN (pc' := 2) W0.here hx (hb hby d_jdk_52_91_1) rfl rfl rfl ?_
  refine w_callSp (pc' := 5) (st := [(.int j)]) (y := (⟨"java/lang/StringUTF16", "length", "([B)I"⟩ : MethodName)) W0 hx [(.ref b)] (hw _ (List.mem_of_getElem? w_148)) (hw _ (List.mem_of_getElem? w_149)) (hw _ (List.mem_of_getElem? w_46)) (hw _ (List.mem_of_getElem? w_150)) (by decide) (c_ulen l Z a0 hw hE cc fm a b cs h0 W0.old G GU S0) (by rw [hml]; rfl) (lenOf pd_11 rfl) rfl (hb hby d_jdk_52_91_2) (Nat.le_of_ble_eq_true rfl) (Nat.le_of_ble_eq_true rfl) rfl rfl (Nat.le_of_ble_eq_true rfl) (Nat.le_of_ble_eq_true rfl) rfl fun T94 W94 => ?_
  refine w_callSp (pc' := 8) (st := []) (y := (⟨"java/lang/String", "checkIndex", "(II)V"⟩ : MethodName)) W94 hx [(.int j), (.int cs.length.toInt32)] (hw _ (List.mem_of_getElem? w_151)) (hw _ (List.mem_of_getElem? w_129)) (hw _ (List.mem_of_getElem? w_32)) (hw _ (List.mem_of_getElem? w_130)) (by decide) (c_chk2 l Z a0 hw hE cc fm j cs.length.toInt32 h0 W94.old G GU hj hjn) (by rw [hml]; rfl) (lenOf pd_10 rfl) rfl (hb hby d_jdk_52_91_5) (Nat.le_of_ble_eq_true rfl) (Nat.le_of_ble_eq_true rfl) rfl rfl (Nat.le_of_ble_eq_true rfl) (Nat.le_of_ble_eq_true rfl) rfl fun T95 W95 => ?_
  refine w_retV W95 hx hh hlk hret (hb hby d_jdk_52_91_8) (Nat.le_of_ble_eq_true rfl) (Nat.le_of_ble_eq_true rfl) ?_
  exact ⟨rfl, rfl⟩
theorem own_jn {j : Int32} (h : ¬ j < 0) : j = j.toNatClampNeg.toInt32 := (back32 h).1.symm
set_option maxRecDepth 65536 in
set_option maxHeartbeats 40000000 in
theorem c_uat (l : Launch) (Z : State) (a0 : Array Value) (hw : ∀ d ∈ tables_1, d.before a0 Z = true) (hE : EW Z a0 consts_1) (cc : Int32) (fm : Value) (a b : Nat) (cs : List Int32) (j cj : Int32) (h0 : Heap) (O : Ext Z.heap h0) (G : SEnv Z cc fm) (GU : SEnvU Z) (hl28 : cs.length ≤ 2 ^ 28) (S0 : SU Z h0 a b cs) (hj : ¬ j < 0) (hjn : j < cs.length.toInt32) (hcj : cs[j.toNatClampNeg]? = some cj) :
    Con l Z consts_1 (⟨"java/lang/StringUTF16", "charAt", "([BI)C"⟩ : MethodName) jdk_52_method_83_code 2 (Option.some Jvm.ClassFile.FieldType.char) ({ frames := 3, cells := 0, slots := 0, locals := 40 } : Room) #[(.ref b), (.int j)] h0 [] (pureQ (some (.int cj)) h0) := by
  refine Con.of (a0 := a0) #[.val (.ref b), .val (.int j)] (plainFor_of_name pn_0) hE O all0 (fun m => by first | (simp [entryFrame, mkF, argsToLocals, Value.category]; done) | rfl) ?_
  intro p e s m below meth c T0 hx hby hml hnm hret hlk hh W0
  obtain ⟨E_a, FC_a, FV_a, V_b, L_a, hl29⟩ := id S0
  refine g_iloadN (pc' := 1) W0.here hx (hb hby d_jdk_52_83_0) rfl rfl ?_
  refine g_aloadN (pc' := 2) W0.here hx (hb hby d_jdk_52_83_1) rfl rfl rfl ?_
  refine w_callSp (pc' := 5) (st := []) (y := (⟨"java/lang/StringUTF16", "checkIndex", "(I[B)V"⟩ : MethodName)) W0 hx [(.int j), (.ref b)] (hw _ (List.mem_of_getElem? w_145)) (hw _ (List.mem_of_getElem? w_146)) (hw _ (List.mem_of_getElem? w_46)) (hw _ (List.mem_of_getElem? w_147)) (by decide) (c_uchk l Z a0 hw hE cc fm a b cs j h0 W0.old G GU S0 hj hjn) (by rw [hml]; rfl) (lenOf pd_12 rfl) rfl (hb hby d_jdk_52_83_2) (Nat.le_of_ble_eq_true rfl) (Nat.le_of_ble_eq_true rfl) rfl rfl (Nat.le_of_ble_eq_true rfl) (Nat.le_of_ble_eq_true rfl) rfl fun T96 W96 => ?_
  refine g_aloadN (pc' := 6) W96.here hx (hb hby d_jdk_52_83_5) rfl rfl rfl ?_
  refine g_iloadN (pc' := 7) W96.here hx (hb hby d_jdk_52_83_6) rfl rfl ?_
  have hj28 : j.toNatClampNeg < 2 ^ 28 := by have := (List.getElem?_eq_some_iff.mp hcj).1; omega
  refine g_name (w := .int j.toNatClampNeg.toInt32) (congrArg Value.int (own_jn hj).symm) ?_
  refine w_callSp (pc' := 10) (st := []) (y := (⟨"java/lang/StringUTF16", "getChar", "([BI)C"⟩ : MethodName)) W96 hx [(.ref b), (.int j.toNatClampNeg.toInt32)] (hw _ (List.mem_of_getElem? w_68)) (hw _ (List.mem_of_getElem? w_69)) (hw _ (List.mem_of_getElem? w_46)) (hw _ (List.mem_of_getElem? w_70)) (by decide) (c_getChar l Z a0 hw hE cc fm b j.toNatClampNeg cj _ h0 W96.old G GU V_b hj28 (own_uget cs _ cj hcj).1 (own_uget cs _ cj hcj).2 (L_a cj (List.mem_of_getElem? hcj))) (by rw [hml]; rfl) (lenOf pd_5 rfl) rfl (hb hby d_jdk_52_83_7) (Nat.le_of_ble_eq_true rfl) (Nat.le_of_ble_eq_true rfl) rfl rfl (Nat.le_of_ble_eq_true rfl) (Nat.le_of_ble_eq_true rfl) rfl fun T97 W97 => ?_
  refine w_retN (t := .char) W97 hx hh hlk hret (by simp) (hb hby d_jdk_52_83_10) (Nat.le_of_ble_eq_true rfl) (Nat.le_of_ble_eq_true rfl) ?_
  exact ⟨congrArg (fun z => some (Value.int z)) (own_nchar (L_a cj (List.mem_of_getElem? hcj))), rfl⟩
set_option maxRecDepth 65536 in
set_option maxHeartbeats 40000000 in
theorem c_charAtL (l : Launch) (Z : State) (a0 : Array Value) (hw : ∀ d ∈ tables_1, d.before a0 Z = true) (hE : EW Z a0 consts_1) (cc : Int32) (fm : Value) (a b : Nat) (cs : List Int32) (j cj : Int32)  (h0 : Heap) (O : Ext Z.heap h0) (G : SEnv Z cc fm) (GU : SEnvU Z) (S0 : SL Z h0 a b cs) (hl28 : cs.length ≤ 2 ^ 28) (hj : ¬ j < 0) (hjn : j < cs.length.toInt32) (hcj : cs[j.toNatClampNeg]? = some cj) :
    Con l Z consts_1 (⟨"java/lang/String", "charAt", "(I)C"⟩ : MethodName) jdk_42_method_56_code 2 (Option.some Jvm.ClassFile.FieldType.char) ({ frames := 4, cells := 0, slots := 0, locals := 53 } : Room) #[(.ref a), (.int j)] h0 [] (pureQ (some (.int cj)) h0) := by
  refine Con.of (a0 := a0) #[.val (.ref a), .val (.int j)] (plainFor_of_name pn_1) hE O all0 (fun m => by first | (simp [entryFrame, mkF, argsToLocals, Value.category]; done) | rfl) ?_
  intro p e s m below meth c T0 hx hby hml hnm hret hlk hh W0
  obtain ⟨E_a, FC_a, FV_a, V_b, L_a⟩ := id S0
  have hl29 : cs.length < 2 ^ 31 := by have := V_b.len; simpa using this
  refine g_aloadN (pc' := 1) W0.here hx (hb hby d_jdk_42_56_0) rfl rfl rfl ?_
  refine w_virtualp (pc' := 4) (st := []) (y := (⟨"java/lang/String", "isLatin1", "()Z"⟩ : MethodName)) (z := (⟨"java/lang/String", "isLatin1", "()Z"⟩ : MethodName)) (a := a) W0 hx [] (hw _ (List.mem_of_getElem? w_119)) (hw _ (List.mem_of_getElem? w_120)) (nfS (z := (⟨"java/lang/String", "isLatin1", "()Z"⟩ : MethodName)) (hw _ (List.mem_of_getElem? w_122))) (hw _ (List.mem_of_getElem? w_122)) (hw _ (List.mem_of_getElem? w_121)) (hw _ (List.mem_of_getElem? w_32)) (hw _ (List.mem_of_getElem? w_123)) (by decide) (c_isLatL l Z a0 hw hE cc fm a b cs  h0 W0.old G GU S0 ) E_a (by rw [hml]; rfl) (lenOf pd_13 rfl) rfl (hb hby d_jdk_42_56_1) (Nat.le_of_ble_eq_true rfl) (Nat.le_of_ble_eq_true rfl) rfl rfl (Nat.le_of_ble_eq_true rfl) (Nat.le_of_ble_eq_true rfl) rfl fun T104 W104 => ?_
  refine g_ifN (pc' := 7) W104.here hx (hb hby d_jdk_42_56_4) rfl (feq (show ¬ ((1 : Int32) = (0 : Int32)) from (by decide))).1 ?_
  refine g_aloadN (pc' := 8) W104.here hx (hb hby d_jdk_42_56_7) rfl rfl rfl ?_
  refine w_get (pc' := 11) W104 hx (hw _ (List.mem_of_getElem? w_76)) Via.refl FV_a (hb hby d_jdk_42_56_8) rfl fun T105 W105 => ?_
  refine g_iloadN (pc' := 12) W105.here hx (hb hby d_jdk_42_56_11) rfl rfl ?_
  refine w_callSp (pc' := 15) (st := []) (y := (⟨"java/lang/StringLatin1", "charAt", "([BI)C"⟩ : MethodName)) W105 hx [(.ref b), (.int j)] (hw _ (List.mem_of_getElem? w_124)) (hw _ (List.mem_of_getElem? w_125)) (hw _ (List.mem_of_getElem? w_126)) (hw _ (List.mem_of_getElem? w_127)) (by decide) (c_l1at l Z a0 hw hE cc fm a b cs j cj h0 W105.old G GU S0 hj hjn hcj) (by rw [hml]; rfl) (lenOf pd_5 rfl) rfl (hb hby d_jdk_42_56_12) (Nat.le_of_ble_eq_true rfl) (Nat.le_of_ble_eq_true rfl) rfl rfl (Nat.le_of_ble_eq_true rfl) (Nat.le_of_ble_eq_true rfl) rfl fun T106 W106 => ?_
  refine w_retN (t := .char) W106 hx hh hlk hret (by simp) (hb hby d_jdk_42_56_15) (Nat.le_of_ble_eq_true rfl) (Nat.le_of_ble_eq_true rfl) ?_
  exact ⟨congrArg (fun z => some (Value.int z)) (own_nchar (by have := L_a cj (List.mem_of_getElem? hcj); omega)), rfl⟩
set_option maxRecDepth 65536 in
set_option maxHeartbeats 40000000 in
theorem c_charAtU (l : Launch) (Z : State) (a0 : Array Value) (hw : ∀ d ∈ tables_1, d.before a0 Z = true) (hE : EW Z a0 consts_1) (cc : Int32) (fm : Value) (a b : Nat) (cs : List Int32) (j cj : Int32)  (h0 : Heap) (O : Ext Z.heap h0) (G : SEnv Z cc fm) (GU : SEnvU Z) (S0 : SU Z h0 a b cs) (hl28 : cs.length ≤ 2 ^ 28) (hj : ¬ j < 0) (hjn : j < cs.length.toInt32) (hcj : cs[j.toNatClampNeg]? = some cj) :
    Con l Z consts_1 (⟨"java/lang/String", "charAt", "(I)C"⟩ : MethodName) jdk_42_method_56_code 2 (Option.some Jvm.ClassFile.FieldType.char) ({ frames := 4, cells := 0, slots := 0, locals := 53 } : Room) #[(.ref a), (.int j)] h0 [] (pureQ (some (.int cj)) h0) := by
  refine Con.of (a0 := a0) #[.val (.ref a), .val (.int j)] (plainFor_of_name pn_1) hE O all0 (fun m => by first | (simp [entryFrame, mkF, argsToLocals, Value.category]; done) | rfl) ?_
  intro p e s m below meth c T0 hx hby hml hnm hret hlk hh W0
  obtain ⟨E_a, FC_a, FV_a, V_b, L_a, hl29⟩ := id S0
  refine g_aloadN (pc' := 1) W0.here hx (hb hby d_jdk_42_56_0) rfl rfl rfl ?_
  refine w_virtualp (pc' := 4) (st := []) (y := (⟨"java/lang/String", "isLatin1", "()Z"⟩ : MethodName)) (z := (⟨"java/lang/String", "isLatin1", "()Z"⟩ : MethodName)) (a := a) W0 hx [] (hw _ (List.mem_of_getElem? w_119)) (hw _ (List.mem_of_getElem? w_120)) (nfS (z := (⟨"java/lang/String", "isLatin1", "()Z"⟩ : MethodName)) (hw _ (List.mem_of_getElem? w_122))) (hw _ (List.mem_of_getElem? w_122)) (hw _ (List.mem_of_getElem? w_121)) (hw _ (List.mem_of_getElem? w_32)) (hw _ (List.mem_of_getElem? w_123)) (by decide) (c_isLatU l Z a0 hw hE cc fm a b cs  h0 W0.old G GU S0 ) E_a (by rw [hml]; rfl) (lenOf pd_13 rfl) rfl (hb hby d_jdk_42_56_1) (Nat.le_of_ble_eq_true rfl) (Nat.le_of_ble_eq_true rfl) rfl rfl (Nat.le_of_ble_eq_true rfl) (Nat.le_of_ble_eq_true rfl) rfl fun T107 W107 => ?_
  refine g_ifY (pc' := 16) W107.here hx (hb hby d_jdk_42_56_4) rfl (teq (show (0 : Int32) = (0 : Int32) from (by decide))).1 ?_
  refine g_aloadN (pc' := 17) W107.here hx (hb hby d_jdk_42_56_16) rfl rfl rfl ?_
  refine w_get (pc' := 20) W107 hx (hw _ (List.mem_of_getElem? w_76)) Via.refl FV_a (hb hby d_jdk_42_56_17) rfl fun T108 W108 => ?_
  refine g_iloadN (pc' := 21) W108.here hx (hb hby d_jdk_42_56_20) rfl rfl ?_
  refine w_callSp (pc' := 24) (st := []) (y := (⟨"java/lang/StringUTF16", "charAt", "([BI)C"⟩ : MethodName)) W108 hx [(.ref b), (.int j)] (hw _ (List.mem_of_getElem? w_142)) (hw _ (List.mem_of_getElem? w_143)) (hw _ (List.mem_of_getElem? w_46)) (hw _ (List.mem_of_getElem? w_144)) (by decide) (c_uat l Z a0 hw hE cc fm a b cs j cj h0 W108.old G GU hl28 S0 hj hjn hcj) (by rw [hml]; rfl) (lenOf pd_5 rfl) rfl (hb hby d_jdk_42_56_21) (Nat.le_of_ble_eq_true rfl) (Nat.le_of_ble_eq_true rfl) rfl rfl (Nat.le_of_ble_eq_true rfl) (Nat.le_of_ble_eq_true rfl) rfl fun T109 W109 => ?_
  refine w_retN (t := .char) W109 hx hh hlk hret (by simp) (hb hby d_jdk_42_56_24) (Nat.le_of_ble_eq_true rfl) (Nat.le_of_ble_eq_true rfl) ?_
  exact ⟨congrArg (fun z => some (Value.int z)) (own_nchar (by have := L_a cj (List.mem_of_getElem? hcj); omega)), rfl⟩
theorem c_charAt (l : Launch) (Z : State) (a0 : Array Value) (hw : ∀ d ∈ tables_1, d.before a0 Z = true) (hE : EW Z a0 consts_1) (cc : Int32) (fm : Value) (a b : Nat) (cs : List Int32) (j cj : Int32)  (h0 : Heap) (O : Ext Z.heap h0) (G : SEnv Z cc fm) (GU : SEnvU Z) (S0 : SG Z h0 a b cs) (hl28 : cs.length ≤ 2 ^ 28) (hj : ¬ j < 0) (hjn : j < cs.length.toInt32) (hcj : cs[j.toNatClampNeg]? = some cj) :
       Con l Z consts_1 (⟨"java/lang/String", "charAt", "(I)C"⟩ : MethodName) jdk_42_method_56_code 2 (Option.some Jvm.ClassFile.FieldType.char) ({ frames := 4, cells := 0, slots := 0, locals := 53 } : Room) #[(.ref a), (.int j)] h0 [] (pureQ (some (.int cj)) h0) := by
  rcases S0 with S0 | S0
  · exact c_charAtL l Z a0 hw hE cc fm a b cs j cj h0 O G GU S0 hl28 hj hjn hcj
  · exact c_charAtU l Z a0 hw hE cc fm a b cs j cj h0 O G GU S0 hl28 hj hjn hcj
def upI (c : Int32) : Int32 := if 97 ≤ c.toInt ∧ c.toInt ≤ 122 then c - 32 else c
def kwI (cs : List Int32) (sn : Nat) (ev : Int32) (ks : List Int32) : Int32 := if ev - sn.toInt32 = ks.length.toInt32 ∧ ((cs.drop sn).take ks.length).map upI = ks then 1 else 0
def smI (c k : Int32) : Int32 := if upI c = k then 1 else 0
theorem own_up (c : Int32) (h : 0 ≤ c.toInt ∧ c.toInt < 65536) : (97 ≤ c.toInt ∧ c.toInt ≤ 122 ∧ (upI c).toInt = c.toInt - 32) ∨ (¬ (97 ≤ c.toInt ∧ c.toInt ≤ 122) ∧ (upI c).toInt = c.toInt) := by
  by_cases q : 97 ≤ c.toInt ∧ c.toInt ≤ 122
  · left
    have a := c_isub c 32
    have r := rng32 (c - 32)
    have e : (32 : Int32).toInt = 32 := rfl
    simp only [upI]; rw [if_pos q]; omega
  · right; simp only [upI]; rw [if_neg q]; exact ⟨q, rfl⟩
theorem own_narc (z : Int32) : 0 ≤ (nar .char z).toInt ∧ (nar .char z).toInt < 65536 := by
  have := c_i2c z
  have e : nar .char z = z.toUInt32.toUInt16.toUInt32.toInt32 := rfl
  rw [e]; omega
theorem own_i2ci {z : Int32} (h : 0 ≤ z.toInt ∧ z.toInt < 65536) : z.toUInt32.toUInt16.toUInt32.toInt32 = z := by
  have q := c_i2c z
  apply Int32.toInt_inj.mp; omega
theorem SG.rng {Z : State} {h : Heap} {a b : Addr} {cs : List Int32} (S : SG Z h a b cs) : ∀ c ∈ cs, 0 ≤ c.toInt ∧ c.toInt < 65536 := by
  rcases S with S | S
  · intro c hc; have := S.2.2.2.2 c hc; omega
  · exact S.2.2.2.2.1
theorem own_addn {i k : Nat} {z : Int32} (h : i + k < 2 ^ 31) (hz : z.toInt = k) : i.toInt32 + z = (i + k).toInt32 := by
  apply Int32.toInt_inj.mp
  have a := c_iadd i.toInt32 z
  have r := rng32 (i.toInt32 + z)
  rw [own_toInt (by omega)] at *
  omega
theorem own_setR {ts : List Int32} {i : Nat} {q : Int32} (h : ∀ c ∈ ts, 0 ≤ c.toInt ∧ c.toInt < 65536) (hq : 0 ≤ q.toInt ∧ q.toInt < 65536) : ∀ c ∈ ts.set i q, 0 ≤ c.toInt ∧ c.toInt < 65536 := fun c hc => by
  rcases List.mem_or_eq_of_mem_set hc with z | z
  · exact h c z
  · rw [z]; exact hq
theorem own_kwt {cs ks : List Int32} {sn i : Nat} {c d : Int32} (h : ((cs.drop sn).take i).map upI = ks.take i) (hc : cs[sn + i]? = some c) (hd : ks[i]? = some d) (q : upI c = d) : ((cs.drop sn).take (i + 1)).map upI = ks.take (i + 1) := by
  rw [List.take_add_one, List.take_add_one, List.getElem?_drop, hc, hd, List.map_append, h]; simp [q]
theorem own_kwd {cs ks : List Int32} {sn i : Nat} {c d : Int32} (hi : i < ks.length) (hc : cs[sn + i]? = some c) (hd : ks[i]? = some d) (q : ¬ upI c = d) : ¬ ((cs.drop sn).take ks.length).map upI = ks := fun e => by
  have a := congrArg (fun l => l[i]?) e
  simp only [List.getElem?_map, List.getElem?_take, hi, if_true, List.getElem?_drop, hc, hd, Option.map_some, Option.some.injEq] at a
  exact q a
theorem own_back3 {sn : Nat} (hs : sn ≤ 2) (tl : Int32) : (sn.toInt32 + tl) - sn.toInt32 = tl := by
  apply Int32.toInt_inj.mp
  have a := c_iadd sn.toInt32 tl
  have b := c_isub (sn.toInt32 + tl) sn.toInt32
  have r1 := rng32 (sn.toInt32 + tl)
  have r2 := rng32 (sn.toInt32 + tl - sn.toInt32)
  have r3 := rng32 tl
  omega
theorem own_set3 {ts : List Int32} {sn : Nat} {q0 q1 q2 : Int32} (hl : ts.length = 5) (hs : sn ≤ 2) : ∀ k ≤ 3, (((((ts.set sn q0).set (sn + 1) q1).set (sn + 2) q2).drop sn).take k) = [q0, q1, q2].take k := by
  intro k hk
  match ts, hl with
  | [x0, x1, x2, x3, x4], _ =>
    have h3 : sn = 0 ∨ sn = 1 ∨ sn = 2 := by omega
    have k3 : k = 0 ∨ k = 1 ∨ k = 2 ∨ k = 3 := by omega
    rcases h3 with rfl | rfl | rfl <;> rcases k3 with rfl | rfl | rfl | rfl <;> rfl
theorem own_get3 {ts : List Int32} {sn : Nat} {q0 q1 q2 : Int32} (hl : ts.length = 5) (hs : sn ≤ 2) : (((ts.set sn q0).set (sn + 1) q1).set (sn + 2) q2)[sn]? = some q0 ∧ (((ts.set sn q0).set (sn + 1) q1).set (sn + 2) q2)[sn + 1]? = some q1 ∧ (((ts.set sn q0).set (sn + 1) q1).set (sn + 2) q2)[sn + 2]? = some q2 := by
  match ts, hl with
  | [x0, x1, x2, x3, x4], _ =>
    have h3 : sn = 0 ∨ sn = 1 ∨ sn = 2 := by omega
    rcases h3 with rfl | rfl | rfl <;> exact ⟨rfl, rfl, rfl⟩
theorem own_kw1 {ts ks : List Int32} {sn : Nat} {q0 q1 q2 tl : Int32} (hl : ts.length = 5) (hs : sn ≤ 2) (hk : ks.length ≤ 3) : kwI (((ts.set sn q0).set (sn + 1) q1).set (sn + 2) q2) sn (sn.toInt32 + tl) ks = if tl = ks.length.toInt32 ∧ ([q0, q1, q2].take ks.length).map upI = ks then 1 else 0 := by
  unfold kwI; rw [own_back3 hs, own_set3 hl hs _ hk]
set_option maxRecDepth 65536 in
set_option maxHeartbeats 40000000 in
theorem c_up (l : Launch) (Z : State) (a0 : Array Value) (hw : ∀ d ∈ tables_1, d.before a0 Z = true) (hE : EW Z a0 consts_1) (xc : Int32) (h0 : Heap) (O : Ext Z.heap h0) (hxc : 0 ≤ xc.toInt ∧ xc.toInt < 65536) :
    Con l Z consts_1 (⟨"com/example/updatable_views/updatableviews/SqlTokenIsKeywordPinLaw", "up", "(C)C"⟩ : MethodName) method_3_code 1 (Option.some Jvm.ClassFile.FieldType.char) ({ frames := 0, cells := 0, slots := 0, locals := 0 } : Room) #[(.int xc)] h0 [] (fun v _ => ∃ k : Int32, v = some (.int k) ∧ (0 ≤ k.toInt ∧ k.toInt < 65536) ∧ ¬ (97 ≤ k.toInt ∧ k.toInt ≤ 122)) := by
  refine Con.of (a0 := a0) #[.val (.int xc)] (plainFor_of_name pn_4) hE O all0 (fun m => by first | (simp [entryFrame, mkF, argsToLocals, Value.category]; done) | rfl) ?_
  intro p e s m below meth c T0 hx hby hml hnm hret hlk hh W0
  refine g_iloadN (pc' := 1) W0.here hx (hb hby d_method_3_0) rfl rfl ?_
  refine g_bipush (97 : Int32) (pc' := 3) W0.here hx (hb hby d_method_3_1) rfl rfl ?_
  by_cases hc3_110 : xc < (97 : Int32)
  · refine g_icmpY (pc' := 20) W0.here hx (hb hby d_method_3_3) rfl (tlt hc3_110).1 ?_
    refine g_iloadN (pc' := 21) W0.here hx (hb hby d_method_3_20) rfl rfl ?_
    refine w_retN (t := .char) W0 hx hh hlk hret (by simp) (hb hby d_method_3_21) (Nat.le_of_ble_eq_true rfl) (Nat.le_of_ble_eq_true rfl) ?_
    simp only [Int32.lt_iff_toInt_lt, own_t0, own_t1, own_t2, own_t3, own_t32, own_t65, own_t90, own_t97, own_t122] at hc3_110
    refine ⟨_, rfl, own_narc _, ?_⟩
    rw [own_nchar hxc]; omega
  · refine g_icmpN (pc' := 6) W0.here hx (hb hby d_method_3_3) rfl (flt hc3_110).1 ?_
    refine g_iloadN (pc' := 7) W0.here hx (hb hby d_method_3_6) rfl rfl ?_
    refine g_bipush (122 : Int32) (pc' := 9) W0.here hx (hb hby d_method_3_7) rfl rfl ?_
    by_cases hc9_111 : (122 : Int32) < xc
    · refine g_icmpY (pc' := 20) W0.here hx (hb hby d_method_3_9) rfl (tlt hc9_111).2.2.1 ?_
      refine g_iloadN (pc' := 21) W0.here hx (hb hby d_method_3_20) rfl rfl ?_
      refine w_retN (t := .char) W0 hx hh hlk hret (by simp) (hb hby d_method_3_21) (Nat.le_of_ble_eq_true rfl) (Nat.le_of_ble_eq_true rfl) ?_
      simp only [Int32.lt_iff_toInt_lt, own_t0, own_t1, own_t2, own_t3, own_t32, own_t65, own_t90, own_t97, own_t122] at hc3_110 hc9_111
      refine ⟨_, rfl, own_narc _, ?_⟩
      rw [own_nchar hxc]; omega
    · refine g_icmpN (pc' := 12) W0.here hx (hb hby d_method_3_9) rfl (flt hc9_111).2.2.1 ?_
      refine g_iloadN (pc' := 13) W0.here hx (hb hby d_method_3_12) rfl rfl ?_
      refine g_bipush (32 : Int32) (pc' := 15) W0.here hx (hb hby d_method_3_13) rfl rfl ?_
      refine g_isub (pc' := 16) W0.here hx (hb hby d_method_3_15) rfl ?_
      refine g_i2c (pc' := 17) W0.here hx (hb hby d_method_3_16) rfl ?_
      refine g_goto (pc' := 21) W0.here hx (hb hby d_method_3_17) rfl ?_
      refine w_retN (t := .char) W0 hx hh hlk hret (by simp) (hb hby d_method_3_21) (Nat.le_of_ble_eq_true rfl) (Nat.le_of_ble_eq_true rfl) ?_
      simp only [Int32.lt_iff_toInt_lt, own_t0, own_t1, own_t2, own_t3, own_t32, own_t65, own_t90, own_t97, own_t122] at hc3_110 hc9_111
      refine ⟨_, rfl, own_narc _, ?_⟩
      have q1 := c_isub xc 32
      have r1 := rng32 (xc - 32)
      have e1 := own_t32
      rw [own_i2ci (by omega), own_nchar (by omega)]; omega
set_option maxRecDepth 65536 in
set_option maxHeartbeats 40000000 in
theorem c_place (l : Launch) (Z : State) (a0 : Array Value) (hw : ∀ d ∈ tables_1, d.before a0 Z = true) (hE : EW Z a0 consts_1) (xr xk xm : Int32) (h0 : Heap) (O : Ext Z.heap h0)  :
    Con l Z consts_1 (⟨"com/example/updatable_views/updatableviews/SqlTokenIsKeywordPinLaw", "place", "(CCI)C"⟩ : MethodName) method_4_code 3 (Option.some Jvm.ClassFile.FieldType.char) ({ frames := 0, cells := 0, slots := 0, locals := 0 } : Room) #[(.int xr), (.int xk), (.int xm)] h0 [] (fun v _ => ∃ c : Int32, v = some (.int c) ∧ 0 ≤ c.toInt ∧ c.toInt < 65536) := by
  refine Con.of (a0 := a0) #[.val (.int xr), .val (.int xk), .val (.int xm)] (plainFor_of_name pn_4) hE O all0 (fun m => by first | (simp [entryFrame, mkF, argsToLocals, Value.category]; done) | rfl) ?_
  intro p e s m below meth c T0 hx hby hml hnm hret hlk hh W0
  refine g_iloadN (pc' := 1) W0.here hx (hb hby d_method_4_0) rfl rfl ?_
  by_cases hc1_112 : xm = (0 : Int32)
  · refine g_ifN (pc' := 4) W0.here hx (hb hby d_method_4_1) rfl (teq hc1_112).2 ?_
    refine g_iloadN (pc' := 5) W0.here hx (hb hby d_method_4_4) rfl rfl ?_
    refine w_retN (t := .char) W0 hx hh hlk hret (by simp) (hb hby d_method_4_5) (Nat.le_of_ble_eq_true rfl) (Nat.le_of_ble_eq_true rfl) ?_
    exact ⟨_, rfl, own_narc _⟩
  · refine g_ifY (pc' := 6) W0.here hx (hb hby d_method_4_1) rfl (feq hc1_112).2 ?_
    refine g_iloadN (pc' := 7) W0.here hx (hb hby d_method_4_6) rfl rfl ?_
    refine g_iconst (1 : Int32) (pc' := 8) W0.here hx (hb hby d_method_4_7) rfl rfl ?_
    by_cases hc8_113 : xm = (1 : Int32)
    · refine g_icmpN (pc' := 11) W0.here hx (hb hby d_method_4_8) rfl (teq hc8_113).2 ?_
      refine g_iloadN (pc' := 12) W0.here hx (hb hby d_method_4_11) rfl rfl ?_
      refine g_bipush (65 : Int32) (pc' := 14) W0.here hx (hb hby d_method_4_12) rfl rfl ?_
      by_cases hc14_114 : xk < (65 : Int32)
      · refine g_icmpY (pc' := 31) W0.here hx (hb hby d_method_4_14) rfl (tlt hc14_114).1 ?_
        refine g_iloadN (pc' := 32) W0.here hx (hb hby d_method_4_31) rfl rfl ?_
        refine w_retN (t := .char) W0 hx hh hlk hret (by simp) (hb hby d_method_4_32) (Nat.le_of_ble_eq_true rfl) (Nat.le_of_ble_eq_true rfl) ?_
        exact ⟨_, rfl, own_narc _⟩
      · refine g_icmpN (pc' := 17) W0.here hx (hb hby d_method_4_14) rfl (flt hc14_114).1 ?_
        refine g_iloadN (pc' := 18) W0.here hx (hb hby d_method_4_17) rfl rfl ?_
        refine g_bipush (90 : Int32) (pc' := 20) W0.here hx (hb hby d_method_4_18) rfl rfl ?_
        by_cases hc20_115 : (90 : Int32) < xk
        · refine g_icmpY (pc' := 31) W0.here hx (hb hby d_method_4_20) rfl (tlt hc20_115).2.2.1 ?_
          refine g_iloadN (pc' := 32) W0.here hx (hb hby d_method_4_31) rfl rfl ?_
          refine w_retN (t := .char) W0 hx hh hlk hret (by simp) (hb hby d_method_4_32) (Nat.le_of_ble_eq_true rfl) (Nat.le_of_ble_eq_true rfl) ?_
          exact ⟨_, rfl, own_narc _⟩
        · refine g_icmpN (pc' := 23) W0.here hx (hb hby d_method_4_20) rfl (flt hc20_115).2.2.1 ?_
          refine g_iloadN (pc' := 24) W0.here hx (hb hby d_method_4_23) rfl rfl ?_
          refine g_bipush (32 : Int32) (pc' := 26) W0.here hx (hb hby d_method_4_24) rfl rfl ?_
          refine g_iadd (pc' := 27) W0.here hx (hb hby d_method_4_26) rfl ?_
          refine g_i2c (pc' := 28) W0.here hx (hb hby d_method_4_27) rfl ?_
          refine g_goto (pc' := 32) W0.here hx (hb hby d_method_4_28) rfl ?_
          refine w_retN (t := .char) W0 hx hh hlk hret (by simp) (hb hby d_method_4_32) (Nat.le_of_ble_eq_true rfl) (Nat.le_of_ble_eq_true rfl) ?_
          exact ⟨_, rfl, own_narc _⟩
    · refine g_icmpY (pc' := 33) W0.here hx (hb hby d_method_4_8) rfl (feq hc8_113).2 ?_
      refine g_iloadN (pc' := 34) W0.here hx (hb hby d_method_4_33) rfl rfl ?_
      refine w_retN (t := .char) W0 hx hh hlk hret (by simp) (hb hby d_method_4_34) (Nat.le_of_ble_eq_true rfl) (Nat.le_of_ble_eq_true rfl) ?_
      exact ⟨_, rfl, own_narc _⟩
set_option maxRecDepth 65536 in
set_option maxHeartbeats 40000000 in
theorem c_same (l : Launch) (Z : State) (a0 : Array Value) (hw : ∀ d ∈ tables_1, d.before a0 Z = true) (hE : EW Z a0 consts_1) (xa xb : Int32) (h0 : Heap) (O : Ext Z.heap h0) (hxa : 0 ≤ xa.toInt ∧ xa.toInt < 65536) (hxb : 0 ≤ xb.toInt ∧ xb.toInt < 65536) (hnb : ¬ (97 ≤ xb.toInt ∧ xb.toInt ≤ 122)) :
    Con l Z consts_1 (⟨"com/example/updatable_views/updatableviews/SqlTokenIsKeywordPinLaw", "same", "(CC)Z"⟩ : MethodName) method_5_code 2 (Option.some Jvm.ClassFile.FieldType.boolean) ({ frames := 0, cells := 0, slots := 0, locals := 0 } : Room) #[(.int xa), (.int xb)] h0 [] (pureQ (some (.int (smI xa xb))) h0) := by
  refine Con.of (a0 := a0) #[.val (.int xa), .val (.int xb)] (plainFor_of_name pn_4) hE O all0 (fun m => by first | (simp [entryFrame, mkF, argsToLocals, Value.category]; done) | rfl) ?_
  intro p e s m below meth c T0 hx hby hml hnm hret hlk hh W0
  refine g_iloadN (pc' := 1) W0.here hx (hb hby d_method_5_0) rfl rfl ?_
  refine g_iloadN (pc' := 2) W0.here hx (hb hby d_method_5_1) rfl rfl ?_
  by_cases hc2_116 : xa = xb
  · refine g_icmpY (pc' := 25) W0.here hx (hb hby d_method_5_2) rfl (teq hc2_116).1 ?_
    refine g_iconst (1 : Int32) (pc' := 26) W0.here hx (hb hby d_method_5_25) rfl rfl ?_
    refine g_goto (pc' := 30) W0.here hx (hb hby d_method_5_26) rfl ?_
    refine w_retN (t := .boolean) W0 hx hh hlk hret (by simp) (hb hby d_method_5_30) (Nat.le_of_ble_eq_true rfl) (Nat.le_of_ble_eq_true rfl) ?_
    refine ⟨congrArg (fun z => some (Value.int z)) ?_, rfl⟩
    simp only [Int32.lt_iff_toInt_lt, ← Int32.toInt_inj, own_t0, own_t1, own_t2, own_t3, own_t32, own_t65, own_t90, own_t97, own_t122] at hc2_116
    have A := own_up xa hxa
    have q2 := c_iadd xb 32
    have r2 := rng32 (xb + 32)
    have e1 := own_t32
    show _ = smI xa xb
    unfold smI
    rw [if_pos (by rw [← Int32.toInt_inj]; omega)]; rfl
  · refine g_icmpN (pc' := 5) W0.here hx (hb hby d_method_5_2) rfl (feq hc2_116).1 ?_
    refine g_iloadN (pc' := 6) W0.here hx (hb hby d_method_5_5) rfl rfl ?_
    refine g_bipush (65 : Int32) (pc' := 8) W0.here hx (hb hby d_method_5_6) rfl rfl ?_
    by_cases hc8_117 : xb < (65 : Int32)
    · refine g_icmpY (pc' := 29) W0.here hx (hb hby d_method_5_8) rfl (tlt hc8_117).1 ?_
      refine g_iconst (0 : Int32) (pc' := 30) W0.here hx (hb hby d_method_5_29) rfl rfl ?_
      refine w_retN (t := .boolean) W0 hx hh hlk hret (by simp) (hb hby d_method_5_30) (Nat.le_of_ble_eq_true rfl) (Nat.le_of_ble_eq_true rfl) ?_
      refine ⟨congrArg (fun z => some (Value.int z)) ?_, rfl⟩
      simp only [Int32.lt_iff_toInt_lt, ← Int32.toInt_inj, own_t0, own_t1, own_t2, own_t3, own_t32, own_t65, own_t90, own_t97, own_t122] at hc2_116 hc8_117
      have A := own_up xa hxa
      have q2 := c_iadd xb 32
      have r2 := rng32 (xb + 32)
      have e1 := own_t32
      show _ = smI xa xb
      unfold smI
      rw [if_neg (by rw [← Int32.toInt_inj]; omega)]; rfl
    · refine g_icmpN (pc' := 11) W0.here hx (hb hby d_method_5_8) rfl (flt hc8_117).1 ?_
      refine g_iloadN (pc' := 12) W0.here hx (hb hby d_method_5_11) rfl rfl ?_
      refine g_bipush (90 : Int32) (pc' := 14) W0.here hx (hb hby d_method_5_12) rfl rfl ?_
      by_cases hc14_118 : (90 : Int32) < xb
      · refine g_icmpY (pc' := 29) W0.here hx (hb hby d_method_5_14) rfl (tlt hc14_118).2.2.1 ?_
        refine g_iconst (0 : Int32) (pc' := 30) W0.here hx (hb hby d_method_5_29) rfl rfl ?_
        refine w_retN (t := .boolean) W0 hx hh hlk hret (by simp) (hb hby d_method_5_30) (Nat.le_of_ble_eq_true rfl) (Nat.le_of_ble_eq_true rfl) ?_
        refine ⟨congrArg (fun z => some (Value.int z)) ?_, rfl⟩
        simp only [Int32.lt_iff_toInt_lt, ← Int32.toInt_inj, own_t0, own_t1, own_t2, own_t3, own_t32, own_t65, own_t90, own_t97, own_t122] at hc2_116 hc8_117 hc14_118
        have A := own_up xa hxa
        have q2 := c_iadd xb 32
        have r2 := rng32 (xb + 32)
        have e1 := own_t32
        show _ = smI xa xb
        unfold smI
        rw [if_neg (by rw [← Int32.toInt_inj]; omega)]; rfl
      · refine g_icmpN (pc' := 17) W0.here hx (hb hby d_method_5_14) rfl (flt hc14_118).2.2.1 ?_
        refine g_iloadN (pc' := 18) W0.here hx (hb hby d_method_5_17) rfl rfl ?_
        refine g_iloadN (pc' := 19) W0.here hx (hb hby d_method_5_18) rfl rfl ?_
        refine g_bipush (32 : Int32) (pc' := 21) W0.here hx (hb hby d_method_5_19) rfl rfl ?_
        refine g_iadd (pc' := 22) W0.here hx (hb hby d_method_5_21) rfl ?_
        by_cases hc22_119 : xa = (xb + (32 : Int32))
        · refine g_icmpN (pc' := 25) W0.here hx (hb hby d_method_5_22) rfl (teq hc22_119).2 ?_
          refine g_iconst (1 : Int32) (pc' := 26) W0.here hx (hb hby d_method_5_25) rfl rfl ?_
          refine g_goto (pc' := 30) W0.here hx (hb hby d_method_5_26) rfl ?_
          refine w_retN (t := .boolean) W0 hx hh hlk hret (by simp) (hb hby d_method_5_30) (Nat.le_of_ble_eq_true rfl) (Nat.le_of_ble_eq_true rfl) ?_
          refine ⟨congrArg (fun z => some (Value.int z)) ?_, rfl⟩
          simp only [Int32.lt_iff_toInt_lt, ← Int32.toInt_inj, own_t0, own_t1, own_t2, own_t3, own_t32, own_t65, own_t90, own_t97, own_t122] at hc2_116 hc8_117 hc14_118 hc22_119
          have A := own_up xa hxa
          have q2 := c_iadd xb 32
          have r2 := rng32 (xb + 32)
          have e1 := own_t32
          show _ = smI xa xb
          unfold smI
          rw [if_pos (by rw [← Int32.toInt_inj]; omega)]; rfl
        · refine g_icmpY (pc' := 29) W0.here hx (hb hby d_method_5_22) rfl (feq hc22_119).2 ?_
          refine g_iconst (0 : Int32) (pc' := 30) W0.here hx (hb hby d_method_5_29) rfl rfl ?_
          refine w_retN (t := .boolean) W0 hx hh hlk hret (by simp) (hb hby d_method_5_30) (Nat.le_of_ble_eq_true rfl) (Nat.le_of_ble_eq_true rfl) ?_
          refine ⟨congrArg (fun z => some (Value.int z)) ?_, rfl⟩
          simp only [Int32.lt_iff_toInt_lt, ← Int32.toInt_inj, own_t0, own_t1, own_t2, own_t3, own_t32, own_t65, own_t90, own_t97, own_t122] at hc2_116 hc8_117 hc14_118 hc22_119
          have A := own_up xa hxa
          have q2 := c_iadd xb 32
          have r2 := rng32 (xb + 32)
          have e1 := own_t32
          show _ = smI xa xb
          unfold smI
          rw [if_neg (by rw [← Int32.toInt_inj]; omega)]; rfl
set_option maxRecDepth 65536 in
set_option maxHeartbeats 40000000 in
theorem c_tok (l : Launch) (Z : State) (a0 : Array Value) (hw : ∀ d ∈ tables_1, d.before a0 Z = true) (hE : EW Z a0 consts_1) (o : Nat) (u0 : Value) (u1 : Int32) (u2 : Int32) (h0 : Heap) (O : Ext Z.heap h0) (hz : Z.heap.size ≤ o) (E0 : Exa Z h0 o "com/example/updatable_views/updatableviews/SqlToken") (hu0 : u0.isRef = true) (x0 : Value) (F0 : Fld Z h0 o "com/example/updatable_views/updatableviews/SqlToken" "kind" "Lcom/example/updatable_views/updatableviews/SqlToken$Kind;" x0) (x1 : Value) (F1 : Fld Z h0 o "com/example/updatable_views/updatableviews/SqlToken" "start" "I" x1) (x2 : Value) (F2 : Fld Z h0 o "com/example/updatable_views/updatableviews/SqlToken" "end" "I" x2)  :
    Con l Z consts_1 (⟨"com/example/updatable_views/updatableviews/SqlToken", "<init>", "(Lcom/example/updatable_views/updatableviews/SqlToken$Kind;II)V"⟩ : MethodName) prog_10_method_1_code 4 (Option.none : Option Jvm.ClassFile.FieldType) ({ frames := 1, cells := 0, slots := 0, locals := 12 } : Room) #[(.ref o), u0, (.int u1), (.int u2)] h0 [o] (fun v h => v = none ∧ Exa Z h o "com/example/updatable_views/updatableviews/SqlToken" ∧ Fld Z h o "com/example/updatable_views/updatableviews/SqlToken" "kind" "Lcom/example/updatable_views/updatableviews/SqlToken$Kind;" u0 ∧ Fld Z h o "com/example/updatable_views/updatableviews/SqlToken" "start" "I" (.int u1) ∧ Fld Z h o "com/example/updatable_views/updatableviews/SqlToken" "end" "I" (.int u2)) := by
  refine Con.of (a0 := a0) #[.val (.ref o), .val u0, .val (.int u1), .val (.int u2)] (plainFor_of_name pn_5) hE O (allS ⟨hz, E0.lt⟩ all0) (fun m => by rcases ref_cases hu0 with rfl | ⟨_, rfl⟩ <;> rfl) ?_
  intro p e s m below meth c T0 hx hby hml hnm hret hlk hh W0
  refine g_aloadN (pc' := 1) W0.here hx (hb hby d_prog_10_1_0) rfl rfl rfl ?_
  refine w_initO (pc' := 4) W0 hx (hw _ (List.mem_of_getElem? w_87)) (hw _ (List.mem_of_getElem? w_41)) (hw _ (List.mem_of_getElem? w_42)) (by rw [hml]; rfl) (hb hby d_prog_10_1_1) (Nat.le_of_ble_eq_true rfl) (Nat.le_of_ble_eq_true rfl) rfl fun T120 W120 => ?_
  refine g_aloadN (pc' := 5) W120.here hx (hb hby d_prog_10_1_4) rfl rfl rfl ?_
  refine g_aloadN (pc' := 6) W120.here hx (hb hby d_prog_10_1_5) rfl hu0 rfl ?_
  refine w_put (pc' := 9) W120 hx (hw _ (List.mem_of_getElem? w_88)) Via.refl F0 E0 (Or.inr ⟨(hw _ (List.mem_of_getElem? w_89)), rfl, hnm⟩) (hw _ (List.mem_of_getElem? w_82)) (ty := (.object "com/example/updatable_views/updatableviews/SqlToken$Kind")) (by decide) (own_narO hu0) (own_fitsO hu0) (List.mem_of_getElem? (i := 0) rfl) (hb hby d_prog_10_1_6) rfl fun T121 h121 W121 K121 R121 F121 A121 => ?_
  have z_K121 : h0.size ≤ h121.size := K121.1
  have c122 := (F1.other R121 (Or.inr (slot_ne (Or.inr (hw _ (List.mem_of_getElem? w_91))) (Or.inr (hw _ (List.mem_of_getElem? w_89))) (by decide) (t := .int) (t' := (.object "com/example/updatable_views/updatableviews/SqlToken$Kind")) (by decide) (by decide))))
  have c123 := (F2.other R121 (Or.inr (slot_ne (Or.inr (hw _ (List.mem_of_getElem? w_93))) (Or.inr (hw _ (List.mem_of_getElem? w_89))) (by decide) (t := .int) (t' := (.object "com/example/updatable_views/updatableviews/SqlToken$Kind")) (by decide) (by decide))))
  refine g_aloadN (pc' := 10) W121.here hx (hb hby d_prog_10_1_9) rfl rfl rfl ?_
  refine g_iloadN (pc' := 11) W121.here hx (hb hby d_prog_10_1_10) rfl rfl ?_
  refine w_put (pc' := 14) W121 hx (hw _ (List.mem_of_getElem? w_90)) Via.refl c122 A121 (Or.inr ⟨(hw _ (List.mem_of_getElem? w_91)), rfl, hnm⟩) (hw _ (List.mem_of_getElem? w_82)) (ty := .int) (by decide) rfl rfl (List.mem_of_getElem? (i := 0) rfl) (hb hby d_prog_10_1_11) rfl fun T124 h124 W124 K124 R124 F124 A124 => ?_
  have z_K124 : h121.size ≤ h124.size := K124.1
  have c125 := (F121.other R124 (Or.inr (slot_ne (Or.inr (hw _ (List.mem_of_getElem? w_89))) (Or.inr (hw _ (List.mem_of_getElem? w_91))) (by decide) (t := (.object "com/example/updatable_views/updatableviews/SqlToken$Kind")) (t' := .int) (by decide) (by decide))))
  have c126 := (c123.other R124 (Or.inr (slot_ne (Or.inr (hw _ (List.mem_of_getElem? w_93))) (Or.inr (hw _ (List.mem_of_getElem? w_91))) (by decide) (t := .int) (t' := .int) (by decide) (by decide))))
  refine g_aloadN (pc' := 15) W124.here hx (hb hby d_prog_10_1_14) rfl rfl rfl ?_
  refine g_iloadN (pc' := 16) W124.here hx (hb hby d_prog_10_1_15) rfl rfl ?_
  refine w_put (pc' := 19) W124 hx (hw _ (List.mem_of_getElem? w_92)) Via.refl c126 A124 (Or.inr ⟨(hw _ (List.mem_of_getElem? w_93)), rfl, hnm⟩) (hw _ (List.mem_of_getElem? w_82)) (ty := .int) (by decide) rfl rfl (List.mem_of_getElem? (i := 0) rfl) (hb hby d_prog_10_1_16) rfl fun T127 h127 W127 K127 R127 F127 A127 => ?_
  have z_K127 : h124.size ≤ h127.size := K127.1
  have c128 := (c125.other R127 (Or.inr (slot_ne (Or.inr (hw _ (List.mem_of_getElem? w_89))) (Or.inr (hw _ (List.mem_of_getElem? w_93))) (by decide) (t := (.object "com/example/updatable_views/updatableviews/SqlToken$Kind")) (t' := .int) (by decide) (by decide))))
  have c129 := (F124.other R127 (Or.inr (slot_ne (Or.inr (hw _ (List.mem_of_getElem? w_91))) (Or.inr (hw _ (List.mem_of_getElem? w_93))) (by decide) (t := .int) (t' := .int) (by decide) (by decide))))
  refine w_retV W127 hx hh hlk hret (hb hby d_prog_10_1_19) (Nat.le_of_ble_eq_true rfl) (Nat.le_of_ble_eq_true rfl) ?_
  exact ⟨rfl, A127, c128, c129, F127⟩
set_option maxRecDepth 65536 in
set_option maxHeartbeats 40000000 in
theorem c_isKwN (l : Launch) (Z : State) (a0 : Array Value) (hw : ∀ d ∈ tables_1, d.before a0 Z = true) (hE : EW Z a0 consts_1) (kW kd o a a2 sn : Nat) (ev : Int32) (h0 : Heap) (O : Ext Z.heap h0) (S_kW : Sta Z Z.heap "com/example/updatable_views/updatableviews/SqlToken$Kind" "WORD" "Lcom/example/updatable_views/updatableviews/SqlToken$Kind;" (.ref kW)) (nek : kd ≠ kW) (F1 : Fld Z h0 o "com/example/updatable_views/updatableviews/SqlToken" "kind" "Lcom/example/updatable_views/updatableviews/SqlToken$Kind;" (.ref kd)) (F2 : Fld Z h0 o "com/example/updatable_views/updatableviews/SqlToken" "start" "I" (.int sn.toInt32)) (F3 : Fld Z h0 o "com/example/updatable_views/updatableviews/SqlToken" "end" "I" (.int ev))  :
    Con l Z consts_1 (⟨"com/example/updatable_views/updatableviews/SqlToken", "isKeyword", "(Ljava/lang/CharSequence;Ljava/lang/String;)Z"⟩ : MethodName) prog_10_method_5_code 6 (Option.some Jvm.ClassFile.FieldType.boolean) ({ frames := 0, cells := 0, slots := 0, locals := 0 } : Room) #[(.ref o), (.ref a), (.ref a2)] h0 [] (pureQ (some (.int 0)) h0) := by
  refine Con.of (a0 := a0) #[.val (.ref o), .val (.ref a), .val (.ref a2), .unset, .unset, .unset] (plainFor_of_name pn_5) hE O all0 (fun m => by first | (simp [entryFrame, mkF, argsToLocals, Value.category]; done) | rfl) ?_
  intro p e s m below meth c T0 hx hby hml hnm hret hlk hh W0
  refine g_aloadN (pc' := 1) W0.here hx (hb hby d_prog_10_5_0) rfl rfl rfl ?_
  refine w_get (pc' := 4) W0 hx (hw _ (List.mem_of_getElem? w_88)) Via.refl F1 (hb hby d_prog_10_5_1) rfl fun T130 W130 => ?_
  refine w_getS (pc' := 7) W130 hx (hw _ (List.mem_of_getElem? w_99)) Via.refl S_kW (hb hby d_prog_10_5_4) rfl fun T131 W131 => ?_
  refine w_acmp (pc' := 26) W131 hx rfl rfl false (hb hby d_prog_10_5_7) (decide_eq_false fun q => nek (Value.ref.inj q)) (by decide) (by decide) ?_
  refine g_iconst (0 : Int32) (pc' := 27) W131.here hx (hb hby d_prog_10_5_26) rfl rfl ?_
  refine w_retN (t := .boolean) W131 hx hh hlk hret (by simp) (hb hby d_prog_10_5_27) (Nat.le_of_ble_eq_true rfl) (Nat.le_of_ble_eq_true rfl) ?_
  exact ⟨rfl, rfl⟩
set_option maxRecDepth 65536 in
set_option maxHeartbeats 40000000 in
theorem c_isKwY (l : Launch) (Z : State) (a0 : Array Value) (hw : ∀ d ∈ tables_1, d.before a0 Z = true) (hE : EW Z a0 consts_1) (cc : Int32) (fm : Value) (kW o a b a2 b2 sn : Nat) (ev : Int32) (cs ks : List Int32) (h0 : Heap) (O : Ext Z.heap h0) (G : SEnv Z cc fm) (GU : SEnvU Z) (S_kW : Sta Z Z.heap "com/example/updatable_views/updatableviews/SqlToken$Kind" "WORD" "Lcom/example/updatable_views/updatableviews/SqlToken$Kind;" (.ref kW)) (F1 : Fld Z h0 o "com/example/updatable_views/updatableviews/SqlToken" "kind" "Lcom/example/updatable_views/updatableviews/SqlToken$Kind;" (.ref kW)) (F2 : Fld Z h0 o "com/example/updatable_views/updatableviews/SqlToken" "start" "I" (.int sn.toInt32)) (F3 : Fld Z h0 o "com/example/updatable_views/updatableviews/SqlToken" "end" "I" (.int ev)) (S1 : SG Z h0 a b cs) (S2 : SG Z h0 a2 b2 ks) (hl1 : cs.length ≤ 2 ^ 28) (hl2 : ks.length ≤ 2 ^ 28) (hfit : sn + ks.length ≤ cs.length) :
    Con l Z consts_1 (⟨"com/example/updatable_views/updatableviews/SqlToken", "isKeyword", "(Ljava/lang/CharSequence;Ljava/lang/String;)Z"⟩ : MethodName) prog_10_method_5_code 6 (Option.some Jvm.ClassFile.FieldType.boolean) ({ frames := 5, cells := 0, slots := 0, locals := 67 } : Room) #[(.ref o), (.ref a), (.ref a2)] h0 [] (pureQ (some (.int (kwI cs sn ev ks))) h0) := by
  refine Con.of (a0 := a0) #[.val (.ref o), .val (.ref a), .val (.ref a2), .unset, .unset, .unset] (plainFor_of_name pn_5) hE O all0 (fun m => by first | (simp [entryFrame, mkF, argsToLocals, Value.category]; done) | rfl) ?_
  intro p e s m below meth c T0 hx hby hml hnm hret hlk hh W0
  have ES1 := S1.exa
  have lt_a : a < h0.size := S1.lt
  have lt_b : b < h0.size := S1.ltb
  have ES2 := S2.exa
  have lt_a2 : a2 < h0.size := S2.lt
  have lt_b2 : b2 < h0.size := S2.ltb
  have hlen : ks.length < 2 ^ 31 := by omega
  refine g_aloadN (pc' := 1) W0.here hx (hb hby d_prog_10_5_0) rfl rfl rfl ?_
  refine w_get (pc' := 4) W0 hx (hw _ (List.mem_of_getElem? w_88)) Via.refl F1 (hb hby d_prog_10_5_1) rfl fun T132 W132 => ?_
  refine w_getS (pc' := 7) W132 hx (hw _ (List.mem_of_getElem? w_99)) Via.refl S_kW (hb hby d_prog_10_5_4) rfl fun T133 W133 => ?_
  refine w_acmp (pc' := 10) W133 hx rfl rfl true (hb hby d_prog_10_5_7) (decide_eq_true rfl) (by decide) (by decide) ?_
  refine g_aloadN (pc' := 11) W133.here hx (hb hby d_prog_10_5_10) rfl rfl rfl ?_
  refine w_get (pc' := 14) W133 hx (hw _ (List.mem_of_getElem? w_92)) Via.refl F3 (hb hby d_prog_10_5_11) rfl fun T134 W134 => ?_
  refine g_aloadN (pc' := 15) W134.here hx (hb hby d_prog_10_5_14) rfl rfl rfl ?_
  refine w_get (pc' := 18) W134 hx (hw _ (List.mem_of_getElem? w_90)) Via.refl F2 (hb hby d_prog_10_5_15) rfl fun T135 W135 => ?_
  refine g_isub (pc' := 19) W135.here hx (hb hby d_prog_10_5_18) rfl ?_
  refine g_aloadN (pc' := 20) W135.here hx (hb hby d_prog_10_5_19) rfl rfl rfl ?_
  refine w_virtualp (pc' := 23) (st := [(.int (ev - sn.toInt32))]) (y := (⟨"java/lang/String", "length", "()I"⟩ : MethodName)) (z := (⟨"java/lang/String", "length", "()I"⟩ : MethodName)) (a := a2) W135 hx [] (hw _ (List.mem_of_getElem? w_100)) (hw _ (List.mem_of_getElem? w_101)) (nfS (z := (⟨"java/lang/String", "length", "()I"⟩ : MethodName)) (hw _ (List.mem_of_getElem? w_103))) (hw _ (List.mem_of_getElem? w_103)) (hw _ (List.mem_of_getElem? w_102)) (hw _ (List.mem_of_getElem? w_32)) (hw _ (List.mem_of_getElem? w_104)) (by decide) (c_length l Z a0 hw hE cc fm a2 b2 ks  h0 W135.old G GU S2 ) ES2 (by rw [hml]; rfl) (lenOf pd_14 rfl) rfl (hb hby d_prog_10_5_20) (Nat.le_of_ble_eq_true rfl) (Nat.le_of_ble_eq_true rfl) rfl rfl (Nat.le_of_ble_eq_true rfl) (Nat.le_of_ble_eq_true rfl) rfl fun T136 W136 => ?_
  by_cases hc23_137 : (ev - sn.toInt32) = ks.length.toInt32
  · refine g_icmpY (pc' := 28) W136.here hx (hb hby d_prog_10_5_23) rfl (teq hc23_137).1 ?_
    refine g_iconst (0 : Int32) (pc' := 29) W136.here hx (hb hby d_prog_10_5_28) rfl rfl ?_
    refine g_istoreN (pc' := 30) (Ls' := #[.val (.ref o), .val (.ref a), .val (.ref a2), .val (.int (0 : Int32)), .unset, .unset]) W136.here hx (hb hby d_prog_10_5_29) rfl rfl ?_
    have LOOP : ∀ (k i : Nat), i + k = ks.length → ∀ (TL : State) (o4 : Slot) (o5 : Slot), One o4 → One o5 → Wk p l e ({ frames := 5, cells := 0, slots := 0, locals := 67 } : Room) s m #[(.ref o), (.ref a), (.ref a2)] below meth c Z consts_1 "com/example/updatable_views/updatableviews/SqlToken" [] [] TL h0 0 0 → ((cs.drop sn).take i).map upI = ks.take i → Gets p.tables e below (Post s Z consts_1 ({ frames := 5, cells := 0, slots := 0, locals := 67 } : Room) h0 [] (pureQ (some (.int (kwI cs sn ev ks))) h0)) TL (mkF m 30 #[.val (.ref o), .val (.ref a), .val (.ref a2), .val (.int i.toInt32), o4, o5] []) := by
      intro k
      induction k with
      | zero =>
        intro i hi TL o4 o5 ho_o4 ho_o5 WL HP
        refine g_iloadN (pc' := 31) WL.here hx (hb hby d_prog_10_5_30) rfl rfl ?_
        refine g_aloadN (pc' := 32) WL.here hx (hb hby d_prog_10_5_31) rfl rfl rfl ?_
        refine w_virtualp (pc' := 35) (st := [(.int i.toInt32)]) (y := (⟨"java/lang/String", "length", "()I"⟩ : MethodName)) (z := (⟨"java/lang/String", "length", "()I"⟩ : MethodName)) (a := a2) WL hx [] (hw _ (List.mem_of_getElem? w_100)) (hw _ (List.mem_of_getElem? w_101)) (nfS (z := (⟨"java/lang/String", "length", "()I"⟩ : MethodName)) (hw _ (List.mem_of_getElem? w_103))) (hw _ (List.mem_of_getElem? w_103)) (hw _ (List.mem_of_getElem? w_102)) (hw _ (List.mem_of_getElem? w_32)) (hw _ (List.mem_of_getElem? w_104)) (by decide) (c_length l Z a0 hw hE cc fm a2 b2 ks  h0 WL.old G GU S2 ) ES2 (by rw [hml]; rfl) (lenOf pd_14 rfl) rfl (hb hby d_prog_10_5_32) (Nat.le_of_ble_eq_true rfl) (Nat.le_of_ble_eq_true rfl) rfl rfl (Nat.le_of_ble_eq_true rfl) (Nat.le_of_ble_eq_true rfl) rfl fun T138 W138 => ?_
        refine g_icmpY (pc' := 100) W138.here hx (hb hby d_prog_10_5_35) rfl (flt (show ¬ (i.toInt32 < ks.length.toInt32) from (own_nltn (by omega) (by omega)))).2.1 ?_
        refine g_iconst (1 : Int32) (pc' := 101) W138.here hx (hb hby d_prog_10_5_100) rfl rfl ?_
        refine w_retN (t := .boolean) W138 hx hh hlk hret (by simp) (hb hby d_prog_10_5_101) (Nat.le_of_ble_eq_true rfl) (Nat.le_of_ble_eq_true rfl) ?_
        refine ⟨congrArg (fun z => some (Value.int z)) ?_, rfl⟩
        show _ = kwI cs sn ev ks
        unfold kwI
        rw [show i = ks.length by omega, List.take_of_length_le (l := ks) (Nat.le_refl _)] at HP
        rw [if_pos ⟨hc23_137, HP⟩]; rfl
      | succ k ih =>
        intro i hi TL o4 o5 ho_o4 ho_o5 WL HP
        have hi2 : i < ks.length := by omega
        obtain ⟨ci, hci⟩ : ∃ z, cs[sn + i]? = some z := ⟨_, List.getElem?_eq_getElem (by omega)⟩
        obtain ⟨di, hdi⟩ : ∃ z, ks[i]? = some z := ⟨_, List.getElem?_eq_getElem hi2⟩
        have r_ci := S1.rng ci (List.mem_of_getElem? hci)
        refine g_iloadN (pc' := 31) WL.here hx (hb hby d_prog_10_5_30) rfl rfl ?_
        refine g_aloadN (pc' := 32) WL.here hx (hb hby d_prog_10_5_31) rfl rfl rfl ?_
        refine w_virtualp (pc' := 35) (st := [(.int i.toInt32)]) (y := (⟨"java/lang/String", "length", "()I"⟩ : MethodName)) (z := (⟨"java/lang/String", "length", "()I"⟩ : MethodName)) (a := a2) WL hx [] (hw _ (List.mem_of_getElem? w_100)) (hw _ (List.mem_of_getElem? w_101)) (nfS (z := (⟨"java/lang/String", "length", "()I"⟩ : MethodName)) (hw _ (List.mem_of_getElem? w_103))) (hw _ (List.mem_of_getElem? w_103)) (hw _ (List.mem_of_getElem? w_102)) (hw _ (List.mem_of_getElem? w_32)) (hw _ (List.mem_of_getElem? w_104)) (by decide) (c_length l Z a0 hw hE cc fm a2 b2 ks  h0 WL.old G GU S2 ) ES2 (by rw [hml]; rfl) (lenOf pd_14 rfl) rfl (hb hby d_prog_10_5_32) (Nat.le_of_ble_eq_true rfl) (Nat.le_of_ble_eq_true rfl) rfl rfl (Nat.le_of_ble_eq_true rfl) (Nat.le_of_ble_eq_true rfl) rfl fun T139 W139 => ?_
        refine g_icmpN (pc' := 38) W139.here hx (hb hby d_prog_10_5_35) rfl (tlt (show i.toInt32 < ks.length.toInt32 from (own_ltn hi2 hlen))).2.1 ?_
        refine g_aloadN (pc' := 39) W139.here hx (hb hby d_prog_10_5_38) rfl rfl rfl ?_
        refine g_aloadN (pc' := 40) W139.here hx (hb hby d_prog_10_5_39) rfl rfl rfl ?_
        refine w_get (pc' := 43) W139 hx (hw _ (List.mem_of_getElem? w_90)) Via.refl F2 (hb hby d_prog_10_5_40) rfl fun T140 W140 => ?_
        refine g_iloadN (pc' := 44) W140.here hx (hb hby d_prog_10_5_43) rfl rfl ?_
        refine g_iadd (pc' := 45) W140.here hx (hb hby d_prog_10_5_44) rfl ?_
        refine g_name (w := .int (sn + i).toInt32) (congrArg Value.int (own_addn (by omega) (own_toInt (by omega))).symm) ?_
        refine w_ifacep (pc' := 50) (st := []) (y := (⟨"java/lang/CharSequence", "charAt", "(I)C"⟩ : MethodName)) (z := (⟨"java/lang/String", "charAt", "(I)C"⟩ : MethodName)) (a := a) W140 hx [(.int (sn + i).toInt32)] (hw _ (List.mem_of_getElem? w_110)) (hw _ (List.mem_of_getElem? w_111)) (hw _ (List.mem_of_getElem? w_112)) (hw _ (List.mem_of_getElem? w_113)) (hw _ (List.mem_of_getElem? w_114)) (hw _ (List.mem_of_getElem? w_115)) (hw _ (List.mem_of_getElem? w_116)) (hw _ (List.mem_of_getElem? w_117)) (hw _ (List.mem_of_getElem? w_32)) (hw _ (List.mem_of_getElem? w_118)) (by decide) (c_charAt l Z a0 hw hE cc fm a b cs (sn + i).toInt32 ci h0 W140.old G GU S1 hl1 (own_nneg (by omega)) (own_ltn (by omega) (by omega)) (by rw [i32_nat (by omega)]; exact hci)) ES1 (by rw [hml]; rfl) (lenOf pd_15 rfl) rfl (hb hby d_prog_10_5_45) (Nat.le_of_ble_eq_true rfl) (Nat.le_of_ble_eq_true rfl) rfl rfl (Nat.le_of_ble_eq_true rfl) (Nat.le_of_ble_eq_true rfl) rfl fun T141 W141 => ?_
        refine g_istore (pc' := 52) (Ls' := #[.val (.ref o), .val (.ref a), .val (.ref a2), .val (.int i.toInt32), .val (.int ci), o5]) W141.here hx (hb hby d_prog_10_5_50) (XS.store1 (o := o4) rfl ho_o4 rfl) rfl ?_
        refine g_iload (pc' := 54) W141.here hx (hb hby d_prog_10_5_52) rfl rfl ?_
        refine g_bipush (97 : Int32) (pc' := 56) W141.here hx (hb hby d_prog_10_5_54) rfl rfl ?_
        by_cases hc56_142 : ci < (97 : Int32)
        · refine g_icmpY (pc' := 78) W141.here hx (hb hby d_prog_10_5_56) rfl (tlt hc56_142).1 ?_
          refine g_iload (pc' := 80) W141.here hx (hb hby d_prog_10_5_78) rfl rfl ?_
          obtain ⟨uc, huc⟩ : ∃ zz_ : Int32, zz_ = ci := ⟨_, rfl⟩
          refine g_name (congrArg Value.int huc) ?_
          have hup : uc = upI ci := by
            have A := own_up ci r_ci
            simp only [Int32.lt_iff_toInt_lt, own_t0, own_t1, own_t2, own_t3, own_t32, own_t65, own_t90, own_t97, own_t122] at hc56_142
            apply Int32.toInt_inj.mp
            rw [huc]
            omega
          refine g_istore (pc' := 82) (Ls' := #[.val (.ref o), .val (.ref a), .val (.ref a2), .val (.int i.toInt32), .val (.int ci), .val (.int uc)]) W141.here hx (hb hby d_prog_10_5_80) (XS.store1 (o := o5) rfl ho_o5 rfl) rfl ?_
          refine g_iload (pc' := 84) W141.here hx (hb hby d_prog_10_5_82) rfl rfl ?_
          refine g_aloadN (pc' := 85) W141.here hx (hb hby d_prog_10_5_84) rfl rfl rfl ?_
          refine g_iloadN (pc' := 86) W141.here hx (hb hby d_prog_10_5_85) rfl rfl ?_
          refine w_virtualp (pc' := 89) (st := [(.int uc)]) (y := (⟨"java/lang/String", "charAt", "(I)C"⟩ : MethodName)) (z := (⟨"java/lang/String", "charAt", "(I)C"⟩ : MethodName)) (a := a2) W141 hx [(.int i.toInt32)] (hw _ (List.mem_of_getElem? w_136)) (hw _ (List.mem_of_getElem? w_137)) (nfS (z := (⟨"java/lang/String", "charAt", "(I)C"⟩ : MethodName)) (hw _ (List.mem_of_getElem? w_138))) (hw _ (List.mem_of_getElem? w_138)) (hw _ (List.mem_of_getElem? w_114)) (hw _ (List.mem_of_getElem? w_32)) (hw _ (List.mem_of_getElem? w_118)) (by decide) (c_charAt l Z a0 hw hE cc fm a2 b2 ks i.toInt32 di h0 W141.old G GU S2 hl2 (own_nneg (by omega)) (own_ltn hi2 hlen) (by rw [i32_nat (by omega)]; exact hdi)) ES2 (by rw [hml]; rfl) (lenOf pd_15 rfl) rfl (hb hby d_prog_10_5_86) (Nat.le_of_ble_eq_true rfl) (Nat.le_of_ble_eq_true rfl) rfl rfl (Nat.le_of_ble_eq_true rfl) (Nat.le_of_ble_eq_true rfl) rfl fun T143 W143 => ?_
          by_cases hc89_144 : uc = di
          · refine g_icmpY (pc' := 94) W143.here hx (hb hby d_prog_10_5_89) rfl (teq hc89_144).1 ?_
            refine g_iincV (i + 1).toInt32 (pc' := 97) (Ls' := #[.val (.ref o), .val (.ref a), .val (.ref a2), .val (.int (i + 1).toInt32), .val (.int ci), .val (.int uc)]) W143.here hx (hb hby d_prog_10_5_94) (own_succ i) rfl rfl rfl ?_
            refine g_goto (pc' := 30) W143.here hx (hb hby d_prog_10_5_97) rfl ?_
            exact ih (i + 1) (by omega) _ _ _ (One.val rfl) (One.val rfl) W143 (own_kwt HP hci hdi (hup.symm.trans hc89_144))
          · refine g_icmpN (pc' := 92) W143.here hx (hb hby d_prog_10_5_89) rfl (feq hc89_144).1 ?_
            refine g_iconst (0 : Int32) (pc' := 93) W143.here hx (hb hby d_prog_10_5_92) rfl rfl ?_
            refine w_retN (t := .boolean) W143 hx hh hlk hret (by simp) (hb hby d_prog_10_5_93) (Nat.le_of_ble_eq_true rfl) (Nat.le_of_ble_eq_true rfl) ?_
            refine ⟨congrArg (fun z => some (Value.int z)) ?_, rfl⟩
            show _ = kwI cs sn ev ks
            unfold kwI
            rw [if_neg (fun q => own_kwd hi2 hci hdi (fun z => hc89_144 (hup.trans z)) q.2)]; rfl
        · refine g_icmpN (pc' := 59) W141.here hx (hb hby d_prog_10_5_56) rfl (flt hc56_142).1 ?_
          refine g_iload (pc' := 61) W141.here hx (hb hby d_prog_10_5_59) rfl rfl ?_
          refine g_bipush (122 : Int32) (pc' := 63) W141.here hx (hb hby d_prog_10_5_61) rfl rfl ?_
          by_cases hc63_145 : (122 : Int32) < ci
          · refine g_icmpY (pc' := 78) W141.here hx (hb hby d_prog_10_5_63) rfl (tlt hc63_145).2.2.1 ?_
            refine g_iload (pc' := 80) W141.here hx (hb hby d_prog_10_5_78) rfl rfl ?_
            obtain ⟨uc, huc⟩ : ∃ zz_ : Int32, zz_ = ci := ⟨_, rfl⟩
            refine g_name (congrArg Value.int huc) ?_
            have hup : uc = upI ci := by
              have A := own_up ci r_ci
              simp only [Int32.lt_iff_toInt_lt, own_t0, own_t1, own_t2, own_t3, own_t32, own_t65, own_t90, own_t97, own_t122] at hc56_142 hc63_145
              apply Int32.toInt_inj.mp
              rw [huc]
              omega
            refine g_istore (pc' := 82) (Ls' := #[.val (.ref o), .val (.ref a), .val (.ref a2), .val (.int i.toInt32), .val (.int ci), .val (.int uc)]) W141.here hx (hb hby d_prog_10_5_80) (XS.store1 (o := o5) rfl ho_o5 rfl) rfl ?_
            refine g_iload (pc' := 84) W141.here hx (hb hby d_prog_10_5_82) rfl rfl ?_
            refine g_aloadN (pc' := 85) W141.here hx (hb hby d_prog_10_5_84) rfl rfl rfl ?_
            refine g_iloadN (pc' := 86) W141.here hx (hb hby d_prog_10_5_85) rfl rfl ?_
            refine w_virtualp (pc' := 89) (st := [(.int uc)]) (y := (⟨"java/lang/String", "charAt", "(I)C"⟩ : MethodName)) (z := (⟨"java/lang/String", "charAt", "(I)C"⟩ : MethodName)) (a := a2) W141 hx [(.int i.toInt32)] (hw _ (List.mem_of_getElem? w_136)) (hw _ (List.mem_of_getElem? w_137)) (nfS (z := (⟨"java/lang/String", "charAt", "(I)C"⟩ : MethodName)) (hw _ (List.mem_of_getElem? w_138))) (hw _ (List.mem_of_getElem? w_138)) (hw _ (List.mem_of_getElem? w_114)) (hw _ (List.mem_of_getElem? w_32)) (hw _ (List.mem_of_getElem? w_118)) (by decide) (c_charAt l Z a0 hw hE cc fm a2 b2 ks i.toInt32 di h0 W141.old G GU S2 hl2 (own_nneg (by omega)) (own_ltn hi2 hlen) (by rw [i32_nat (by omega)]; exact hdi)) ES2 (by rw [hml]; rfl) (lenOf pd_15 rfl) rfl (hb hby d_prog_10_5_86) (Nat.le_of_ble_eq_true rfl) (Nat.le_of_ble_eq_true rfl) rfl rfl (Nat.le_of_ble_eq_true rfl) (Nat.le_of_ble_eq_true rfl) rfl fun T146 W146 => ?_
            by_cases hc89_147 : uc = di
            · refine g_icmpY (pc' := 94) W146.here hx (hb hby d_prog_10_5_89) rfl (teq hc89_147).1 ?_
              refine g_iincV (i + 1).toInt32 (pc' := 97) (Ls' := #[.val (.ref o), .val (.ref a), .val (.ref a2), .val (.int (i + 1).toInt32), .val (.int ci), .val (.int uc)]) W146.here hx (hb hby d_prog_10_5_94) (own_succ i) rfl rfl rfl ?_
              refine g_goto (pc' := 30) W146.here hx (hb hby d_prog_10_5_97) rfl ?_
              exact ih (i + 1) (by omega) _ _ _ (One.val rfl) (One.val rfl) W146 (own_kwt HP hci hdi (hup.symm.trans hc89_147))
            · refine g_icmpN (pc' := 92) W146.here hx (hb hby d_prog_10_5_89) rfl (feq hc89_147).1 ?_
              refine g_iconst (0 : Int32) (pc' := 93) W146.here hx (hb hby d_prog_10_5_92) rfl rfl ?_
              refine w_retN (t := .boolean) W146 hx hh hlk hret (by simp) (hb hby d_prog_10_5_93) (Nat.le_of_ble_eq_true rfl) (Nat.le_of_ble_eq_true rfl) ?_
              refine ⟨congrArg (fun z => some (Value.int z)) ?_, rfl⟩
              show _ = kwI cs sn ev ks
              unfold kwI
              rw [if_neg (fun q => own_kwd hi2 hci hdi (fun z => hc89_147 (hup.trans z)) q.2)]; rfl
          · refine g_icmpN (pc' := 66) W141.here hx (hb hby d_prog_10_5_63) rfl (flt hc63_145).2.2.1 ?_
            refine g_iload (pc' := 68) W141.here hx (hb hby d_prog_10_5_66) rfl rfl ?_
            refine g_bipush (97 : Int32) (pc' := 70) W141.here hx (hb hby d_prog_10_5_68) rfl rfl ?_
            refine g_isub (pc' := 71) W141.here hx (hb hby d_prog_10_5_70) rfl ?_
            refine g_bipush (65 : Int32) (pc' := 73) W141.here hx (hb hby d_prog_10_5_71) rfl rfl ?_
            refine g_iadd (pc' := 74) W141.here hx (hb hby d_prog_10_5_73) rfl ?_
            refine g_i2c (pc' := 75) W141.here hx (hb hby d_prog_10_5_74) rfl ?_
            refine g_goto (pc' := 80) W141.here hx (hb hby d_prog_10_5_75) rfl ?_
            obtain ⟨uc, huc⟩ : ∃ zz_ : Int32, zz_ = (((ci - (97 : Int32)) + (65 : Int32)).toUInt32.toUInt16.toUInt32.toInt32) := ⟨_, rfl⟩
            refine g_name (congrArg Value.int huc) ?_
            have hup : uc = upI ci := by
              have A := own_up ci r_ci
              simp only [Int32.lt_iff_toInt_lt, own_t0, own_t1, own_t2, own_t3, own_t32, own_t65, own_t90, own_t97, own_t122] at hc56_142 hc63_145
              apply Int32.toInt_inj.mp
              rw [huc]
              have q1 := c_isub ci 97
              have r1 := rng32 (ci - 97)
              have q2 := c_iadd (ci - 97) 65
              have r2 := rng32 (ci - 97 + 65)
              have e1 := own_t97
              have e2 := own_t65
              rw [own_i2ci (by omega)]
              omega
            refine g_istore (pc' := 82) (Ls' := #[.val (.ref o), .val (.ref a), .val (.ref a2), .val (.int i.toInt32), .val (.int ci), .val (.int uc)]) W141.here hx (hb hby d_prog_10_5_80) (XS.store1 (o := o5) rfl ho_o5 rfl) rfl ?_
            refine g_iload (pc' := 84) W141.here hx (hb hby d_prog_10_5_82) rfl rfl ?_
            refine g_aloadN (pc' := 85) W141.here hx (hb hby d_prog_10_5_84) rfl rfl rfl ?_
            refine g_iloadN (pc' := 86) W141.here hx (hb hby d_prog_10_5_85) rfl rfl ?_
            refine w_virtualp (pc' := 89) (st := [(.int uc)]) (y := (⟨"java/lang/String", "charAt", "(I)C"⟩ : MethodName)) (z := (⟨"java/lang/String", "charAt", "(I)C"⟩ : MethodName)) (a := a2) W141 hx [(.int i.toInt32)] (hw _ (List.mem_of_getElem? w_136)) (hw _ (List.mem_of_getElem? w_137)) (nfS (z := (⟨"java/lang/String", "charAt", "(I)C"⟩ : MethodName)) (hw _ (List.mem_of_getElem? w_138))) (hw _ (List.mem_of_getElem? w_138)) (hw _ (List.mem_of_getElem? w_114)) (hw _ (List.mem_of_getElem? w_32)) (hw _ (List.mem_of_getElem? w_118)) (by decide) (c_charAt l Z a0 hw hE cc fm a2 b2 ks i.toInt32 di h0 W141.old G GU S2 hl2 (own_nneg (by omega)) (own_ltn hi2 hlen) (by rw [i32_nat (by omega)]; exact hdi)) ES2 (by rw [hml]; rfl) (lenOf pd_15 rfl) rfl (hb hby d_prog_10_5_86) (Nat.le_of_ble_eq_true rfl) (Nat.le_of_ble_eq_true rfl) rfl rfl (Nat.le_of_ble_eq_true rfl) (Nat.le_of_ble_eq_true rfl) rfl fun T148 W148 => ?_
            by_cases hc89_149 : uc = di
            · refine g_icmpY (pc' := 94) W148.here hx (hb hby d_prog_10_5_89) rfl (teq hc89_149).1 ?_
              refine g_iincV (i + 1).toInt32 (pc' := 97) (Ls' := #[.val (.ref o), .val (.ref a), .val (.ref a2), .val (.int (i + 1).toInt32), .val (.int ci), .val (.int uc)]) W148.here hx (hb hby d_prog_10_5_94) (own_succ i) rfl rfl rfl ?_
              refine g_goto (pc' := 30) W148.here hx (hb hby d_prog_10_5_97) rfl ?_
              exact ih (i + 1) (by omega) _ _ _ (One.val rfl) (One.val rfl) W148 (own_kwt HP hci hdi (hup.symm.trans hc89_149))
            · refine g_icmpN (pc' := 92) W148.here hx (hb hby d_prog_10_5_89) rfl (feq hc89_149).1 ?_
              refine g_iconst (0 : Int32) (pc' := 93) W148.here hx (hb hby d_prog_10_5_92) rfl rfl ?_
              refine w_retN (t := .boolean) W148 hx hh hlk hret (by simp) (hb hby d_prog_10_5_93) (Nat.le_of_ble_eq_true rfl) (Nat.le_of_ble_eq_true rfl) ?_
              refine ⟨congrArg (fun z => some (Value.int z)) ?_, rfl⟩
              show _ = kwI cs sn ev ks
              unfold kwI
              rw [if_neg (fun q => own_kwd hi2 hci hdi (fun z => hc89_149 (hup.trans z)) q.2)]; rfl
    exact LOOP ks.length 0 (by omega) _ _ _ One.u One.u W136 (by simp)
  · refine g_icmpN (pc' := 26) W136.here hx (hb hby d_prog_10_5_23) rfl (feq hc23_137).1 ?_
    refine g_iconst (0 : Int32) (pc' := 27) W136.here hx (hb hby d_prog_10_5_26) rfl rfl ?_
    refine w_retN (t := .boolean) W136 hx hh hlk hret (by simp) (hb hby d_prog_10_5_27) (Nat.le_of_ble_eq_true rfl) (Nat.le_of_ble_eq_true rfl) ?_
    refine ⟨congrArg (fun z => some (Value.int z)) ?_, rfl⟩
    show _ = kwI cs sn ev ks
    unfold kwI
    rw [if_neg (fun q => hc23_137 q.1)]; rfl
theorem own_m3 (x : Int32) : 0 ≤ (x &&& (3 : Int32)).toInt ∧ (x &&& (3 : Int32)).toInt ≤ 3 := by
  have q := c_mask x 3 2 (by decide) (by decide)
  omega
theorem own_kd {kW kN kT kB kQ kP kC kS : Nat} {kx : Int32} (h8 : 0 ≤ kx.toInt ∧ kx.toInt < 8) (h0 : ¬ kx = 0) (ne_kN : kN ≠ kW) (ne_kT : kT ≠ kW) (ne_kB : kB ≠ kW) (ne_kQ : kQ ≠ kW) (ne_kP : kP ≠ kW) (ne_kC : kC ≠ kW) (ne_kS : kS ≠ kW) : ∃ kd : Nat, [Value.ref kW, Value.ref kN, Value.ref kT, Value.ref kB, Value.ref kQ, Value.ref kP, Value.ref kC, Value.ref kS][kx.toNatClampNeg]? = some (.ref kd) ∧ kd ≠ kW := by
  simp only [← Int32.toInt_inj, own_t0] at h0
  have e : kx.toNatClampNeg = kx.toInt.toNat := rfl
  have c : kx.toInt.toNat = 1 ∨ kx.toInt.toNat = 2 ∨ kx.toInt.toNat = 3 ∨ kx.toInt.toNat = 4 ∨ kx.toInt.toNat = 5 ∨ kx.toInt.toNat = 6 ∨ kx.toInt.toNat = 7 := by omega
  rw [e]
  rcases c with c | c | c | c | c | c | c <;> rw [c]
  · exact ⟨_, rfl, ne_kN⟩
  · exact ⟨_, rfl, ne_kT⟩
  · exact ⟨_, rfl, ne_kB⟩
  · exact ⟨_, rfl, ne_kQ⟩
  · exact ⟨_, rfl, ne_kP⟩
  · exact ⟨_, rfl, ne_kC⟩
  · exact ⟨_, rfl, ne_kS⟩
set_option maxRecDepth 65536 in
set_option maxHeartbeats 40000000 in
theorem c_law (l : Launch) (Z : State) (a0 : Array Value) (hw : ∀ d ∈ tables_1, d.before a0 Z = true) (hE : EW Z a0 consts_1) (cc : Int32) (fm : Value) (kW kN kT kB kQ kP kC kS : Nat) (p0 : Int32) (p1 p2 : Int64) (p3 : Int32) (h0 : Heap) (O : Ext Z.heap h0) (G : SEnv Z cc fm) (GU : SEnvU Z) (S_kW : Sta Z Z.heap "com/example/updatable_views/updatableviews/SqlToken$Kind" "WORD" "Lcom/example/updatable_views/updatableviews/SqlToken$Kind;" (.ref kW)) (S_kN : Sta Z Z.heap "com/example/updatable_views/updatableviews/SqlToken$Kind" "NUMBER" "Lcom/example/updatable_views/updatableviews/SqlToken$Kind;" (.ref kN)) (S_kT : Sta Z Z.heap "com/example/updatable_views/updatableviews/SqlToken$Kind" "STRING" "Lcom/example/updatable_views/updatableviews/SqlToken$Kind;" (.ref kT)) (S_kB : Sta Z Z.heap "com/example/updatable_views/updatableviews/SqlToken$Kind" "BLOB" "Lcom/example/updatable_views/updatableviews/SqlToken$Kind;" (.ref kB)) (S_kQ : Sta Z Z.heap "com/example/updatable_views/updatableviews/SqlToken$Kind" "QUOTED_NAME" "Lcom/example/updatable_views/updatableviews/SqlToken$Kind;" (.ref kQ)) (S_kP : Sta Z Z.heap "com/example/updatable_views/updatableviews/SqlToken$Kind" "PARAMETER" "Lcom/example/updatable_views/updatableviews/SqlToken$Kind;" (.ref kP)) (S_kC : Sta Z Z.heap "com/example/updatable_views/updatableviews/SqlToken$Kind" "COMMENT" "Lcom/example/updatable_views/updatableviews/SqlToken$Kind;" (.ref kC)) (S_kS : Sta Z Z.heap "com/example/updatable_views/updatableviews/SqlToken$Kind" "SYMBOL" "Lcom/example/updatable_views/updatableviews/SqlToken$Kind;" (.ref kS)) (ne_kN : kN ≠ kW) (ne_kT : kT ≠ kW) (ne_kB : kB ≠ kW) (ne_kQ : kQ ≠ kW) (ne_kP : kP ≠ kW) (ne_kC : kC ≠ kW) (ne_kS : kS ≠ kW) (X_kW : Exa Z h0 kW "com/example/updatable_views/updatableviews/SqlToken$Kind") (X_kN : Exa Z h0 kN "com/example/updatable_views/updatableviews/SqlToken$Kind") (X_kT : Exa Z h0 kT "com/example/updatable_views/updatableviews/SqlToken$Kind") (X_kB : Exa Z h0 kB "com/example/updatable_views/updatableviews/SqlToken$Kind") (X_kQ : Exa Z h0 kQ "com/example/updatable_views/updatableviews/SqlToken$Kind") (X_kP : Exa Z h0 kP "com/example/updatable_views/updatableviews/SqlToken$Kind") (X_kC : Exa Z h0 kC "com/example/updatable_views/updatableviews/SqlToken$Kind") (X_kS : Exa Z h0 kS "com/example/updatable_views/updatableviews/SqlToken$Kind")  :
    ConL tables_1 l Z consts_1 x code maxLocals ret room_1 #[(.int p0), (.long p1), (.long p2), (.int p3)] h0 [] (fun v _ => v = some (.int 1)) := by
  refine Con.of (a0 := a0) #[.val (.int p0), .val (.long p1), .second, .val (.long p2), .second, .val (.int p3), .unset, .unset, .unset, .unset, .unset, .unset, .unset, .unset, .unset, .unset, .unset, .unset, .unset, .unset, .unset, .unset, .unset, .unset, .unset] (plainFor_of_name pn_4) hE O all0 (fun m => by first | (simp [entryFrame, mkF, argsToLocals, Value.category, maxLocals]; done) | rfl) ?_
  intro p e s m below meth c T0 hx hby hml hnm hret hlk hh W0
  refine g_bipush (8 : Int32) (pc' := 2) W0.here hx (hb hby at_0) rfl rfl ?_
  refine w_anewarr (pc' := 5) (cap := 8) W0 hx (hw _ (List.mem_of_getElem? w_0)) (hw _ (List.mem_of_getElem? w_1)) (hb hby at_2) (by decide) (Nat.le_refl _) (Nat.le_of_ble_eq_true rfl) (Nat.le_of_ble_eq_true rfl) (Nat.le_of_ble_eq_true rfl) rfl fun T150 h150 b150 g150 W150 K150 V150 => ?_
  have z_K150 : h0.size ≤ h150.size := K150.1
  have lt_b150 : b150 < h150.size := W150.lt (List.mem_cons_self ..)
  have V150 : AryR Z h150 b150 "com/example/updatable_views/updatableviews/SqlToken$Kind" [.null, .null, .null, .null, .null, .null, .null, .null] := V150
  refine g_dup (pc' := 6) W150.here hx (hb hby at_5) rfl rfl ?_
  refine g_iconst (0 : Int32) (pc' := 7) W150.here hx (hb hby at_6) rfl rfl ?_
  refine w_getS (pc' := 10) W150 hx (hw _ (List.mem_of_getElem? w_2)) Via.refl S_kW (hb hby at_7) rfl fun T151 W151 => ?_
  have c153 := (X_kW.keep K150)
  refine w_aastore (pc' := 11) W151 hx V150 (Ins.self c153) (by decide) (Nat.lt_of_lt_of_le (Nat.lt_succ_self _) (Nat.le_of_ble_eq_true rfl)) (List.mem_of_getElem? (i := 0) rfl) (hb hby at_10) rfl fun T152 h152 W152 K152 V152 => ?_
  have z_K152 : h150.size ≤ h152.size := K152.1
  have V152 : AryR Z h152 b150 "com/example/updatable_views/updatableviews/SqlToken$Kind" [(.ref kW), .null, .null, .null, .null, .null, .null, .null] := V152
  refine g_dup (pc' := 12) W152.here hx (hb hby at_11) rfl rfl ?_
  refine g_iconst (1 : Int32) (pc' := 13) W152.here hx (hb hby at_12) rfl rfl ?_
  refine w_getS (pc' := 16) W152 hx (hw _ (List.mem_of_getElem? w_6)) Via.refl S_kN (hb hby at_13) rfl fun T154 W154 => ?_
  have c156 := ((X_kN.keep K150).keep K152)
  refine w_aastore (pc' := 17) W154 hx V152 (Ins.self c156) (by decide) (Nat.lt_of_lt_of_le (Nat.lt_succ_self _) (Nat.le_of_ble_eq_true rfl)) (List.mem_of_getElem? (i := 0) rfl) (hb hby at_16) rfl fun T155 h155 W155 K155 V155 => ?_
  have z_K155 : h152.size ≤ h155.size := K155.1
  have V155 : AryR Z h155 b150 "com/example/updatable_views/updatableviews/SqlToken$Kind" [(.ref kW), (.ref kN), .null, .null, .null, .null, .null, .null] := V155
  refine g_dup (pc' := 18) W155.here hx (hb hby at_17) rfl rfl ?_
  refine g_iconst (2 : Int32) (pc' := 19) W155.here hx (hb hby at_18) rfl rfl ?_
  refine w_getS (pc' := 22) W155 hx (hw _ (List.mem_of_getElem? w_8)) Via.refl S_kT (hb hby at_19) rfl fun T157 W157 => ?_
  have c159 := (((X_kT.keep K150).keep K152).keep K155)
  refine w_aastore (pc' := 23) W157 hx V155 (Ins.self c159) (by decide) (Nat.lt_of_lt_of_le (Nat.lt_succ_self _) (Nat.le_of_ble_eq_true rfl)) (List.mem_of_getElem? (i := 0) rfl) (hb hby at_22) rfl fun T158 h158 W158 K158 V158 => ?_
  have z_K158 : h155.size ≤ h158.size := K158.1
  have V158 : AryR Z h158 b150 "com/example/updatable_views/updatableviews/SqlToken$Kind" [(.ref kW), (.ref kN), (.ref kT), .null, .null, .null, .null, .null] := V158
  refine g_dup (pc' := 24) W158.here hx (hb hby at_23) rfl rfl ?_
  refine g_iconst (3 : Int32) (pc' := 25) W158.here hx (hb hby at_24) rfl rfl ?_
  refine w_getS (pc' := 28) W158 hx (hw _ (List.mem_of_getElem? w_10)) Via.refl S_kB (hb hby at_25) rfl fun T160 W160 => ?_
  have c162 := ((((X_kB.keep K150).keep K152).keep K155).keep K158)
  refine w_aastore (pc' := 29) W160 hx V158 (Ins.self c162) (by decide) (Nat.lt_of_lt_of_le (Nat.lt_succ_self _) (Nat.le_of_ble_eq_true rfl)) (List.mem_of_getElem? (i := 0) rfl) (hb hby at_28) rfl fun T161 h161 W161 K161 V161 => ?_
  have z_K161 : h158.size ≤ h161.size := K161.1
  have V161 : AryR Z h161 b150 "com/example/updatable_views/updatableviews/SqlToken$Kind" [(.ref kW), (.ref kN), (.ref kT), (.ref kB), .null, .null, .null, .null] := V161
  refine g_dup (pc' := 30) W161.here hx (hb hby at_29) rfl rfl ?_
  refine g_iconst (4 : Int32) (pc' := 31) W161.here hx (hb hby at_30) rfl rfl ?_
  refine w_getS (pc' := 34) W161 hx (hw _ (List.mem_of_getElem? w_12)) Via.refl S_kQ (hb hby at_31) rfl fun T163 W163 => ?_
  have c165 := (((((X_kQ.keep K150).keep K152).keep K155).keep K158).keep K161)
  refine w_aastore (pc' := 35) W163 hx V161 (Ins.self c165) (by decide) (Nat.lt_of_lt_of_le (Nat.lt_succ_self _) (Nat.le_of_ble_eq_true rfl)) (List.mem_of_getElem? (i := 0) rfl) (hb hby at_34) rfl fun T164 h164 W164 K164 V164 => ?_
  have z_K164 : h161.size ≤ h164.size := K164.1
  have V164 : AryR Z h164 b150 "com/example/updatable_views/updatableviews/SqlToken$Kind" [(.ref kW), (.ref kN), (.ref kT), (.ref kB), (.ref kQ), .null, .null, .null] := V164
  refine g_dup (pc' := 36) W164.here hx (hb hby at_35) rfl rfl ?_
  refine g_iconst (5 : Int32) (pc' := 37) W164.here hx (hb hby at_36) rfl rfl ?_
  refine w_getS (pc' := 40) W164 hx (hw _ (List.mem_of_getElem? w_14)) Via.refl S_kP (hb hby at_37) rfl fun T166 W166 => ?_
  have c168 := ((((((X_kP.keep K150).keep K152).keep K155).keep K158).keep K161).keep K164)
  refine w_aastore (pc' := 41) W166 hx V164 (Ins.self c168) (by decide) (Nat.lt_of_lt_of_le (Nat.lt_succ_self _) (Nat.le_of_ble_eq_true rfl)) (List.mem_of_getElem? (i := 0) rfl) (hb hby at_40) rfl fun T167 h167 W167 K167 V167 => ?_
  have z_K167 : h164.size ≤ h167.size := K167.1
  have V167 : AryR Z h167 b150 "com/example/updatable_views/updatableviews/SqlToken$Kind" [(.ref kW), (.ref kN), (.ref kT), (.ref kB), (.ref kQ), (.ref kP), .null, .null] := V167
  refine g_dup (pc' := 42) W167.here hx (hb hby at_41) rfl rfl ?_
  refine g_bipush (6 : Int32) (pc' := 44) W167.here hx (hb hby at_42) rfl rfl ?_
  refine w_getS (pc' := 47) W167 hx (hw _ (List.mem_of_getElem? w_16)) Via.refl S_kC (hb hby at_44) rfl fun T169 W169 => ?_
  have c171 := (((((((X_kC.keep K150).keep K152).keep K155).keep K158).keep K161).keep K164).keep K167)
  refine w_aastore (pc' := 48) W169 hx V167 (Ins.self c171) (by decide) (Nat.lt_of_lt_of_le (Nat.lt_succ_self _) (Nat.le_of_ble_eq_true rfl)) (List.mem_of_getElem? (i := 0) rfl) (hb hby at_47) rfl fun T170 h170 W170 K170 V170 => ?_
  have z_K170 : h167.size ≤ h170.size := K170.1
  have V170 : AryR Z h170 b150 "com/example/updatable_views/updatableviews/SqlToken$Kind" [(.ref kW), (.ref kN), (.ref kT), (.ref kB), (.ref kQ), (.ref kP), (.ref kC), .null] := V170
  refine g_dup (pc' := 49) W170.here hx (hb hby at_48) rfl rfl ?_
  refine g_bipush (7 : Int32) (pc' := 51) W170.here hx (hb hby at_49) rfl rfl ?_
  refine w_getS (pc' := 54) W170 hx (hw _ (List.mem_of_getElem? w_18)) Via.refl S_kS (hb hby at_51) rfl fun T172 W172 => ?_
  have c174 := ((((((((X_kS.keep K150).keep K152).keep K155).keep K158).keep K161).keep K164).keep K167).keep K170)
  refine w_aastore (pc' := 55) W172 hx V170 (Ins.self c174) (by decide) (Nat.lt_of_lt_of_le (Nat.lt_succ_self _) (Nat.le_of_ble_eq_true rfl)) (List.mem_of_getElem? (i := 0) rfl) (hb hby at_54) rfl fun T173 h173 W173 K173 V173 => ?_
  have z_K173 : h170.size ≤ h173.size := K173.1
  have V173 : AryR Z h173 b150 "com/example/updatable_views/updatableviews/SqlToken$Kind" [(.ref kW), (.ref kN), (.ref kT), (.ref kB), (.ref kQ), (.ref kP), (.ref kC), (.ref kS)] := V173
  refine g_astore (pc' := 57) (Ls' := #[.val (.int p0), .val (.long p1), .second, .val (.long p2), .second, .val (.int p3), .val (.ref b150), .unset, .unset, .unset, .unset, .unset, .unset, .unset, .unset, .unset, .unset, .unset, .unset, .unset, .unset, .unset, .unset, .unset, .unset]) W173.here hx (hb hby at_55) rfl rfl rfl ?_
  refine g_aload (pc' := 59) W173.here hx (hb hby at_57) rfl rfl rfl ?_
  refine g_iloadN (pc' := 60) W173.here hx (hb hby at_59) rfl rfl ?_
  refine g_bipush (7 : Int32) (pc' := 62) W173.here hx (hb hby at_60) rfl rfl ?_
  refine g_iand (pc' := 63) W173.here hx (hb hby at_62) rfl ?_
  obtain ⟨kx, hkx⟩ : ∃ zz_ : Int32, zz_ = (p0 &&& (7 : Int32)) := ⟨_, rfl⟩
  refine g_name (congrArg Value.int hkx) ?_
  have h8 : 0 ≤ kx.toInt ∧ kx.toInt < 8 := by rw [hkx]; have := c_mask p0 7 3 (by decide) (by decide); omega
  by_cases hk0 : kx = (0 : Int32)
  · have hk0' := hk0
    refine w_aaload (pc' := 64) (v := (.ref kW)) W173 hx (AryR.ary V173) rfl (by rw [Int32.lt_iff_toInt_lt]; have := own_t0; omega) (by rw [hk0]; rfl) (hb hby at_63) rfl ?_
    refine g_astore (pc' := 66) (Ls' := #[.val (.int p0), .val (.long p1), .second, .val (.long p2), .second, .val (.int p3), .val (.ref b150), .val (.ref kW), .unset, .unset, .unset, .unset, .unset, .unset, .unset, .unset, .unset, .unset, .unset, .unset, .unset, .unset, .unset, .unset, .unset]) W173.here hx (hb hby at_64) rfl rfl rfl ?_
    refine g_iloadN (pc' := 67) W173.here hx (hb hby at_66) rfl rfl ?_
    refine g_iconst (3 : Int32) (pc' := 68) W173.here hx (hb hby at_67) rfl rfl ?_
    refine g_iushr (pc' := 69) W173.here hx (hb hby at_68) rfl ?_
    refine g_iconst (3 : Int32) (pc' := 70) W173.here hx (hb hby at_69) rfl rfl ?_
    refine g_iand (pc' := 71) W173.here hx (hb hby at_70) rfl ?_
    obtain ⟨kl, hkl⟩ : ∃ zz_ : Int32, zz_ = (((p0.toUInt32 >>> ((3 : Int32) &&& 31).toUInt32).toInt32) &&& (3 : Int32)) := ⟨_, rfl⟩
    refine g_name (congrArg Value.int hkl) ?_
    have kl3 : 0 ≤ kl.toInt ∧ kl.toInt ≤ 3 := by rw [hkl]; exact own_m3 _
    refine g_istore (pc' := 73) (Ls' := #[.val (.int p0), .val (.long p1), .second, .val (.long p2), .second, .val (.int p3), .val (.ref b150), .val (.ref kW), .val (.int kl), .unset, .unset, .unset, .unset, .unset, .unset, .unset, .unset, .unset, .unset, .unset, .unset, .unset, .unset, .unset, .unset]) W173.here hx (hb hby at_71) rfl rfl ?_
    refine g_iloadN (pc' := 74) W173.here hx (hb hby at_73) rfl rfl ?_
    refine g_iconst (5 : Int32) (pc' := 75) W173.here hx (hb hby at_74) rfl rfl ?_
    refine g_iushr (pc' := 76) W173.here hx (hb hby at_75) rfl ?_
    refine g_iconst (3 : Int32) (pc' := 77) W173.here hx (hb hby at_76) rfl rfl ?_
    refine g_iand (pc' := 78) W173.here hx (hb hby at_77) rfl ?_
    refine g_iconst (3 : Int32) (pc' := 79) W173.here hx (hb hby at_78) rfl rfl ?_
    refine g_irem (pc' := 80) W173.here hx (hb hby at_79) (by decide) rfl ?_
    obtain ⟨sx, hsx⟩ : ∃ zz_ : Int32, zz_ = ((((p0.toUInt32 >>> ((5 : Int32) &&& 31).toUInt32).toInt32) &&& (3 : Int32)) % (3 : Int32)) := ⟨_, rfl⟩
    refine g_name (congrArg Value.int hsx) ?_
    have sx2 : 0 ≤ sx.toInt ∧ sx.toInt ≤ 2 := by rw [hsx]; have q := own_m3 ((p0.toUInt32 >>> ((5 : Int32) &&& 31).toUInt32).toInt32); have q2 := (c_irem (((p0.toUInt32 >>> ((5 : Int32) &&& 31).toUInt32).toInt32) &&& 3) 3 3 rfl).1 (by omega); omega
    obtain ⟨sn, hsn⟩ : ∃ n : Nat, n = sx.toNatClampNeg := ⟨_, rfl⟩
    have hs2 : sn ≤ 2 := by rw [hsn]; show sx.toInt.toNat ≤ 2; omega
    have hsx' : sn.toInt32 = sx := by rw [hsn]; exact (own_jn (by rw [Int32.lt_iff_toInt_lt]; have := own_t0; omega)).symm
    refine g_name (w := .int sn.toInt32) (congrArg Value.int hsx') ?_
    refine g_istore (pc' := 82) (Ls' := #[.val (.int p0), .val (.long p1), .second, .val (.long p2), .second, .val (.int p3), .val (.ref b150), .val (.ref kW), .val (.int kl), .val (.int sn.toInt32), .unset, .unset, .unset, .unset, .unset, .unset, .unset, .unset, .unset, .unset, .unset, .unset, .unset, .unset, .unset]) W173.here hx (hb hby at_80) rfl rfl ?_
    refine g_iloadN (pc' := 83) W173.here hx (hb hby at_82) rfl rfl ?_
    refine g_bipush (7 : Int32) (pc' := 85) W173.here hx (hb hby at_83) rfl rfl ?_
    refine g_iushr (pc' := 86) W173.here hx (hb hby at_85) rfl ?_
    refine g_iconst (3 : Int32) (pc' := 87) W173.here hx (hb hby at_86) rfl rfl ?_
    refine g_iand (pc' := 88) W173.here hx (hb hby at_87) rfl ?_
    obtain ⟨tl, htl⟩ : ∃ zz_ : Int32, zz_ = (((p0.toUInt32 >>> ((7 : Int32) &&& 31).toUInt32).toInt32) &&& (3 : Int32)) := ⟨_, rfl⟩
    refine g_name (congrArg Value.int htl) ?_
    refine g_istore (pc' := 90) (Ls' := #[.val (.int p0), .val (.long p1), .second, .val (.long p2), .second, .val (.int p3), .val (.ref b150), .val (.ref kW), .val (.int kl), .val (.int sn.toInt32), .val (.int tl), .unset, .unset, .unset, .unset, .unset, .unset, .unset, .unset, .unset, .unset, .unset, .unset, .unset, .unset]) W173.here hx (hb hby at_88) rfl rfl ?_
    refine g_iloadN (pc' := 91) W173.here hx (hb hby at_90) rfl rfl ?_
    refine g_bipush (9 : Int32) (pc' := 93) W173.here hx (hb hby at_91) rfl rfl ?_
    refine g_iushr (pc' := 94) W173.here hx (hb hby at_93) rfl ?_
    obtain ⟨md, hmd⟩ : ∃ zz_ : Int32, zz_ = ((p0.toUInt32 >>> ((9 : Int32) &&& 31).toUInt32).toInt32) := ⟨_, rfl⟩
    refine g_name (congrArg Value.int hmd) ?_
    refine g_istore (pc' := 96) (Ls' := #[.val (.int p0), .val (.long p1), .second, .val (.long p2), .second, .val (.int p3), .val (.ref b150), .val (.ref kW), .val (.int kl), .val (.int sn.toInt32), .val (.int tl), .val (.int md), .unset, .unset, .unset, .unset, .unset, .unset, .unset, .unset, .unset, .unset, .unset, .unset, .unset]) W173.here hx (hb hby at_94) rfl rfl ?_
    refine g_lloadN (pc' := 97) W173.here hx (hb hby at_96) rfl rfl ?_
    refine w_ldc2J (pc' := 100) W173 hx (hw _ (List.mem_of_getElem? w_20)) (hb hby at_97) rfl ?_
    refine g_land (pc' := 101) W173.here hx (hb hby at_100) rfl ?_
    refine g_l2i (pc' := 102) W173.here hx (hb hby at_101) rfl ?_
    refine g_i2c (pc' := 103) W173.here hx (hb hby at_102) rfl ?_
    obtain ⟨x0, hx0⟩ : ∃ zz_ : Int32, zz_ = (((p1 &&& (65535 : Int64)).toInt32).toUInt32.toUInt16.toUInt32.toInt32) := ⟨_, rfl⟩
    refine g_name (congrArg Value.int hx0) ?_
    have r_x0 : 0 ≤ x0.toInt ∧ x0.toInt < 65536 := by rw [hx0]; have := c_i2c ((p1 &&& (65535 : Int64)).toInt32); omega
    refine w_callS (pc' := 106) (st := []) (y := (⟨"com/example/updatable_views/updatableviews/SqlTokenIsKeywordPinLaw", "up", "(C)C"⟩ : MethodName)) W173 hx [(.int x0)] (hw _ (List.mem_of_getElem? w_21)) (hw _ (List.mem_of_getElem? w_22)) (hw _ (List.mem_of_getElem? w_23)) (hw _ (List.mem_of_getElem? w_24)) (by decide) (c_up l Z a0 hw hE x0 h173 W173.old r_x0) all0 (by rw [hml]; rfl) (lenOf pd_16 rfl) rfl (hb hby at_103) (Nat.le_of_ble_eq_true rfl) (Nat.le_of_ble_eq_true rfl) (Nat.le_of_ble_eq_true rfl) (Nat.le_of_ble_eq_true rfl) rfl fun v175 T175 h175 W175 K175 Q175 => ?_
    have z_K175 : h173.size ≤ h175.size := K175.1
    obtain ⟨k0, rfl, r_k0, nl_k0⟩ := Q175
    refine g_istore (pc' := 108) (Ls' := #[.val (.int p0), .val (.long p1), .second, .val (.long p2), .second, .val (.int p3), .val (.ref b150), .val (.ref kW), .val (.int kl), .val (.int sn.toInt32), .val (.int tl), .val (.int md), .val (.int k0), .unset, .unset, .unset, .unset, .unset, .unset, .unset, .unset, .unset, .unset, .unset, .unset]) W175.here hx (hb hby at_106) rfl rfl ?_
    refine g_lloadN (pc' := 109) W175.here hx (hb hby at_108) rfl rfl ?_
    refine g_bipush (16 : Int32) (pc' := 111) W175.here hx (hb hby at_109) rfl rfl ?_
    refine g_lushr (pc' := 112) W175.here hx (hb hby at_111) rfl ?_
    refine w_ldc2J (pc' := 115) W175 hx (hw _ (List.mem_of_getElem? w_20)) (hb hby at_112) rfl ?_
    refine g_land (pc' := 116) W175.here hx (hb hby at_115) rfl ?_
    refine g_l2i (pc' := 117) W175.here hx (hb hby at_116) rfl ?_
    refine g_i2c (pc' := 118) W175.here hx (hb hby at_117) rfl ?_
    obtain ⟨x1, hx1⟩ : ∃ zz_ : Int32, zz_ = (((((p1.toUInt64 >>> ((16 : Int32) &&& 0x3f).toInt64.toUInt64).toInt64) &&& (65535 : Int64)).toInt32).toUInt32.toUInt16.toUInt32.toInt32) := ⟨_, rfl⟩
    refine g_name (congrArg Value.int hx1) ?_
    have r_x1 : 0 ≤ x1.toInt ∧ x1.toInt < 65536 := by rw [hx1]; have := c_i2c ((((p1.toUInt64 >>> ((16 : Int32) &&& 0x3f).toInt64.toUInt64).toInt64) &&& (65535 : Int64)).toInt32); omega
    refine w_callS (pc' := 121) (st := []) (y := (⟨"com/example/updatable_views/updatableviews/SqlTokenIsKeywordPinLaw", "up", "(C)C"⟩ : MethodName)) W175 hx [(.int x1)] (hw _ (List.mem_of_getElem? w_21)) (hw _ (List.mem_of_getElem? w_22)) (hw _ (List.mem_of_getElem? w_23)) (hw _ (List.mem_of_getElem? w_24)) (by decide) (c_up l Z a0 hw hE x1 h175 W175.old r_x1) all0 (by rw [hml]; rfl) (lenOf pd_16 rfl) rfl (hb hby at_118) (Nat.le_of_ble_eq_true rfl) (Nat.le_of_ble_eq_true rfl) (Nat.le_of_ble_eq_true rfl) (Nat.le_of_ble_eq_true rfl) rfl fun v176 T176 h176 W176 K176 Q176 => ?_
    have z_K176 : h175.size ≤ h176.size := K176.1
    obtain ⟨k1, rfl, r_k1, nl_k1⟩ := Q176
    refine g_istore (pc' := 123) (Ls' := #[.val (.int p0), .val (.long p1), .second, .val (.long p2), .second, .val (.int p3), .val (.ref b150), .val (.ref kW), .val (.int kl), .val (.int sn.toInt32), .val (.int tl), .val (.int md), .val (.int k0), .val (.int k1), .unset, .unset, .unset, .unset, .unset, .unset, .unset, .unset, .unset, .unset, .unset]) W176.here hx (hb hby at_121) rfl rfl ?_
    refine g_lloadN (pc' := 124) W176.here hx (hb hby at_123) rfl rfl ?_
    refine g_bipush (32 : Int32) (pc' := 126) W176.here hx (hb hby at_124) rfl rfl ?_
    refine g_lushr (pc' := 127) W176.here hx (hb hby at_126) rfl ?_
    refine w_ldc2J (pc' := 130) W176 hx (hw _ (List.mem_of_getElem? w_20)) (hb hby at_127) rfl ?_
    refine g_land (pc' := 131) W176.here hx (hb hby at_130) rfl ?_
    refine g_l2i (pc' := 132) W176.here hx (hb hby at_131) rfl ?_
    refine g_i2c (pc' := 133) W176.here hx (hb hby at_132) rfl ?_
    obtain ⟨x2, hx2⟩ : ∃ zz_ : Int32, zz_ = (((((p1.toUInt64 >>> ((32 : Int32) &&& 0x3f).toInt64.toUInt64).toInt64) &&& (65535 : Int64)).toInt32).toUInt32.toUInt16.toUInt32.toInt32) := ⟨_, rfl⟩
    refine g_name (congrArg Value.int hx2) ?_
    have r_x2 : 0 ≤ x2.toInt ∧ x2.toInt < 65536 := by rw [hx2]; have := c_i2c ((((p1.toUInt64 >>> ((32 : Int32) &&& 0x3f).toInt64.toUInt64).toInt64) &&& (65535 : Int64)).toInt32); omega
    refine w_callS (pc' := 136) (st := []) (y := (⟨"com/example/updatable_views/updatableviews/SqlTokenIsKeywordPinLaw", "up", "(C)C"⟩ : MethodName)) W176 hx [(.int x2)] (hw _ (List.mem_of_getElem? w_21)) (hw _ (List.mem_of_getElem? w_22)) (hw _ (List.mem_of_getElem? w_23)) (hw _ (List.mem_of_getElem? w_24)) (by decide) (c_up l Z a0 hw hE x2 h176 W176.old r_x2) all0 (by rw [hml]; rfl) (lenOf pd_16 rfl) rfl (hb hby at_133) (Nat.le_of_ble_eq_true rfl) (Nat.le_of_ble_eq_true rfl) (Nat.le_of_ble_eq_true rfl) (Nat.le_of_ble_eq_true rfl) rfl fun v177 T177 h177 W177 K177 Q177 => ?_
    have z_K177 : h176.size ≤ h177.size := K177.1
    obtain ⟨k2, rfl, r_k2, nl_k2⟩ := Q177
    refine g_istore (pc' := 138) (Ls' := #[.val (.int p0), .val (.long p1), .second, .val (.long p2), .second, .val (.int p3), .val (.ref b150), .val (.ref kW), .val (.int kl), .val (.int sn.toInt32), .val (.int tl), .val (.int md), .val (.int k0), .val (.int k1), .val (.int k2), .unset, .unset, .unset, .unset, .unset, .unset, .unset, .unset, .unset, .unset]) W177.here hx (hb hby at_136) rfl rfl ?_
    refine g_iconst (5 : Int32) (pc' := 139) W177.here hx (hb hby at_138) rfl rfl ?_
    refine w_newarr (pc' := 141) (cap := 5) W177 hx (hw _ (List.mem_of_getElem? w_25)) (hb hby at_139) (by decide) (Nat.le_refl _) (Nat.le_of_ble_eq_true rfl) (Nat.le_of_ble_eq_true rfl) (Nat.le_of_ble_eq_true rfl) rfl rfl fun T178 h178 b178 g178 W178 K178 V178 => ?_
    have z_K178 : h177.size ≤ h178.size := K178.1
    have ne_b150_b178 : b150 ≠ b178 := by omega
    have lt_b178 : b178 < h178.size := W178.lt (List.mem_cons_self ..)
    have V178 : Ary Z h178 b178 .char [(.int (0 : Int32)), (.int (0 : Int32)), (.int (0 : Int32)), (.int (0 : Int32)), (.int (0 : Int32))] := V178
    refine g_astore (pc' := 143) (Ls' := #[.val (.int p0), .val (.long p1), .second, .val (.long p2), .second, .val (.int p3), .val (.ref b150), .val (.ref kW), .val (.int kl), .val (.int sn.toInt32), .val (.int tl), .val (.int md), .val (.int k0), .val (.int k1), .val (.int k2), .val (.ref b178), .unset, .unset, .unset, .unset, .unset, .unset, .unset, .unset, .unset]) W178.here hx (hb hby at_141) rfl rfl rfl ?_
    refine g_aload (pc' := 145) W178.here hx (hb hby at_143) rfl rfl rfl ?_
    refine g_iconst (0 : Int32) (pc' := 146) W178.here hx (hb hby at_145) rfl rfl ?_
    refine g_lloadN (pc' := 147) W178.here hx (hb hby at_146) rfl rfl ?_
    refine w_ldc2J (pc' := 150) W178 hx (hw _ (List.mem_of_getElem? w_20)) (hb hby at_147) rfl ?_
    refine g_land (pc' := 151) W178.here hx (hb hby at_150) rfl ?_
    refine g_l2i (pc' := 152) W178.here hx (hb hby at_151) rfl ?_
    refine g_i2c (pc' := 153) W178.here hx (hb hby at_152) rfl ?_
    obtain ⟨e0, he0⟩ : ∃ zz_ : Int32, zz_ = (((p2 &&& (65535 : Int64)).toInt32).toUInt32.toUInt16.toUInt32.toInt32) := ⟨_, rfl⟩
    refine g_name (congrArg Value.int he0) ?_
    have r_e0 : 0 ≤ e0.toInt ∧ e0.toInt < 65536 := by rw [he0]; have := c_i2c ((p2 &&& (65535 : Int64)).toInt32); omega
    refine w_castore (pc' := 154) (x' := e0) W178 hx V178 (by decide) (Nat.lt_of_lt_of_le (Nat.lt_succ_self _) (Nat.le_of_ble_eq_true rfl)) (List.mem_of_getElem? (i := 0) rfl) (own_nchar r_e0) (hb hby at_153) rfl fun T179 h179 W179 K179 V179 => ?_
    have z_K179 : h178.size ≤ h179.size := K179.1
    have V179 : Ary Z h179 b178 .char [(.int e0), (.int (0 : Int32)), (.int (0 : Int32)), (.int (0 : Int32)), (.int (0 : Int32))] := V179
    refine g_aload (pc' := 156) W179.here hx (hb hby at_154) rfl rfl rfl ?_
    refine g_iconst (1 : Int32) (pc' := 157) W179.here hx (hb hby at_156) rfl rfl ?_
    refine g_lloadN (pc' := 158) W179.here hx (hb hby at_157) rfl rfl ?_
    refine g_bipush (16 : Int32) (pc' := 160) W179.here hx (hb hby at_158) rfl rfl ?_
    refine g_lushr (pc' := 161) W179.here hx (hb hby at_160) rfl ?_
    refine w_ldc2J (pc' := 164) W179 hx (hw _ (List.mem_of_getElem? w_20)) (hb hby at_161) rfl ?_
    refine g_land (pc' := 165) W179.here hx (hb hby at_164) rfl ?_
    refine g_l2i (pc' := 166) W179.here hx (hb hby at_165) rfl ?_
    refine g_i2c (pc' := 167) W179.here hx (hb hby at_166) rfl ?_
    obtain ⟨e1, he1⟩ : ∃ zz_ : Int32, zz_ = (((((p2.toUInt64 >>> ((16 : Int32) &&& 0x3f).toInt64.toUInt64).toInt64) &&& (65535 : Int64)).toInt32).toUInt32.toUInt16.toUInt32.toInt32) := ⟨_, rfl⟩
    refine g_name (congrArg Value.int he1) ?_
    have r_e1 : 0 ≤ e1.toInt ∧ e1.toInt < 65536 := by rw [he1]; have := c_i2c ((((p2.toUInt64 >>> ((16 : Int32) &&& 0x3f).toInt64.toUInt64).toInt64) &&& (65535 : Int64)).toInt32); omega
    refine w_castore (pc' := 168) (x' := e1) W179 hx V179 (by decide) (Nat.lt_of_lt_of_le (Nat.lt_succ_self _) (Nat.le_of_ble_eq_true rfl)) (List.mem_of_getElem? (i := 0) rfl) (own_nchar r_e1) (hb hby at_167) rfl fun T180 h180 W180 K180 V180 => ?_
    have z_K180 : h179.size ≤ h180.size := K180.1
    have V180 : Ary Z h180 b178 .char [(.int e0), (.int e1), (.int (0 : Int32)), (.int (0 : Int32)), (.int (0 : Int32))] := V180
    refine g_aload (pc' := 170) W180.here hx (hb hby at_168) rfl rfl rfl ?_
    refine g_iconst (2 : Int32) (pc' := 171) W180.here hx (hb hby at_170) rfl rfl ?_
    refine g_lloadN (pc' := 172) W180.here hx (hb hby at_171) rfl rfl ?_
    refine g_bipush (32 : Int32) (pc' := 174) W180.here hx (hb hby at_172) rfl rfl ?_
    refine g_lushr (pc' := 175) W180.here hx (hb hby at_174) rfl ?_
    refine w_ldc2J (pc' := 178) W180 hx (hw _ (List.mem_of_getElem? w_20)) (hb hby at_175) rfl ?_
    refine g_land (pc' := 179) W180.here hx (hb hby at_178) rfl ?_
    refine g_l2i (pc' := 180) W180.here hx (hb hby at_179) rfl ?_
    refine g_i2c (pc' := 181) W180.here hx (hb hby at_180) rfl ?_
    obtain ⟨e2, he2⟩ : ∃ zz_ : Int32, zz_ = (((((p2.toUInt64 >>> ((32 : Int32) &&& 0x3f).toInt64.toUInt64).toInt64) &&& (65535 : Int64)).toInt32).toUInt32.toUInt16.toUInt32.toInt32) := ⟨_, rfl⟩
    refine g_name (congrArg Value.int he2) ?_
    have r_e2 : 0 ≤ e2.toInt ∧ e2.toInt < 65536 := by rw [he2]; have := c_i2c ((((p2.toUInt64 >>> ((32 : Int32) &&& 0x3f).toInt64.toUInt64).toInt64) &&& (65535 : Int64)).toInt32); omega
    refine w_castore (pc' := 182) (x' := e2) W180 hx V180 (by decide) (Nat.lt_of_lt_of_le (Nat.lt_succ_self _) (Nat.le_of_ble_eq_true rfl)) (List.mem_of_getElem? (i := 0) rfl) (own_nchar r_e2) (hb hby at_181) rfl fun T181 h181 W181 K181 V181 => ?_
    have z_K181 : h180.size ≤ h181.size := K181.1
    have V181 : Ary Z h181 b178 .char [(.int e0), (.int e1), (.int e2), (.int (0 : Int32)), (.int (0 : Int32))] := V181
    refine g_aload (pc' := 184) W181.here hx (hb hby at_182) rfl rfl rfl ?_
    refine g_iconst (3 : Int32) (pc' := 185) W181.here hx (hb hby at_184) rfl rfl ?_
    refine g_lloadN (pc' := 186) W181.here hx (hb hby at_185) rfl rfl ?_
    refine g_bipush (48 : Int32) (pc' := 188) W181.here hx (hb hby at_186) rfl rfl ?_
    refine g_lushr (pc' := 189) W181.here hx (hb hby at_188) rfl ?_
    refine w_ldc2J (pc' := 192) W181 hx (hw _ (List.mem_of_getElem? w_20)) (hb hby at_189) rfl ?_
    refine g_land (pc' := 193) W181.here hx (hb hby at_192) rfl ?_
    refine g_l2i (pc' := 194) W181.here hx (hb hby at_193) rfl ?_
    refine g_i2c (pc' := 195) W181.here hx (hb hby at_194) rfl ?_
    obtain ⟨e3, he3⟩ : ∃ zz_ : Int32, zz_ = (((((p2.toUInt64 >>> ((48 : Int32) &&& 0x3f).toInt64.toUInt64).toInt64) &&& (65535 : Int64)).toInt32).toUInt32.toUInt16.toUInt32.toInt32) := ⟨_, rfl⟩
    refine g_name (congrArg Value.int he3) ?_
    have r_e3 : 0 ≤ e3.toInt ∧ e3.toInt < 65536 := by rw [he3]; have := c_i2c ((((p2.toUInt64 >>> ((48 : Int32) &&& 0x3f).toInt64.toUInt64).toInt64) &&& (65535 : Int64)).toInt32); omega
    refine w_castore (pc' := 196) (x' := e3) W181 hx V181 (by decide) (Nat.lt_of_lt_of_le (Nat.lt_succ_self _) (Nat.le_of_ble_eq_true rfl)) (List.mem_of_getElem? (i := 0) rfl) (own_nchar r_e3) (hb hby at_195) rfl fun T182 h182 W182 K182 V182 => ?_
    have z_K182 : h181.size ≤ h182.size := K182.1
    have V182 : Ary Z h182 b178 .char [(.int e0), (.int e1), (.int e2), (.int e3), (.int (0 : Int32))] := V182
    refine g_aload (pc' := 198) W182.here hx (hb hby at_196) rfl rfl rfl ?_
    refine g_iconst (4 : Int32) (pc' := 199) W182.here hx (hb hby at_198) rfl rfl ?_
    refine g_iload (pc' := 201) W182.here hx (hb hby at_199) rfl rfl ?_
    refine w_ldcI (pc' := 203) W182 hx (hw _ (List.mem_of_getElem? w_26)) (hb hby at_201) rfl ?_
    refine g_iand (pc' := 204) W182.here hx (hb hby at_203) rfl ?_
    refine g_i2c (pc' := 205) W182.here hx (hb hby at_204) rfl ?_
    obtain ⟨e4, he4⟩ : ∃ zz_ : Int32, zz_ = ((p3 &&& (65535 : Int32)).toUInt32.toUInt16.toUInt32.toInt32) := ⟨_, rfl⟩
    refine g_name (congrArg Value.int he4) ?_
    have r_e4 : 0 ≤ e4.toInt ∧ e4.toInt < 65536 := by rw [he4]; have := c_i2c (p3 &&& (65535 : Int32)); omega
    refine w_castore (pc' := 206) (x' := e4) W182 hx V182 (by decide) (Nat.lt_of_lt_of_le (Nat.lt_succ_self _) (Nat.le_of_ble_eq_true rfl)) (List.mem_of_getElem? (i := 0) rfl) (own_nchar r_e4) (hb hby at_205) rfl fun T183 h183 W183 K183 V183 => ?_
    have z_K183 : h182.size ≤ h183.size := K183.1
    have V183 : Ary Z h183 b178 .char [(.int e0), (.int e1), (.int e2), (.int e3), (.int e4)] := V183
    refine g_aload (pc' := 208) W183.here hx (hb hby at_206) rfl rfl rfl ?_
    refine g_iload (pc' := 210) W183.here hx (hb hby at_208) rfl rfl ?_
    refine g_aload (pc' := 212) W183.here hx (hb hby at_210) rfl rfl rfl ?_
    refine g_iload (pc' := 214) W183.here hx (hb hby at_212) rfl rfl ?_
    obtain ⟨tv0, htv0⟩ : ∃ z, [e0, e1, e2, e3, e4][sn]? = some z := ⟨_, List.getElem?_eq_getElem (by simp; omega)⟩
    refine w_caload (pc' := 215) (v := (.int tv0)) W183 hx V183 (own_nneg (by omega)) (by show ([e0, e1, e2, e3, e4].map Value.int)[_]? = _; rw [i32_nat (by omega), List.getElem?_map, htv0]; rfl) (hb hby at_214) rfl ?_
    refine g_iload (pc' := 217) W183.here hx (hb hby at_215) rfl rfl ?_
    refine g_iload (pc' := 219) W183.here hx (hb hby at_217) rfl rfl ?_
    refine g_iconst (3 : Int32) (pc' := 220) W183.here hx (hb hby at_219) rfl rfl ?_
    refine g_iand (pc' := 221) W183.here hx (hb hby at_220) rfl ?_
    refine w_callS (pc' := 224) (st := [(.int sn.toInt32), (.ref b178)]) (y := (⟨"com/example/updatable_views/updatableviews/SqlTokenIsKeywordPinLaw", "place", "(CCI)C"⟩ : MethodName)) W183 hx [(.int tv0), (.int k0), (.int (md &&& (3 : Int32)))] (hw _ (List.mem_of_getElem? w_27)) (hw _ (List.mem_of_getElem? w_28)) (hw _ (List.mem_of_getElem? w_23)) (hw _ (List.mem_of_getElem? w_29)) (by decide) (c_place l Z a0 hw hE tv0 k0 (md &&& (3 : Int32)) h183 W183.old) all0 (by rw [hml]; rfl) (lenOf pd_17 rfl) rfl (hb hby at_221) (Nat.le_of_ble_eq_true rfl) (Nat.le_of_ble_eq_true rfl) (Nat.le_of_ble_eq_true rfl) (Nat.le_of_ble_eq_true rfl) rfl fun v184 T184 h184 W184 K184 Q184 => ?_
    have z_K184 : h183.size ≤ h184.size := K184.1
    obtain ⟨q0, rfl, r_q0⟩ := Q184
    have c185 := (V183.keep K184 nin0)
    refine w_castore (pc' := 225) (x' := q0) W184 hx c185 (own_nneg (by omega)) (by rw [i32_nat (by omega)]; simp; omega) (List.mem_of_getElem? (i := 0) rfl) (own_nchar r_q0) (hb hby at_224) rfl fun T186 h186 W186 K186 V186 => ?_
    have z_K186 : h184.size ≤ h186.size := K186.1
    have V186 : Ary Z h186 b178 .char (([e0, e1, e2, e3, e4].set sn q0).map Value.int) := by rw [i32_nat (by omega)] at V186; rw [List.map_set]; exact V186
    refine g_aload (pc' := 227) W186.here hx (hb hby at_225) rfl rfl rfl ?_
    refine g_iload (pc' := 229) W186.here hx (hb hby at_227) rfl rfl ?_
    refine g_iconst (1 : Int32) (pc' := 230) W186.here hx (hb hby at_229) rfl rfl ?_
    refine g_iadd (pc' := 231) W186.here hx (hb hby at_230) rfl ?_
    refine g_name (w := .int (sn + 1).toInt32) (congrArg Value.int (own_addn (by omega) rfl).symm) ?_
    refine g_aload (pc' := 233) W186.here hx (hb hby at_231) rfl rfl rfl ?_
    refine g_iload (pc' := 235) W186.here hx (hb hby at_233) rfl rfl ?_
    refine g_iconst (1 : Int32) (pc' := 236) W186.here hx (hb hby at_235) rfl rfl ?_
    refine g_iadd (pc' := 237) W186.here hx (hb hby at_236) rfl ?_
    refine g_name (w := .int (sn + 1).toInt32) (congrArg Value.int (own_addn (by omega) rfl).symm) ?_
    obtain ⟨tv1, htv1⟩ : ∃ z, ([e0, e1, e2, e3, e4].set sn q0)[(sn + 1)]? = some z := ⟨_, List.getElem?_eq_getElem (by simp; omega)⟩
    refine w_caload (pc' := 238) (v := (.int tv1)) W186 hx V186 (own_nneg (by omega)) (by show (([e0, e1, e2, e3, e4].set sn q0).map Value.int)[_]? = _; rw [i32_nat (by omega), List.getElem?_map, htv1]; rfl) (hb hby at_237) rfl ?_
    refine g_iload (pc' := 240) W186.here hx (hb hby at_238) rfl rfl ?_
    refine g_iload (pc' := 242) W186.here hx (hb hby at_240) rfl rfl ?_
    refine g_iconst (2 : Int32) (pc' := 243) W186.here hx (hb hby at_242) rfl rfl ?_
    refine g_iushr (pc' := 244) W186.here hx (hb hby at_243) rfl ?_
    refine g_iconst (3 : Int32) (pc' := 245) W186.here hx (hb hby at_244) rfl rfl ?_
    refine g_iand (pc' := 246) W186.here hx (hb hby at_245) rfl ?_
    refine w_callS (pc' := 249) (st := [(.int (sn + 1).toInt32), (.ref b178)]) (y := (⟨"com/example/updatable_views/updatableviews/SqlTokenIsKeywordPinLaw", "place", "(CCI)C"⟩ : MethodName)) W186 hx [(.int tv1), (.int k1), (.int (((md.toUInt32 >>> ((2 : Int32) &&& 31).toUInt32).toInt32) &&& (3 : Int32)))] (hw _ (List.mem_of_getElem? w_27)) (hw _ (List.mem_of_getElem? w_28)) (hw _ (List.mem_of_getElem? w_23)) (hw _ (List.mem_of_getElem? w_29)) (by decide) (c_place l Z a0 hw hE tv1 k1 (((md.toUInt32 >>> ((2 : Int32) &&& 31).toUInt32).toInt32) &&& (3 : Int32)) h186 W186.old) all0 (by rw [hml]; rfl) (lenOf pd_17 rfl) rfl (hb hby at_246) (Nat.le_of_ble_eq_true rfl) (Nat.le_of_ble_eq_true rfl) (Nat.le_of_ble_eq_true rfl) (Nat.le_of_ble_eq_true rfl) rfl fun v187 T187 h187 W187 K187 Q187 => ?_
    have z_K187 : h186.size ≤ h187.size := K187.1
    obtain ⟨q1, rfl, r_q1⟩ := Q187
    have c188 := (V186.keep K187 nin0)
    refine w_castore (pc' := 250) (x' := q1) W187 hx c188 (own_nneg (by omega)) (by rw [i32_nat (by omega)]; simp; omega) (List.mem_of_getElem? (i := 0) rfl) (own_nchar r_q1) (hb hby at_249) rfl fun T189 h189 W189 K189 V189 => ?_
    have z_K189 : h187.size ≤ h189.size := K189.1
    have V189 : Ary Z h189 b178 .char ((([e0, e1, e2, e3, e4].set sn q0).set (sn + 1) q1).map Value.int) := by rw [i32_nat (by omega)] at V189; rw [List.map_set]; exact V189
    refine g_aload (pc' := 252) W189.here hx (hb hby at_250) rfl rfl rfl ?_
    refine g_iload (pc' := 254) W189.here hx (hb hby at_252) rfl rfl ?_
    refine g_iconst (2 : Int32) (pc' := 255) W189.here hx (hb hby at_254) rfl rfl ?_
    refine g_iadd (pc' := 256) W189.here hx (hb hby at_255) rfl ?_
    refine g_name (w := .int (sn + 2).toInt32) (congrArg Value.int (own_addn (by omega) rfl).symm) ?_
    refine g_aload (pc' := 258) W189.here hx (hb hby at_256) rfl rfl rfl ?_
    refine g_iload (pc' := 260) W189.here hx (hb hby at_258) rfl rfl ?_
    refine g_iconst (2 : Int32) (pc' := 261) W189.here hx (hb hby at_260) rfl rfl ?_
    refine g_iadd (pc' := 262) W189.here hx (hb hby at_261) rfl ?_
    refine g_name (w := .int (sn + 2).toInt32) (congrArg Value.int (own_addn (by omega) rfl).symm) ?_
    obtain ⟨tv2, htv2⟩ : ∃ z, (([e0, e1, e2, e3, e4].set sn q0).set (sn + 1) q1)[(sn + 2)]? = some z := ⟨_, List.getElem?_eq_getElem (by simp; omega)⟩
    refine w_caload (pc' := 263) (v := (.int tv2)) W189 hx V189 (own_nneg (by omega)) (by show ((([e0, e1, e2, e3, e4].set sn q0).set (sn + 1) q1).map Value.int)[_]? = _; rw [i32_nat (by omega), List.getElem?_map, htv2]; rfl) (hb hby at_262) rfl ?_
    refine g_iload (pc' := 265) W189.here hx (hb hby at_263) rfl rfl ?_
    refine g_iload (pc' := 267) W189.here hx (hb hby at_265) rfl rfl ?_
    refine g_iconst (4 : Int32) (pc' := 268) W189.here hx (hb hby at_267) rfl rfl ?_
    refine g_iushr (pc' := 269) W189.here hx (hb hby at_268) rfl ?_
    refine g_iconst (3 : Int32) (pc' := 270) W189.here hx (hb hby at_269) rfl rfl ?_
    refine g_iand (pc' := 271) W189.here hx (hb hby at_270) rfl ?_
    refine w_callS (pc' := 274) (st := [(.int (sn + 2).toInt32), (.ref b178)]) (y := (⟨"com/example/updatable_views/updatableviews/SqlTokenIsKeywordPinLaw", "place", "(CCI)C"⟩ : MethodName)) W189 hx [(.int tv2), (.int k2), (.int (((md.toUInt32 >>> ((4 : Int32) &&& 31).toUInt32).toInt32) &&& (3 : Int32)))] (hw _ (List.mem_of_getElem? w_27)) (hw _ (List.mem_of_getElem? w_28)) (hw _ (List.mem_of_getElem? w_23)) (hw _ (List.mem_of_getElem? w_29)) (by decide) (c_place l Z a0 hw hE tv2 k2 (((md.toUInt32 >>> ((4 : Int32) &&& 31).toUInt32).toInt32) &&& (3 : Int32)) h189 W189.old) all0 (by rw [hml]; rfl) (lenOf pd_17 rfl) rfl (hb hby at_271) (Nat.le_of_ble_eq_true rfl) (Nat.le_of_ble_eq_true rfl) (Nat.le_of_ble_eq_true rfl) (Nat.le_of_ble_eq_true rfl) rfl fun v190 T190 h190 W190 K190 Q190 => ?_
    have z_K190 : h189.size ≤ h190.size := K190.1
    obtain ⟨q2, rfl, r_q2⟩ := Q190
    have c191 := (V189.keep K190 nin0)
    refine w_castore (pc' := 275) (x' := q2) W190 hx c191 (own_nneg (by omega)) (by rw [i32_nat (by omega)]; simp; omega) (List.mem_of_getElem? (i := 0) rfl) (own_nchar r_q2) (hb hby at_274) rfl fun T192 h192 W192 K192 V192 => ?_
    have z_K192 : h190.size ≤ h192.size := K192.1
    have V192 : Ary Z h192 b178 .char (((([e0, e1, e2, e3, e4].set sn q0).set (sn + 1) q1).set (sn + 2) q2).map Value.int) := by rw [i32_nat (by omega)] at V192; rw [List.map_set]; exact V192
    obtain ⟨ts3, hts3⟩ : ∃ z : List Int32, z = ((([e0, e1, e2, e3, e4].set sn q0).set (sn + 1) q1).set (sn + 2) q2) := ⟨_, rfl⟩
    have V193 : Ary Z h192 b178 .char (ts3.map Value.int) := by rw [hts3]; exact V192
    have r_ts : ∀ c ∈ ts3, 0 ≤ c.toInt ∧ c.toInt < 65536 := by rw [hts3]; exact own_setR (own_setR (own_setR (own_allS r_e0 (own_allS r_e1 (own_allS r_e2 (own_allS r_e3 (own_allS r_e4 own_all0))))) r_q0) r_q1) r_q2
    obtain ⟨g0, g1, g2⟩ := own_get3 (ts := [e0, e1, e2, e3, e4]) (q0 := q0) (q1 := q1) (q2 := q2) rfl hs2
    rw [← hts3] at g0 g1 g2
    refine w_new (pc' := 278) W192 hx (hw _ (List.mem_of_getElem? w_30)) (hw _ (List.mem_of_getElem? w_31)) (hw _ (List.mem_of_getElem? w_32)) (hb hby at_275) (Nat.le_of_ble_eq_true rfl) (Nat.le_of_ble_eq_true rfl) rfl fun T194 h194 b194 g194 W194 K194 A194 D194 => ?_
    have z_K194 : h192.size ≤ h194.size := K194.1
    have ne_b150_b194 : b150 ≠ b194 := by omega
    have ne_b178_b194 : b178 ≠ b194 := by omega
    have lt_b194 : b194 < h194.size := W194.lt (List.mem_cons_self ..)
    have F194_coder : Fld Z h194 b194 "java/lang/String" "coder" "B" (.int (0 : Int32)) := D194 (Or.inr (hw _ (List.mem_of_getElem? w_75))) (ty := .byte) (by decide)
    have F194_value : Fld Z h194 b194 "java/lang/String" "value" "[B" .null := D194 (Or.inr (hw _ (List.mem_of_getElem? w_77))) (ty := (.array .byte)) (by decide)
    refine g_dup (pc' := 279) W194.here hx (hb hby at_278) rfl rfl ?_
    refine g_aload (pc' := 281) W194.here hx (hb hby at_279) rfl rfl rfl ?_
    have c195 := (V193.keep K194 nin0)
    refine w_special (pc' := 284) (st := [(.ref b194)]) (y := (⟨"java/lang/String", "<init>", "([C)V"⟩ : MethodName)) (a := b194) W194 hx [(.ref b178)] rfl (hw _ (List.mem_of_getElem? w_33)) (hw _ (List.mem_of_getElem? w_34)) (hw _ (List.mem_of_getElem? w_32)) (hw _ (List.mem_of_getElem? w_35)) (by decide) (c_strC l Z a0 hw hE cc fm b194 b178 ts3 h194 W194.old G GU (by rw [hts3]; simp) r_ts c195 (by have := O.1; omega) A194 _ _ F194_coder F194_value (Ne.symm ne_b178_b194)) (allS (List.mem_of_getElem? (i := 0) rfl) all0) (by rw [hml]; rfl) (lenOf pd_18 rfl) rfl (hb hby at_281) (Nat.le_of_ble_eq_true rfl) (Nat.le_of_ble_eq_true rfl) (Nat.le_of_ble_eq_true rfl) (Nat.le_of_ble_eq_true rfl) rfl fun v196 T196 h196 W196 K196 Q196 => ?_
    have z_K196 : h194.size ≤ h196.size := K196.1
    obtain ⟨rfl, sb197, S197⟩ := Q196
    have ES197 := S197.exa
    have lt_sb197 : sb197 < h196.size := S197.ltb
    refine g_astore (pc' := 286) (Ls' := #[.val (.int p0), .val (.long p1), .second, .val (.long p2), .second, .val (.int p3), .val (.ref b150), .val (.ref kW), .val (.int kl), .val (.int sn.toInt32), .val (.int tl), .val (.int md), .val (.int k0), .val (.int k1), .val (.int k2), .val (.ref b178), .val (.ref b194), .unset, .unset, .unset, .unset, .unset, .unset, .unset, .unset]) W196.here hx (hb hby at_284) rfl rfl rfl ?_
    refine g_iconst (0 : Int32) (pc' := 287) W196.here hx (hb hby at_286) rfl rfl ?_
    refine w_newarr (pc' := 289) (cap := 0) W196 hx (hw _ (List.mem_of_getElem? w_25)) (hb hby at_287) (by decide) (Nat.le_refl _) (Nat.le_of_ble_eq_true rfl) (Nat.le_of_ble_eq_true rfl) (Nat.le_of_ble_eq_true rfl) rfl rfl fun T198 h198 b198 g198 W198 K198 V198 => ?_
    have z_K198 : h196.size ≤ h198.size := K198.1
    have ne_b150_b198 : b150 ≠ b198 := by omega
    have ne_b178_b198 : b178 ≠ b198 := by omega
    have ne_b194_b198 : b194 ≠ b198 := by omega
    have ne_sb197_b198 : sb197 ≠ b198 := by omega
    have lt_b198 : b198 < h198.size := W198.lt (List.mem_cons_self ..)
    have V198 : Ary Z h198 b198 .char [] := V198
    refine g_astore (pc' := 291) (Ls' := #[.val (.int p0), .val (.long p1), .second, .val (.long p2), .second, .val (.int p3), .val (.ref b150), .val (.ref kW), .val (.int kl), .val (.int sn.toInt32), .val (.int tl), .val (.int md), .val (.int k0), .val (.int k1), .val (.int k2), .val (.ref b178), .val (.ref b194), .val (.ref b198), .unset, .unset, .unset, .unset, .unset, .unset, .unset]) W198.here hx (hb hby at_289) rfl rfl rfl ?_
    refine g_iconst (1 : Int32) (pc' := 292) W198.here hx (hb hby at_291) rfl rfl ?_
    refine w_newarr (pc' := 294) (cap := 1) W198 hx (hw _ (List.mem_of_getElem? w_25)) (hb hby at_292) (by decide) (Nat.le_refl _) (Nat.le_of_ble_eq_true rfl) (Nat.le_of_ble_eq_true rfl) (Nat.le_of_ble_eq_true rfl) rfl rfl fun T199 h199 b199 g199 W199 K199 V199 => ?_
    have z_K199 : h198.size ≤ h199.size := K199.1
    have ne_b150_b199 : b150 ≠ b199 := by omega
    have ne_b178_b199 : b178 ≠ b199 := by omega
    have ne_b194_b199 : b194 ≠ b199 := by omega
    have ne_sb197_b199 : sb197 ≠ b199 := by omega
    have ne_b198_b199 : b198 ≠ b199 := by omega
    have lt_b199 : b199 < h199.size := W199.lt (List.mem_cons_self ..)
    have V199 : Ary Z h199 b199 .char [(.int (0 : Int32))] := V199
    refine g_dup (pc' := 295) W199.here hx (hb hby at_294) rfl rfl ?_
    refine g_iconst (0 : Int32) (pc' := 296) W199.here hx (hb hby at_295) rfl rfl ?_
    refine g_iload (pc' := 298) W199.here hx (hb hby at_296) rfl rfl ?_
    refine w_castore (pc' := 299) (x' := k0) W199 hx V199 (by decide) (Nat.lt_of_lt_of_le (Nat.lt_succ_self _) (Nat.le_of_ble_eq_true rfl)) (List.mem_of_getElem? (i := 0) rfl) (own_nchar r_k0) (hb hby at_298) rfl fun T200 h200 W200 K200 V200 => ?_
    have z_K200 : h199.size ≤ h200.size := K200.1
    have V200 : Ary Z h200 b199 .char [(.int k0)] := V200
    refine g_astore (pc' := 301) (Ls' := #[.val (.int p0), .val (.long p1), .second, .val (.long p2), .second, .val (.int p3), .val (.ref b150), .val (.ref kW), .val (.int kl), .val (.int sn.toInt32), .val (.int tl), .val (.int md), .val (.int k0), .val (.int k1), .val (.int k2), .val (.ref b178), .val (.ref b194), .val (.ref b198), .val (.ref b199), .unset, .unset, .unset, .unset, .unset, .unset]) W200.here hx (hb hby at_299) rfl rfl rfl ?_
    refine g_iconst (2 : Int32) (pc' := 302) W200.here hx (hb hby at_301) rfl rfl ?_
    refine w_newarr (pc' := 304) (cap := 2) W200 hx (hw _ (List.mem_of_getElem? w_25)) (hb hby at_302) (by decide) (Nat.le_refl _) (Nat.le_of_ble_eq_true rfl) (Nat.le_of_ble_eq_true rfl) (Nat.le_of_ble_eq_true rfl) rfl rfl fun T201 h201 b201 g201 W201 K201 V201 => ?_
    have z_K201 : h200.size ≤ h201.size := K201.1
    have ne_b150_b201 : b150 ≠ b201 := by omega
    have ne_b178_b201 : b178 ≠ b201 := by omega
    have ne_b194_b201 : b194 ≠ b201 := by omega
    have ne_sb197_b201 : sb197 ≠ b201 := by omega
    have ne_b198_b201 : b198 ≠ b201 := by omega
    have ne_b199_b201 : b199 ≠ b201 := by omega
    have lt_b201 : b201 < h201.size := W201.lt (List.mem_cons_self ..)
    have V201 : Ary Z h201 b201 .char [(.int (0 : Int32)), (.int (0 : Int32))] := V201
    refine g_dup (pc' := 305) W201.here hx (hb hby at_304) rfl rfl ?_
    refine g_iconst (0 : Int32) (pc' := 306) W201.here hx (hb hby at_305) rfl rfl ?_
    refine g_iload (pc' := 308) W201.here hx (hb hby at_306) rfl rfl ?_
    refine w_castore (pc' := 309) (x' := k0) W201 hx V201 (by decide) (Nat.lt_of_lt_of_le (Nat.lt_succ_self _) (Nat.le_of_ble_eq_true rfl)) (List.mem_of_getElem? (i := 0) rfl) (own_nchar r_k0) (hb hby at_308) rfl fun T202 h202 W202 K202 V202 => ?_
    have z_K202 : h201.size ≤ h202.size := K202.1
    have V202 : Ary Z h202 b201 .char [(.int k0), (.int (0 : Int32))] := V202
    refine g_dup (pc' := 310) W202.here hx (hb hby at_309) rfl rfl ?_
    refine g_iconst (1 : Int32) (pc' := 311) W202.here hx (hb hby at_310) rfl rfl ?_
    refine g_iload (pc' := 313) W202.here hx (hb hby at_311) rfl rfl ?_
    refine w_castore (pc' := 314) (x' := k1) W202 hx V202 (by decide) (Nat.lt_of_lt_of_le (Nat.lt_succ_self _) (Nat.le_of_ble_eq_true rfl)) (List.mem_of_getElem? (i := 0) rfl) (own_nchar r_k1) (hb hby at_313) rfl fun T203 h203 W203 K203 V203 => ?_
    have z_K203 : h202.size ≤ h203.size := K203.1
    have V203 : Ary Z h203 b201 .char [(.int k0), (.int k1)] := V203
    refine g_astore (pc' := 316) (Ls' := #[.val (.int p0), .val (.long p1), .second, .val (.long p2), .second, .val (.int p3), .val (.ref b150), .val (.ref kW), .val (.int kl), .val (.int sn.toInt32), .val (.int tl), .val (.int md), .val (.int k0), .val (.int k1), .val (.int k2), .val (.ref b178), .val (.ref b194), .val (.ref b198), .val (.ref b199), .val (.ref b201), .unset, .unset, .unset, .unset, .unset]) W203.here hx (hb hby at_314) rfl rfl rfl ?_
    refine g_iconst (3 : Int32) (pc' := 317) W203.here hx (hb hby at_316) rfl rfl ?_
    refine w_newarr (pc' := 319) (cap := 3) W203 hx (hw _ (List.mem_of_getElem? w_25)) (hb hby at_317) (by decide) (Nat.le_refl _) (Nat.le_of_ble_eq_true rfl) (Nat.le_of_ble_eq_true rfl) (Nat.le_of_ble_eq_true rfl) rfl rfl fun T204 h204 b204 g204 W204 K204 V204 => ?_
    have z_K204 : h203.size ≤ h204.size := K204.1
    have ne_b150_b204 : b150 ≠ b204 := by omega
    have ne_b178_b204 : b178 ≠ b204 := by omega
    have ne_b194_b204 : b194 ≠ b204 := by omega
    have ne_sb197_b204 : sb197 ≠ b204 := by omega
    have ne_b198_b204 : b198 ≠ b204 := by omega
    have ne_b199_b204 : b199 ≠ b204 := by omega
    have ne_b201_b204 : b201 ≠ b204 := by omega
    have lt_b204 : b204 < h204.size := W204.lt (List.mem_cons_self ..)
    have V204 : Ary Z h204 b204 .char [(.int (0 : Int32)), (.int (0 : Int32)), (.int (0 : Int32))] := V204
    refine g_dup (pc' := 320) W204.here hx (hb hby at_319) rfl rfl ?_
    refine g_iconst (0 : Int32) (pc' := 321) W204.here hx (hb hby at_320) rfl rfl ?_
    refine g_iload (pc' := 323) W204.here hx (hb hby at_321) rfl rfl ?_
    refine w_castore (pc' := 324) (x' := k0) W204 hx V204 (by decide) (Nat.lt_of_lt_of_le (Nat.lt_succ_self _) (Nat.le_of_ble_eq_true rfl)) (List.mem_of_getElem? (i := 0) rfl) (own_nchar r_k0) (hb hby at_323) rfl fun T205 h205 W205 K205 V205 => ?_
    have z_K205 : h204.size ≤ h205.size := K205.1
    have V205 : Ary Z h205 b204 .char [(.int k0), (.int (0 : Int32)), (.int (0 : Int32))] := V205
    refine g_dup (pc' := 325) W205.here hx (hb hby at_324) rfl rfl ?_
    refine g_iconst (1 : Int32) (pc' := 326) W205.here hx (hb hby at_325) rfl rfl ?_
    refine g_iload (pc' := 328) W205.here hx (hb hby at_326) rfl rfl ?_
    refine w_castore (pc' := 329) (x' := k1) W205 hx V205 (by decide) (Nat.lt_of_lt_of_le (Nat.lt_succ_self _) (Nat.le_of_ble_eq_true rfl)) (List.mem_of_getElem? (i := 0) rfl) (own_nchar r_k1) (hb hby at_328) rfl fun T206 h206 W206 K206 V206 => ?_
    have z_K206 : h205.size ≤ h206.size := K206.1
    have V206 : Ary Z h206 b204 .char [(.int k0), (.int k1), (.int (0 : Int32))] := V206
    refine g_dup (pc' := 330) W206.here hx (hb hby at_329) rfl rfl ?_
    refine g_iconst (2 : Int32) (pc' := 331) W206.here hx (hb hby at_330) rfl rfl ?_
    refine g_iload (pc' := 333) W206.here hx (hb hby at_331) rfl rfl ?_
    refine w_castore (pc' := 334) (x' := k2) W206 hx V206 (by decide) (Nat.lt_of_lt_of_le (Nat.lt_succ_self _) (Nat.le_of_ble_eq_true rfl)) (List.mem_of_getElem? (i := 0) rfl) (own_nchar r_k2) (hb hby at_333) rfl fun T207 h207 W207 K207 V207 => ?_
    have z_K207 : h206.size ≤ h207.size := K207.1
    have V207 : Ary Z h207 b204 .char [(.int k0), (.int k1), (.int k2)] := V207
    refine g_astore (pc' := 336) (Ls' := #[.val (.int p0), .val (.long p1), .second, .val (.long p2), .second, .val (.int p3), .val (.ref b150), .val (.ref kW), .val (.int kl), .val (.int sn.toInt32), .val (.int tl), .val (.int md), .val (.int k0), .val (.int k1), .val (.int k2), .val (.ref b178), .val (.ref b194), .val (.ref b198), .val (.ref b199), .val (.ref b201), .val (.ref b204), .unset, .unset, .unset, .unset]) W207.here hx (hb hby at_334) rfl rfl rfl ?_
    refine g_iload (pc' := 338) W207.here hx (hb hby at_336) rfl rfl ?_
    by_cases hc338_208 : kl = (0 : Int32)
    · refine g_ifN (pc' := 341) W207.here hx (hb hby at_338) rfl (teq hc338_208).2 ?_
      refine w_new (pc' := 344) W207 hx (hw _ (List.mem_of_getElem? w_30)) (hw _ (List.mem_of_getElem? w_31)) (hw _ (List.mem_of_getElem? w_32)) (hb hby at_341) (Nat.le_of_ble_eq_true rfl) (Nat.le_of_ble_eq_true rfl) rfl fun T209 h209 b209 g209 W209 K209 A209 D209 => ?_
      have z_K209 : h207.size ≤ h209.size := K209.1
      have ne_b150_b209 : b150 ≠ b209 := by omega
      have ne_b178_b209 : b178 ≠ b209 := by omega
      have ne_b194_b209 : b194 ≠ b209 := by omega
      have ne_sb197_b209 : sb197 ≠ b209 := by omega
      have ne_b198_b209 : b198 ≠ b209 := by omega
      have ne_b199_b209 : b199 ≠ b209 := by omega
      have ne_b201_b209 : b201 ≠ b209 := by omega
      have ne_b204_b209 : b204 ≠ b209 := by omega
      have lt_b209 : b209 < h209.size := W209.lt (List.mem_cons_self ..)
      have F209_coder : Fld Z h209 b209 "java/lang/String" "coder" "B" (.int (0 : Int32)) := D209 (Or.inr (hw _ (List.mem_of_getElem? w_75))) (ty := .byte) (by decide)
      have F209_value : Fld Z h209 b209 "java/lang/String" "value" "[B" .null := D209 (Or.inr (hw _ (List.mem_of_getElem? w_77))) (ty := (.array .byte)) (by decide)
      refine g_dup (pc' := 345) W209.here hx (hb hby at_344) rfl rfl ?_
      refine g_aload (pc' := 347) W209.here hx (hb hby at_345) rfl rfl rfl ?_
      have c210 := ((((((((((V198.keep K199 nin0).keep K200 (ninS ne_b198_b199 nin0)).keep K201 nin0).keep K202 (ninS ne_b198_b201 nin0)).keep K203 (ninS ne_b198_b201 nin0)).keep K204 nin0).keep K205 (ninS ne_b198_b204 nin0)).keep K206 (ninS ne_b198_b204 nin0)).keep K207 (ninS ne_b198_b204 nin0)).keep K209 nin0)
      refine w_special (pc' := 350) (st := [(.ref b209)]) (y := (⟨"java/lang/String", "<init>", "([C)V"⟩ : MethodName)) (a := b209) W209 hx [(.ref b198)] rfl (hw _ (List.mem_of_getElem? w_33)) (hw _ (List.mem_of_getElem? w_34)) (hw _ (List.mem_of_getElem? w_32)) (hw _ (List.mem_of_getElem? w_35)) (by decide) (c_strC l Z a0 hw hE cc fm b209 b198 [] h209 W209.old G GU (Nat.le_of_ble_eq_true rfl) own_all0 c210 (by have := O.1; omega) A209 _ _ F209_coder F209_value (Ne.symm ne_b198_b209)) (allS (List.mem_of_getElem? (i := 0) rfl) all0) (by rw [hml]; rfl) (lenOf pd_18 rfl) rfl (hb hby at_347) (Nat.le_of_ble_eq_true rfl) (Nat.le_of_ble_eq_true rfl) (Nat.le_of_ble_eq_true rfl) (Nat.le_of_ble_eq_true rfl) rfl fun v211 T211 h211 W211 K211 Q211 => ?_
      have z_K211 : h209.size ≤ h211.size := K211.1
      obtain ⟨rfl, sb212, S212⟩ := Q211
      have ES212 := S212.exa
      have lt_sb212 : sb212 < h211.size := S212.ltb
      refine g_goto (pc' := 398) W211.here hx (hb hby at_350) rfl ?_
      have hkn : kl = (0 : Int32) := hc338_208
      refine g_astore (pc' := 400) (Ls' := #[.val (.int p0), .val (.long p1), .second, .val (.long p2), .second, .val (.int p3), .val (.ref b150), .val (.ref kW), .val (.int kl), .val (.int sn.toInt32), .val (.int tl), .val (.int md), .val (.int k0), .val (.int k1), .val (.int k2), .val (.ref b178), .val (.ref b194), .val (.ref b198), .val (.ref b199), .val (.ref b201), .val (.ref b204), .val (.ref b209), .unset, .unset, .unset]) W211.here hx (hb hby at_398) rfl rfl rfl ?_
      refine w_new (pc' := 403) W211 hx (hw _ (List.mem_of_getElem? w_81)) (hw _ (List.mem_of_getElem? w_82)) (hw _ (List.mem_of_getElem? w_83)) (hb hby at_400) (Nat.le_of_ble_eq_true rfl) (Nat.le_of_ble_eq_true rfl) rfl fun T213 h213 b213 g213 W213 K213 A213 D213 => ?_
      have z_K213 : h211.size ≤ h213.size := K213.1
      have ne_b150_b213 : b150 ≠ b213 := by omega
      have ne_b178_b213 : b178 ≠ b213 := by omega
      have ne_b194_b213 : b194 ≠ b213 := by omega
      have ne_sb197_b213 : sb197 ≠ b213 := by omega
      have ne_b198_b213 : b198 ≠ b213 := by omega
      have ne_b199_b213 : b199 ≠ b213 := by omega
      have ne_b201_b213 : b201 ≠ b213 := by omega
      have ne_b204_b213 : b204 ≠ b213 := by omega
      have ne_b209_b213 : b209 ≠ b213 := by omega
      have ne_sb212_b213 : sb212 ≠ b213 := by omega
      have lt_b213 : b213 < h213.size := W213.lt (List.mem_cons_self ..)
      have F213_kind : Fld Z h213 b213 "com/example/updatable_views/updatableviews/SqlToken" "kind" "Lcom/example/updatable_views/updatableviews/SqlToken$Kind;" .null := D213 (Or.inr (hw _ (List.mem_of_getElem? w_89))) (ty := (.object "com/example/updatable_views/updatableviews/SqlToken$Kind")) (by decide)
      have F213_start : Fld Z h213 b213 "com/example/updatable_views/updatableviews/SqlToken" "start" "I" (.int (0 : Int32)) := D213 (Or.inr (hw _ (List.mem_of_getElem? w_91))) (ty := .int) (by decide)
      have F213_end : Fld Z h213 b213 "com/example/updatable_views/updatableviews/SqlToken" "end" "I" (.int (0 : Int32)) := D213 (Or.inr (hw _ (List.mem_of_getElem? w_93))) (ty := .int) (by decide)
      refine g_dup (pc' := 404) W213.here hx (hb hby at_403) rfl rfl ?_
      refine g_aload (pc' := 406) W213.here hx (hb hby at_404) rfl rfl rfl ?_
      refine g_iload (pc' := 408) W213.here hx (hb hby at_406) rfl rfl ?_
      refine g_iload (pc' := 410) W213.here hx (hb hby at_408) rfl rfl ?_
      refine g_iload (pc' := 412) W213.here hx (hb hby at_410) rfl rfl ?_
      refine g_iadd (pc' := 413) W213.here hx (hb hby at_412) rfl ?_
      refine w_special (pc' := 416) (st := [(.ref b213)]) (y := (⟨"com/example/updatable_views/updatableviews/SqlToken", "<init>", "(Lcom/example/updatable_views/updatableviews/SqlToken$Kind;II)V"⟩ : MethodName)) (a := b213) W213 hx [(.ref kW), (.int sn.toInt32), (.int (sn.toInt32 + tl))] rfl (hw _ (List.mem_of_getElem? w_84)) (hw _ (List.mem_of_getElem? w_85)) (hw _ (List.mem_of_getElem? w_83)) (hw _ (List.mem_of_getElem? w_86)) (by decide) (c_tok l Z a0 hw hE b213 (.ref kW) sn.toInt32 (sn.toInt32 + tl) h213 W213.old (by have := O.1; omega) A213 rfl _ F213_kind _ F213_start _ F213_end) (allS (List.mem_of_getElem? (i := 0) rfl) all0) (by rw [hml]; rfl) (lenOf pd_19 rfl) rfl (hb hby at_413) (Nat.le_of_ble_eq_true rfl) (Nat.le_of_ble_eq_true rfl) (Nat.le_of_ble_eq_true rfl) (Nat.le_of_ble_eq_true rfl) rfl fun v214 T214 h214 W214 K214 Q214 => ?_
      have z_K214 : h213.size ≤ h214.size := K214.1
      obtain ⟨rfl, E215, F215_0, F215_1, F215_2⟩ := Q214
      refine g_astore (pc' := 418) (Ls' := #[.val (.int p0), .val (.long p1), .second, .val (.long p2), .second, .val (.int p3), .val (.ref b150), .val (.ref kW), .val (.int kl), .val (.int sn.toInt32), .val (.int tl), .val (.int md), .val (.int k0), .val (.int k1), .val (.int k2), .val (.ref b178), .val (.ref b194), .val (.ref b198), .val (.ref b199), .val (.ref b201), .val (.ref b204), .val (.ref b209), .val (.ref b213), .unset, .unset]) W214.here hx (hb hby at_416) rfl rfl rfl ?_
      refine g_aload (pc' := 420) W214.here hx (hb hby at_418) rfl rfl rfl ?_
      refine g_aload (pc' := 422) W214.here hx (hb hby at_420) rfl rfl rfl ?_
      refine g_aload (pc' := 424) W214.here hx (hb hby at_422) rfl rfl rfl ?_
      have c216 := ((((((((((((((S197.keep K198 nin0 nin0).keep K199 nin0 nin0).keep K200 (ninS ne_b194_b199 nin0) (ninS ne_sb197_b199 nin0)).keep K201 nin0 nin0).keep K202 (ninS ne_b194_b201 nin0) (ninS ne_sb197_b201 nin0)).keep K203 (ninS ne_b194_b201 nin0) (ninS ne_sb197_b201 nin0)).keep K204 nin0 nin0).keep K205 (ninS ne_b194_b204 nin0) (ninS ne_sb197_b204 nin0)).keep K206 (ninS ne_b194_b204 nin0) (ninS ne_sb197_b204 nin0)).keep K207 (ninS ne_b194_b204 nin0) (ninS ne_sb197_b204 nin0)).keep K209 nin0 nin0).keep K211 (ninS ne_b194_b209 nin0) (ninS ne_sb197_b209 nin0)).keep K213 nin0 nin0).keep K214 (ninS ne_b194_b213 nin0) (ninS ne_sb197_b213 nin0))
      have c217 := ((S212.keep K213 nin0 nin0).keep K214 (ninS ne_b209_b213 nin0) (ninS ne_sb212_b213 nin0))
      refine w_virtualp (pc' := 427) (st := []) (y := (⟨"com/example/updatable_views/updatableviews/SqlToken", "isKeyword", "(Ljava/lang/CharSequence;Ljava/lang/String;)Z"⟩ : MethodName)) (z := (⟨"com/example/updatable_views/updatableviews/SqlToken", "isKeyword", "(Ljava/lang/CharSequence;Ljava/lang/String;)Z"⟩ : MethodName)) (a := b213) W214 hx [(.ref b194), (.ref b209)] (hw _ (List.mem_of_getElem? w_94)) (hw _ (List.mem_of_getElem? w_95)) (nfS (z := (⟨"com/example/updatable_views/updatableviews/SqlToken", "isKeyword", "(Ljava/lang/CharSequence;Ljava/lang/String;)Z"⟩ : MethodName)) (hw _ (List.mem_of_getElem? w_97))) (hw _ (List.mem_of_getElem? w_97)) (hw _ (List.mem_of_getElem? w_96)) (hw _ (List.mem_of_getElem? w_83)) (hw _ (List.mem_of_getElem? w_98)) (by decide) (c_isKwY l Z a0 hw hE cc fm kW b213 b194 sb197 b209 sb212 sn (sn.toInt32 + tl) ts3 [] h214 W214.old G GU S_kW F215_0 F215_1 F215_2 c216 c217 (by rw [hts3]; simp) (Nat.le_of_ble_eq_true rfl) (by rw [hts3]; simp; omega)) E215 (by rw [hml]; rfl) (lenOf pd_20 rfl) rfl (hb hby at_424) (Nat.le_of_ble_eq_true rfl) (Nat.le_of_ble_eq_true rfl) rfl rfl (Nat.le_of_ble_eq_true rfl) (Nat.le_of_ble_eq_true rfl) rfl fun T218 W218 => ?_
      obtain ⟨got, hgot⟩ : ∃ zz_ : Int32, zz_ = (kwI ts3 sn (sn.toInt32 + tl) []) := ⟨_, rfl⟩
      refine g_name (congrArg Value.int hgot) ?_
      refine g_istore (pc' := 429) (Ls' := #[.val (.int p0), .val (.long p1), .second, .val (.long p2), .second, .val (.int p3), .val (.ref b150), .val (.ref kW), .val (.int kl), .val (.int sn.toInt32), .val (.int tl), .val (.int md), .val (.int k0), .val (.int k1), .val (.int k2), .val (.ref b178), .val (.ref b194), .val (.ref b198), .val (.ref b199), .val (.ref b201), .val (.ref b204), .val (.ref b209), .val (.ref b213), .val (.int got), .unset]) W218.here hx (hb hby at_427) rfl rfl ?_
      refine g_aload (pc' := 431) W218.here hx (hb hby at_429) rfl rfl rfl ?_
      refine w_getS (pc' := 434) W218 hx (hw _ (List.mem_of_getElem? w_2)) Via.refl S_kW (hb hby at_431) rfl fun T219 W219 => ?_
      refine w_acmp (pc' := 437) W219 hx rfl rfl true (hb hby at_434) (decide_eq_true rfl) (by decide) (by decide) ?_
      refine g_iload (pc' := 439) W219.here hx (hb hby at_437) rfl rfl ?_
      refine g_iload (pc' := 441) W219.here hx (hb hby at_439) rfl rfl ?_
      by_cases hc441_220 : tl = kl
      · refine g_icmpN (pc' := 444) W219.here hx (hb hby at_441) rfl (teq hc441_220).2 ?_
        refine g_iload (pc' := 446) W219.here hx (hb hby at_444) rfl rfl ?_
        refine g_iconst (1 : Int32) (pc' := 447) W219.here hx (hb hby at_446) rfl rfl ?_
        refine g_icmpY (pc' := 463) W219.here hx (hb hby at_447) rfl (tlt (show kl < (1 : Int32) from (by rw [hkn]; decide))).1 ?_
        refine g_iload (pc' := 465) W219.here hx (hb hby at_463) rfl rfl ?_
        refine g_iconst (2 : Int32) (pc' := 466) W219.here hx (hb hby at_465) rfl rfl ?_
        refine g_icmpY (pc' := 484) W219.here hx (hb hby at_466) rfl (tlt (show kl < (2 : Int32) from (by rw [hkn]; decide))).1 ?_
        refine g_iload (pc' := 486) W219.here hx (hb hby at_484) rfl rfl ?_
        refine g_iconst (3 : Int32) (pc' := 487) W219.here hx (hb hby at_486) rfl rfl ?_
        refine g_icmpY (pc' := 505) W219.here hx (hb hby at_487) rfl (tlt (show kl < (3 : Int32) from (by rw [hkn]; decide))).1 ?_
        refine g_iconst (1 : Int32) (pc' := 506) W219.here hx (hb hby at_505) rfl rfl ?_
        refine g_goto (pc' := 510) W219.here hx (hb hby at_506) rfl ?_
        refine g_istore (pc' := 512) (Ls' := #[.val (.int p0), .val (.long p1), .second, .val (.long p2), .second, .val (.int p3), .val (.ref b150), .val (.ref kW), .val (.int kl), .val (.int sn.toInt32), .val (.int tl), .val (.int md), .val (.int k0), .val (.int k1), .val (.int k2), .val (.ref b178), .val (.ref b194), .val (.ref b198), .val (.ref b199), .val (.ref b201), .val (.ref b204), .val (.ref b209), .val (.ref b213), .val (.int got), .val (.int (1 : Int32))]) W219.here hx (hb hby at_510) rfl rfl ?_
        refine g_iload (pc' := 514) W219.here hx (hb hby at_512) rfl rfl ?_
        refine g_iload (pc' := 516) W219.here hx (hb hby at_514) rfl rfl ?_
        refine g_icmpN (pc' := 519) W219.here hx (hb hby at_516) rfl (teq (show got = (1 : Int32) from (by rw [hgot, hts3, own_kw1 (ts := [e0, e1, e2, e3, e4]) (ks := []) rfl hs2 (Nat.le_of_ble_eq_true rfl)]; rw [if_pos ⟨hc441_220.trans (by rw [hkn]; rfl), by simp⟩]))).2 ?_
        refine g_iconst (1 : Int32) (pc' := 520) W219.here hx (hb hby at_519) rfl rfl ?_
        refine g_goto (pc' := 524) W219.here hx (hb hby at_520) rfl ?_
        refine w_retN (t := .boolean) W219 hx hh hlk hret (by simp) (hb hby at_524) (Nat.le_of_ble_eq_true rfl) (Nat.le_of_ble_eq_true rfl) ?_
        exact rfl
      · refine g_icmpY (pc' := 509) W219.here hx (hb hby at_441) rfl (feq hc441_220).2 ?_
        refine g_iconst (0 : Int32) (pc' := 510) W219.here hx (hb hby at_509) rfl rfl ?_
        refine g_istore (pc' := 512) (Ls' := #[.val (.int p0), .val (.long p1), .second, .val (.long p2), .second, .val (.int p3), .val (.ref b150), .val (.ref kW), .val (.int kl), .val (.int sn.toInt32), .val (.int tl), .val (.int md), .val (.int k0), .val (.int k1), .val (.int k2), .val (.ref b178), .val (.ref b194), .val (.ref b198), .val (.ref b199), .val (.ref b201), .val (.ref b204), .val (.ref b209), .val (.ref b213), .val (.int got), .val (.int (0 : Int32))]) W219.here hx (hb hby at_510) rfl rfl ?_
        refine g_iload (pc' := 514) W219.here hx (hb hby at_512) rfl rfl ?_
        refine g_iload (pc' := 516) W219.here hx (hb hby at_514) rfl rfl ?_
        refine g_icmpN (pc' := 519) W219.here hx (hb hby at_516) rfl (teq (show got = (0 : Int32) from (by rw [hgot, hts3, own_kw1 (ts := [e0, e1, e2, e3, e4]) (ks := []) rfl hs2 (Nat.le_of_ble_eq_true rfl)]; rw [if_neg (fun z => hc441_220 (z.1.trans (by rw [hkn]; rfl)))]))).2 ?_
        refine g_iconst (1 : Int32) (pc' := 520) W219.here hx (hb hby at_519) rfl rfl ?_
        refine g_goto (pc' := 524) W219.here hx (hb hby at_520) rfl ?_
        refine w_retN (t := .boolean) W219 hx hh hlk hret (by simp) (hb hby at_524) (Nat.le_of_ble_eq_true rfl) (Nat.le_of_ble_eq_true rfl) ?_
        exact rfl
    · refine g_ifY (pc' := 353) W207.here hx (hb hby at_338) rfl (feq hc338_208).2 ?_
      refine g_iload (pc' := 355) W207.here hx (hb hby at_353) rfl rfl ?_
      refine g_iconst (1 : Int32) (pc' := 356) W207.here hx (hb hby at_355) rfl rfl ?_
      by_cases hc356_221 : kl = (1 : Int32)
      · refine g_icmpN (pc' := 359) W207.here hx (hb hby at_356) rfl (teq hc356_221).2 ?_
        refine w_new (pc' := 362) W207 hx (hw _ (List.mem_of_getElem? w_30)) (hw _ (List.mem_of_getElem? w_31)) (hw _ (List.mem_of_getElem? w_32)) (hb hby at_359) (Nat.le_of_ble_eq_true rfl) (Nat.le_of_ble_eq_true rfl) rfl fun T222 h222 b222 g222 W222 K222 A222 D222 => ?_
        have z_K222 : h207.size ≤ h222.size := K222.1
        have ne_b150_b222 : b150 ≠ b222 := by omega
        have ne_b178_b222 : b178 ≠ b222 := by omega
        have ne_b194_b222 : b194 ≠ b222 := by omega
        have ne_sb197_b222 : sb197 ≠ b222 := by omega
        have ne_b198_b222 : b198 ≠ b222 := by omega
        have ne_b199_b222 : b199 ≠ b222 := by omega
        have ne_b201_b222 : b201 ≠ b222 := by omega
        have ne_b204_b222 : b204 ≠ b222 := by omega
        have lt_b222 : b222 < h222.size := W222.lt (List.mem_cons_self ..)
        have F222_coder : Fld Z h222 b222 "java/lang/String" "coder" "B" (.int (0 : Int32)) := D222 (Or.inr (hw _ (List.mem_of_getElem? w_75))) (ty := .byte) (by decide)
        have F222_value : Fld Z h222 b222 "java/lang/String" "value" "[B" .null := D222 (Or.inr (hw _ (List.mem_of_getElem? w_77))) (ty := (.array .byte)) (by decide)
        refine g_dup (pc' := 363) W222.here hx (hb hby at_362) rfl rfl ?_
        refine g_aload (pc' := 365) W222.here hx (hb hby at_363) rfl rfl rfl ?_
        have c223 := ((((((((V200.keep K201 nin0).keep K202 (ninS ne_b199_b201 nin0)).keep K203 (ninS ne_b199_b201 nin0)).keep K204 nin0).keep K205 (ninS ne_b199_b204 nin0)).keep K206 (ninS ne_b199_b204 nin0)).keep K207 (ninS ne_b199_b204 nin0)).keep K222 nin0)
        refine w_special (pc' := 368) (st := [(.ref b222)]) (y := (⟨"java/lang/String", "<init>", "([C)V"⟩ : MethodName)) (a := b222) W222 hx [(.ref b199)] rfl (hw _ (List.mem_of_getElem? w_33)) (hw _ (List.mem_of_getElem? w_34)) (hw _ (List.mem_of_getElem? w_32)) (hw _ (List.mem_of_getElem? w_35)) (by decide) (c_strC l Z a0 hw hE cc fm b222 b199 [k0] h222 W222.old G GU (Nat.le_of_ble_eq_true rfl) (own_allS r_k0 own_all0) c223 (by have := O.1; omega) A222 _ _ F222_coder F222_value (Ne.symm ne_b199_b222)) (allS (List.mem_of_getElem? (i := 0) rfl) all0) (by rw [hml]; rfl) (lenOf pd_18 rfl) rfl (hb hby at_365) (Nat.le_of_ble_eq_true rfl) (Nat.le_of_ble_eq_true rfl) (Nat.le_of_ble_eq_true rfl) (Nat.le_of_ble_eq_true rfl) rfl fun v224 T224 h224 W224 K224 Q224 => ?_
        have z_K224 : h222.size ≤ h224.size := K224.1
        obtain ⟨rfl, sb225, S225⟩ := Q224
        have ES225 := S225.exa
        have lt_sb225 : sb225 < h224.size := S225.ltb
        refine g_goto (pc' := 398) W224.here hx (hb hby at_368) rfl ?_
        have hkn : kl = (1 : Int32) := hc356_221
        refine g_astore (pc' := 400) (Ls' := #[.val (.int p0), .val (.long p1), .second, .val (.long p2), .second, .val (.int p3), .val (.ref b150), .val (.ref kW), .val (.int kl), .val (.int sn.toInt32), .val (.int tl), .val (.int md), .val (.int k0), .val (.int k1), .val (.int k2), .val (.ref b178), .val (.ref b194), .val (.ref b198), .val (.ref b199), .val (.ref b201), .val (.ref b204), .val (.ref b222), .unset, .unset, .unset]) W224.here hx (hb hby at_398) rfl rfl rfl ?_
        refine w_new (pc' := 403) W224 hx (hw _ (List.mem_of_getElem? w_81)) (hw _ (List.mem_of_getElem? w_82)) (hw _ (List.mem_of_getElem? w_83)) (hb hby at_400) (Nat.le_of_ble_eq_true rfl) (Nat.le_of_ble_eq_true rfl) rfl fun T226 h226 b226 g226 W226 K226 A226 D226 => ?_
        have z_K226 : h224.size ≤ h226.size := K226.1
        have ne_b150_b226 : b150 ≠ b226 := by omega
        have ne_b178_b226 : b178 ≠ b226 := by omega
        have ne_b194_b226 : b194 ≠ b226 := by omega
        have ne_sb197_b226 : sb197 ≠ b226 := by omega
        have ne_b198_b226 : b198 ≠ b226 := by omega
        have ne_b199_b226 : b199 ≠ b226 := by omega
        have ne_b201_b226 : b201 ≠ b226 := by omega
        have ne_b204_b226 : b204 ≠ b226 := by omega
        have ne_b222_b226 : b222 ≠ b226 := by omega
        have ne_sb225_b226 : sb225 ≠ b226 := by omega
        have lt_b226 : b226 < h226.size := W226.lt (List.mem_cons_self ..)
        have F226_kind : Fld Z h226 b226 "com/example/updatable_views/updatableviews/SqlToken" "kind" "Lcom/example/updatable_views/updatableviews/SqlToken$Kind;" .null := D226 (Or.inr (hw _ (List.mem_of_getElem? w_89))) (ty := (.object "com/example/updatable_views/updatableviews/SqlToken$Kind")) (by decide)
        have F226_start : Fld Z h226 b226 "com/example/updatable_views/updatableviews/SqlToken" "start" "I" (.int (0 : Int32)) := D226 (Or.inr (hw _ (List.mem_of_getElem? w_91))) (ty := .int) (by decide)
        have F226_end : Fld Z h226 b226 "com/example/updatable_views/updatableviews/SqlToken" "end" "I" (.int (0 : Int32)) := D226 (Or.inr (hw _ (List.mem_of_getElem? w_93))) (ty := .int) (by decide)
        refine g_dup (pc' := 404) W226.here hx (hb hby at_403) rfl rfl ?_
        refine g_aload (pc' := 406) W226.here hx (hb hby at_404) rfl rfl rfl ?_
        refine g_iload (pc' := 408) W226.here hx (hb hby at_406) rfl rfl ?_
        refine g_iload (pc' := 410) W226.here hx (hb hby at_408) rfl rfl ?_
        refine g_iload (pc' := 412) W226.here hx (hb hby at_410) rfl rfl ?_
        refine g_iadd (pc' := 413) W226.here hx (hb hby at_412) rfl ?_
        refine w_special (pc' := 416) (st := [(.ref b226)]) (y := (⟨"com/example/updatable_views/updatableviews/SqlToken", "<init>", "(Lcom/example/updatable_views/updatableviews/SqlToken$Kind;II)V"⟩ : MethodName)) (a := b226) W226 hx [(.ref kW), (.int sn.toInt32), (.int (sn.toInt32 + tl))] rfl (hw _ (List.mem_of_getElem? w_84)) (hw _ (List.mem_of_getElem? w_85)) (hw _ (List.mem_of_getElem? w_83)) (hw _ (List.mem_of_getElem? w_86)) (by decide) (c_tok l Z a0 hw hE b226 (.ref kW) sn.toInt32 (sn.toInt32 + tl) h226 W226.old (by have := O.1; omega) A226 rfl _ F226_kind _ F226_start _ F226_end) (allS (List.mem_of_getElem? (i := 0) rfl) all0) (by rw [hml]; rfl) (lenOf pd_19 rfl) rfl (hb hby at_413) (Nat.le_of_ble_eq_true rfl) (Nat.le_of_ble_eq_true rfl) (Nat.le_of_ble_eq_true rfl) (Nat.le_of_ble_eq_true rfl) rfl fun v227 T227 h227 W227 K227 Q227 => ?_
        have z_K227 : h226.size ≤ h227.size := K227.1
        obtain ⟨rfl, E228, F228_0, F228_1, F228_2⟩ := Q227
        refine g_astore (pc' := 418) (Ls' := #[.val (.int p0), .val (.long p1), .second, .val (.long p2), .second, .val (.int p3), .val (.ref b150), .val (.ref kW), .val (.int kl), .val (.int sn.toInt32), .val (.int tl), .val (.int md), .val (.int k0), .val (.int k1), .val (.int k2), .val (.ref b178), .val (.ref b194), .val (.ref b198), .val (.ref b199), .val (.ref b201), .val (.ref b204), .val (.ref b222), .val (.ref b226), .unset, .unset]) W227.here hx (hb hby at_416) rfl rfl rfl ?_
        refine g_aload (pc' := 420) W227.here hx (hb hby at_418) rfl rfl rfl ?_
        refine g_aload (pc' := 422) W227.here hx (hb hby at_420) rfl rfl rfl ?_
        refine g_aload (pc' := 424) W227.here hx (hb hby at_422) rfl rfl rfl ?_
        have c229 := ((((((((((((((S197.keep K198 nin0 nin0).keep K199 nin0 nin0).keep K200 (ninS ne_b194_b199 nin0) (ninS ne_sb197_b199 nin0)).keep K201 nin0 nin0).keep K202 (ninS ne_b194_b201 nin0) (ninS ne_sb197_b201 nin0)).keep K203 (ninS ne_b194_b201 nin0) (ninS ne_sb197_b201 nin0)).keep K204 nin0 nin0).keep K205 (ninS ne_b194_b204 nin0) (ninS ne_sb197_b204 nin0)).keep K206 (ninS ne_b194_b204 nin0) (ninS ne_sb197_b204 nin0)).keep K207 (ninS ne_b194_b204 nin0) (ninS ne_sb197_b204 nin0)).keep K222 nin0 nin0).keep K224 (ninS ne_b194_b222 nin0) (ninS ne_sb197_b222 nin0)).keep K226 nin0 nin0).keep K227 (ninS ne_b194_b226 nin0) (ninS ne_sb197_b226 nin0))
        have c230 := ((S225.keep K226 nin0 nin0).keep K227 (ninS ne_b222_b226 nin0) (ninS ne_sb225_b226 nin0))
        refine w_virtualp (pc' := 427) (st := []) (y := (⟨"com/example/updatable_views/updatableviews/SqlToken", "isKeyword", "(Ljava/lang/CharSequence;Ljava/lang/String;)Z"⟩ : MethodName)) (z := (⟨"com/example/updatable_views/updatableviews/SqlToken", "isKeyword", "(Ljava/lang/CharSequence;Ljava/lang/String;)Z"⟩ : MethodName)) (a := b226) W227 hx [(.ref b194), (.ref b222)] (hw _ (List.mem_of_getElem? w_94)) (hw _ (List.mem_of_getElem? w_95)) (nfS (z := (⟨"com/example/updatable_views/updatableviews/SqlToken", "isKeyword", "(Ljava/lang/CharSequence;Ljava/lang/String;)Z"⟩ : MethodName)) (hw _ (List.mem_of_getElem? w_97))) (hw _ (List.mem_of_getElem? w_97)) (hw _ (List.mem_of_getElem? w_96)) (hw _ (List.mem_of_getElem? w_83)) (hw _ (List.mem_of_getElem? w_98)) (by decide) (c_isKwY l Z a0 hw hE cc fm kW b226 b194 sb197 b222 sb225 sn (sn.toInt32 + tl) ts3 [k0] h227 W227.old G GU S_kW F228_0 F228_1 F228_2 c229 c230 (by rw [hts3]; simp) (Nat.le_of_ble_eq_true rfl) (by rw [hts3]; simp; omega)) E228 (by rw [hml]; rfl) (lenOf pd_20 rfl) rfl (hb hby at_424) (Nat.le_of_ble_eq_true rfl) (Nat.le_of_ble_eq_true rfl) rfl rfl (Nat.le_of_ble_eq_true rfl) (Nat.le_of_ble_eq_true rfl) rfl fun T231 W231 => ?_
        obtain ⟨got, hgot⟩ : ∃ zz_ : Int32, zz_ = (kwI ts3 sn (sn.toInt32 + tl) [k0]) := ⟨_, rfl⟩
        refine g_name (congrArg Value.int hgot) ?_
        refine g_istore (pc' := 429) (Ls' := #[.val (.int p0), .val (.long p1), .second, .val (.long p2), .second, .val (.int p3), .val (.ref b150), .val (.ref kW), .val (.int kl), .val (.int sn.toInt32), .val (.int tl), .val (.int md), .val (.int k0), .val (.int k1), .val (.int k2), .val (.ref b178), .val (.ref b194), .val (.ref b198), .val (.ref b199), .val (.ref b201), .val (.ref b204), .val (.ref b222), .val (.ref b226), .val (.int got), .unset]) W231.here hx (hb hby at_427) rfl rfl ?_
        refine g_aload (pc' := 431) W231.here hx (hb hby at_429) rfl rfl rfl ?_
        refine w_getS (pc' := 434) W231 hx (hw _ (List.mem_of_getElem? w_2)) Via.refl S_kW (hb hby at_431) rfl fun T232 W232 => ?_
        refine w_acmp (pc' := 437) W232 hx rfl rfl true (hb hby at_434) (decide_eq_true rfl) (by decide) (by decide) ?_
        refine g_iload (pc' := 439) W232.here hx (hb hby at_437) rfl rfl ?_
        refine g_iload (pc' := 441) W232.here hx (hb hby at_439) rfl rfl ?_
        by_cases hc441_233 : tl = kl
        · refine g_icmpN (pc' := 444) W232.here hx (hb hby at_441) rfl (teq hc441_233).2 ?_
          refine g_iload (pc' := 446) W232.here hx (hb hby at_444) rfl rfl ?_
          refine g_iconst (1 : Int32) (pc' := 447) W232.here hx (hb hby at_446) rfl rfl ?_
          refine g_icmpN (pc' := 450) W232.here hx (hb hby at_447) rfl (flt (show ¬ (kl < (1 : Int32)) from (by rw [hkn]; decide))).1 ?_
          refine g_aload (pc' := 452) W232.here hx (hb hby at_450) rfl rfl rfl ?_
          refine g_iload (pc' := 454) W232.here hx (hb hby at_452) rfl rfl ?_
          have c234 := (((((((((((((((c195.keep K196 (ninS ne_b178_b194 nin0)).keep K198 nin0).keep K199 nin0).keep K200 (ninS ne_b178_b199 nin0)).keep K201 nin0).keep K202 (ninS ne_b178_b201 nin0)).keep K203 (ninS ne_b178_b201 nin0)).keep K204 nin0).keep K205 (ninS ne_b178_b204 nin0)).keep K206 (ninS ne_b178_b204 nin0)).keep K207 (ninS ne_b178_b204 nin0)).keep K222 nin0).keep K224 (ninS ne_b178_b222 nin0)).keep K226 nin0).keep K227 (ninS ne_b178_b226 nin0))
          refine w_caload (pc' := 455) (v := (.int q0)) W232 hx c234 (own_nneg (by omega)) (by rw [i32_nat (by omega), List.getElem?_map, g0]; rfl) (hb hby at_454) rfl ?_
          refine g_iload (pc' := 457) W232.here hx (hb hby at_455) rfl rfl ?_
          refine w_callSp (pc' := 460) (st := []) (y := (⟨"com/example/updatable_views/updatableviews/SqlTokenIsKeywordPinLaw", "same", "(CC)Z"⟩ : MethodName)) W232 hx [(.int q0), (.int k0)] (hw _ (List.mem_of_getElem? w_139)) (hw _ (List.mem_of_getElem? w_140)) (hw _ (List.mem_of_getElem? w_23)) (hw _ (List.mem_of_getElem? w_141)) (by decide) (c_same l Z a0 hw hE q0 k0 h227 W232.old r_q0 r_k0 nl_k0) (by rw [hml]; rfl) (lenOf pd_21 rfl) rfl (hb hby at_457) (Nat.le_of_ble_eq_true rfl) (Nat.le_of_ble_eq_true rfl) rfl rfl (Nat.le_of_ble_eq_true rfl) (Nat.le_of_ble_eq_true rfl) rfl fun T235 W235 => ?_
          by_cases hq0 : upI q0 = k0
          · refine g_name (w := .int (1 : Int32)) (congrArg Value.int (by rw [smI, if_pos hq0])) ?_
            refine g_ifN (pc' := 463) W235.here hx (hb hby at_460) rfl (feq (show ¬ ((1 : Int32) = (0 : Int32)) from (by decide))).1 ?_
            refine g_iload (pc' := 465) W235.here hx (hb hby at_463) rfl rfl ?_
            refine g_iconst (2 : Int32) (pc' := 466) W235.here hx (hb hby at_465) rfl rfl ?_
            refine g_icmpY (pc' := 484) W235.here hx (hb hby at_466) rfl (tlt (show kl < (2 : Int32) from (by rw [hkn]; decide))).1 ?_
            refine g_iload (pc' := 486) W235.here hx (hb hby at_484) rfl rfl ?_
            refine g_iconst (3 : Int32) (pc' := 487) W235.here hx (hb hby at_486) rfl rfl ?_
            refine g_icmpY (pc' := 505) W235.here hx (hb hby at_487) rfl (tlt (show kl < (3 : Int32) from (by rw [hkn]; decide))).1 ?_
            refine g_iconst (1 : Int32) (pc' := 506) W235.here hx (hb hby at_505) rfl rfl ?_
            refine g_goto (pc' := 510) W235.here hx (hb hby at_506) rfl ?_
            refine g_istore (pc' := 512) (Ls' := #[.val (.int p0), .val (.long p1), .second, .val (.long p2), .second, .val (.int p3), .val (.ref b150), .val (.ref kW), .val (.int kl), .val (.int sn.toInt32), .val (.int tl), .val (.int md), .val (.int k0), .val (.int k1), .val (.int k2), .val (.ref b178), .val (.ref b194), .val (.ref b198), .val (.ref b199), .val (.ref b201), .val (.ref b204), .val (.ref b222), .val (.ref b226), .val (.int got), .val (.int (1 : Int32))]) W235.here hx (hb hby at_510) rfl rfl ?_
            refine g_iload (pc' := 514) W235.here hx (hb hby at_512) rfl rfl ?_
            refine g_iload (pc' := 516) W235.here hx (hb hby at_514) rfl rfl ?_
            refine g_icmpN (pc' := 519) W235.here hx (hb hby at_516) rfl (teq (show got = (1 : Int32) from (by rw [hgot, hts3, own_kw1 (ts := [e0, e1, e2, e3, e4]) (ks := [k0]) rfl hs2 (Nat.le_of_ble_eq_true rfl)]; rw [if_pos ⟨hc441_233.trans (by rw [hkn]; rfl), by simp [hq0]⟩]))).2 ?_
            refine g_iconst (1 : Int32) (pc' := 520) W235.here hx (hb hby at_519) rfl rfl ?_
            refine g_goto (pc' := 524) W235.here hx (hb hby at_520) rfl ?_
            refine w_retN (t := .boolean) W235 hx hh hlk hret (by simp) (hb hby at_524) (Nat.le_of_ble_eq_true rfl) (Nat.le_of_ble_eq_true rfl) ?_
            exact rfl
          · refine g_name (w := .int (0 : Int32)) (congrArg Value.int (by rw [smI, if_neg hq0])) ?_
            refine g_ifY (pc' := 509) W235.here hx (hb hby at_460) rfl (teq (show (0 : Int32) = (0 : Int32) from (by decide))).1 ?_
            refine g_iconst (0 : Int32) (pc' := 510) W235.here hx (hb hby at_509) rfl rfl ?_
            refine g_istore (pc' := 512) (Ls' := #[.val (.int p0), .val (.long p1), .second, .val (.long p2), .second, .val (.int p3), .val (.ref b150), .val (.ref kW), .val (.int kl), .val (.int sn.toInt32), .val (.int tl), .val (.int md), .val (.int k0), .val (.int k1), .val (.int k2), .val (.ref b178), .val (.ref b194), .val (.ref b198), .val (.ref b199), .val (.ref b201), .val (.ref b204), .val (.ref b222), .val (.ref b226), .val (.int got), .val (.int (0 : Int32))]) W235.here hx (hb hby at_510) rfl rfl ?_
            refine g_iload (pc' := 514) W235.here hx (hb hby at_512) rfl rfl ?_
            refine g_iload (pc' := 516) W235.here hx (hb hby at_514) rfl rfl ?_
            refine g_icmpN (pc' := 519) W235.here hx (hb hby at_516) rfl (teq (show got = (0 : Int32) from (by rw [hgot, hts3, own_kw1 (ts := [e0, e1, e2, e3, e4]) (ks := [k0]) rfl hs2 (Nat.le_of_ble_eq_true rfl)]; rw [if_neg (fun z => by have z2 := z.2; simp [hq0] at z2)]))).2 ?_
            refine g_iconst (1 : Int32) (pc' := 520) W235.here hx (hb hby at_519) rfl rfl ?_
            refine g_goto (pc' := 524) W235.here hx (hb hby at_520) rfl ?_
            refine w_retN (t := .boolean) W235 hx hh hlk hret (by simp) (hb hby at_524) (Nat.le_of_ble_eq_true rfl) (Nat.le_of_ble_eq_true rfl) ?_
            exact rfl
        · refine g_icmpY (pc' := 509) W232.here hx (hb hby at_441) rfl (feq hc441_233).2 ?_
          refine g_iconst (0 : Int32) (pc' := 510) W232.here hx (hb hby at_509) rfl rfl ?_
          refine g_istore (pc' := 512) (Ls' := #[.val (.int p0), .val (.long p1), .second, .val (.long p2), .second, .val (.int p3), .val (.ref b150), .val (.ref kW), .val (.int kl), .val (.int sn.toInt32), .val (.int tl), .val (.int md), .val (.int k0), .val (.int k1), .val (.int k2), .val (.ref b178), .val (.ref b194), .val (.ref b198), .val (.ref b199), .val (.ref b201), .val (.ref b204), .val (.ref b222), .val (.ref b226), .val (.int got), .val (.int (0 : Int32))]) W232.here hx (hb hby at_510) rfl rfl ?_
          refine g_iload (pc' := 514) W232.here hx (hb hby at_512) rfl rfl ?_
          refine g_iload (pc' := 516) W232.here hx (hb hby at_514) rfl rfl ?_
          refine g_icmpN (pc' := 519) W232.here hx (hb hby at_516) rfl (teq (show got = (0 : Int32) from (by rw [hgot, hts3, own_kw1 (ts := [e0, e1, e2, e3, e4]) (ks := [k0]) rfl hs2 (Nat.le_of_ble_eq_true rfl)]; rw [if_neg (fun z => hc441_233 (z.1.trans (by rw [hkn]; rfl)))]))).2 ?_
          refine g_iconst (1 : Int32) (pc' := 520) W232.here hx (hb hby at_519) rfl rfl ?_
          refine g_goto (pc' := 524) W232.here hx (hb hby at_520) rfl ?_
          refine w_retN (t := .boolean) W232 hx hh hlk hret (by simp) (hb hby at_524) (Nat.le_of_ble_eq_true rfl) (Nat.le_of_ble_eq_true rfl) ?_
          exact rfl
      · refine g_icmpY (pc' := 371) W207.here hx (hb hby at_356) rfl (feq hc356_221).2 ?_
        refine g_iload (pc' := 373) W207.here hx (hb hby at_371) rfl rfl ?_
        refine g_iconst (2 : Int32) (pc' := 374) W207.here hx (hb hby at_373) rfl rfl ?_
        by_cases hc374_236 : kl = (2 : Int32)
        · refine g_icmpN (pc' := 377) W207.here hx (hb hby at_374) rfl (teq hc374_236).2 ?_
          refine w_new (pc' := 380) W207 hx (hw _ (List.mem_of_getElem? w_30)) (hw _ (List.mem_of_getElem? w_31)) (hw _ (List.mem_of_getElem? w_32)) (hb hby at_377) (Nat.le_of_ble_eq_true rfl) (Nat.le_of_ble_eq_true rfl) rfl fun T237 h237 b237 g237 W237 K237 A237 D237 => ?_
          have z_K237 : h207.size ≤ h237.size := K237.1
          have ne_b150_b237 : b150 ≠ b237 := by omega
          have ne_b178_b237 : b178 ≠ b237 := by omega
          have ne_b194_b237 : b194 ≠ b237 := by omega
          have ne_sb197_b237 : sb197 ≠ b237 := by omega
          have ne_b198_b237 : b198 ≠ b237 := by omega
          have ne_b199_b237 : b199 ≠ b237 := by omega
          have ne_b201_b237 : b201 ≠ b237 := by omega
          have ne_b204_b237 : b204 ≠ b237 := by omega
          have lt_b237 : b237 < h237.size := W237.lt (List.mem_cons_self ..)
          have F237_coder : Fld Z h237 b237 "java/lang/String" "coder" "B" (.int (0 : Int32)) := D237 (Or.inr (hw _ (List.mem_of_getElem? w_75))) (ty := .byte) (by decide)
          have F237_value : Fld Z h237 b237 "java/lang/String" "value" "[B" .null := D237 (Or.inr (hw _ (List.mem_of_getElem? w_77))) (ty := (.array .byte)) (by decide)
          refine g_dup (pc' := 381) W237.here hx (hb hby at_380) rfl rfl ?_
          refine g_aload (pc' := 383) W237.here hx (hb hby at_381) rfl rfl rfl ?_
          have c238 := (((((V203.keep K204 nin0).keep K205 (ninS ne_b201_b204 nin0)).keep K206 (ninS ne_b201_b204 nin0)).keep K207 (ninS ne_b201_b204 nin0)).keep K237 nin0)
          refine w_special (pc' := 386) (st := [(.ref b237)]) (y := (⟨"java/lang/String", "<init>", "([C)V"⟩ : MethodName)) (a := b237) W237 hx [(.ref b201)] rfl (hw _ (List.mem_of_getElem? w_33)) (hw _ (List.mem_of_getElem? w_34)) (hw _ (List.mem_of_getElem? w_32)) (hw _ (List.mem_of_getElem? w_35)) (by decide) (c_strC l Z a0 hw hE cc fm b237 b201 [k0, k1] h237 W237.old G GU (Nat.le_of_ble_eq_true rfl) (own_allS r_k0 (own_allS r_k1 own_all0)) c238 (by have := O.1; omega) A237 _ _ F237_coder F237_value (Ne.symm ne_b201_b237)) (allS (List.mem_of_getElem? (i := 0) rfl) all0) (by rw [hml]; rfl) (lenOf pd_18 rfl) rfl (hb hby at_383) (Nat.le_of_ble_eq_true rfl) (Nat.le_of_ble_eq_true rfl) (Nat.le_of_ble_eq_true rfl) (Nat.le_of_ble_eq_true rfl) rfl fun v239 T239 h239 W239 K239 Q239 => ?_
          have z_K239 : h237.size ≤ h239.size := K239.1
          obtain ⟨rfl, sb240, S240⟩ := Q239
          have ES240 := S240.exa
          have lt_sb240 : sb240 < h239.size := S240.ltb
          refine g_goto (pc' := 398) W239.here hx (hb hby at_386) rfl ?_
          have hkn : kl = (2 : Int32) := hc374_236
          refine g_astore (pc' := 400) (Ls' := #[.val (.int p0), .val (.long p1), .second, .val (.long p2), .second, .val (.int p3), .val (.ref b150), .val (.ref kW), .val (.int kl), .val (.int sn.toInt32), .val (.int tl), .val (.int md), .val (.int k0), .val (.int k1), .val (.int k2), .val (.ref b178), .val (.ref b194), .val (.ref b198), .val (.ref b199), .val (.ref b201), .val (.ref b204), .val (.ref b237), .unset, .unset, .unset]) W239.here hx (hb hby at_398) rfl rfl rfl ?_
          refine w_new (pc' := 403) W239 hx (hw _ (List.mem_of_getElem? w_81)) (hw _ (List.mem_of_getElem? w_82)) (hw _ (List.mem_of_getElem? w_83)) (hb hby at_400) (Nat.le_of_ble_eq_true rfl) (Nat.le_of_ble_eq_true rfl) rfl fun T241 h241 b241 g241 W241 K241 A241 D241 => ?_
          have z_K241 : h239.size ≤ h241.size := K241.1
          have ne_b150_b241 : b150 ≠ b241 := by omega
          have ne_b178_b241 : b178 ≠ b241 := by omega
          have ne_b194_b241 : b194 ≠ b241 := by omega
          have ne_sb197_b241 : sb197 ≠ b241 := by omega
          have ne_b198_b241 : b198 ≠ b241 := by omega
          have ne_b199_b241 : b199 ≠ b241 := by omega
          have ne_b201_b241 : b201 ≠ b241 := by omega
          have ne_b204_b241 : b204 ≠ b241 := by omega
          have ne_b237_b241 : b237 ≠ b241 := by omega
          have ne_sb240_b241 : sb240 ≠ b241 := by omega
          have lt_b241 : b241 < h241.size := W241.lt (List.mem_cons_self ..)
          have F241_kind : Fld Z h241 b241 "com/example/updatable_views/updatableviews/SqlToken" "kind" "Lcom/example/updatable_views/updatableviews/SqlToken$Kind;" .null := D241 (Or.inr (hw _ (List.mem_of_getElem? w_89))) (ty := (.object "com/example/updatable_views/updatableviews/SqlToken$Kind")) (by decide)
          have F241_start : Fld Z h241 b241 "com/example/updatable_views/updatableviews/SqlToken" "start" "I" (.int (0 : Int32)) := D241 (Or.inr (hw _ (List.mem_of_getElem? w_91))) (ty := .int) (by decide)
          have F241_end : Fld Z h241 b241 "com/example/updatable_views/updatableviews/SqlToken" "end" "I" (.int (0 : Int32)) := D241 (Or.inr (hw _ (List.mem_of_getElem? w_93))) (ty := .int) (by decide)
          refine g_dup (pc' := 404) W241.here hx (hb hby at_403) rfl rfl ?_
          refine g_aload (pc' := 406) W241.here hx (hb hby at_404) rfl rfl rfl ?_
          refine g_iload (pc' := 408) W241.here hx (hb hby at_406) rfl rfl ?_
          refine g_iload (pc' := 410) W241.here hx (hb hby at_408) rfl rfl ?_
          refine g_iload (pc' := 412) W241.here hx (hb hby at_410) rfl rfl ?_
          refine g_iadd (pc' := 413) W241.here hx (hb hby at_412) rfl ?_
          refine w_special (pc' := 416) (st := [(.ref b241)]) (y := (⟨"com/example/updatable_views/updatableviews/SqlToken", "<init>", "(Lcom/example/updatable_views/updatableviews/SqlToken$Kind;II)V"⟩ : MethodName)) (a := b241) W241 hx [(.ref kW), (.int sn.toInt32), (.int (sn.toInt32 + tl))] rfl (hw _ (List.mem_of_getElem? w_84)) (hw _ (List.mem_of_getElem? w_85)) (hw _ (List.mem_of_getElem? w_83)) (hw _ (List.mem_of_getElem? w_86)) (by decide) (c_tok l Z a0 hw hE b241 (.ref kW) sn.toInt32 (sn.toInt32 + tl) h241 W241.old (by have := O.1; omega) A241 rfl _ F241_kind _ F241_start _ F241_end) (allS (List.mem_of_getElem? (i := 0) rfl) all0) (by rw [hml]; rfl) (lenOf pd_19 rfl) rfl (hb hby at_413) (Nat.le_of_ble_eq_true rfl) (Nat.le_of_ble_eq_true rfl) (Nat.le_of_ble_eq_true rfl) (Nat.le_of_ble_eq_true rfl) rfl fun v242 T242 h242 W242 K242 Q242 => ?_
          have z_K242 : h241.size ≤ h242.size := K242.1
          obtain ⟨rfl, E243, F243_0, F243_1, F243_2⟩ := Q242
          refine g_astore (pc' := 418) (Ls' := #[.val (.int p0), .val (.long p1), .second, .val (.long p2), .second, .val (.int p3), .val (.ref b150), .val (.ref kW), .val (.int kl), .val (.int sn.toInt32), .val (.int tl), .val (.int md), .val (.int k0), .val (.int k1), .val (.int k2), .val (.ref b178), .val (.ref b194), .val (.ref b198), .val (.ref b199), .val (.ref b201), .val (.ref b204), .val (.ref b237), .val (.ref b241), .unset, .unset]) W242.here hx (hb hby at_416) rfl rfl rfl ?_
          refine g_aload (pc' := 420) W242.here hx (hb hby at_418) rfl rfl rfl ?_
          refine g_aload (pc' := 422) W242.here hx (hb hby at_420) rfl rfl rfl ?_
          refine g_aload (pc' := 424) W242.here hx (hb hby at_422) rfl rfl rfl ?_
          have c244 := ((((((((((((((S197.keep K198 nin0 nin0).keep K199 nin0 nin0).keep K200 (ninS ne_b194_b199 nin0) (ninS ne_sb197_b199 nin0)).keep K201 nin0 nin0).keep K202 (ninS ne_b194_b201 nin0) (ninS ne_sb197_b201 nin0)).keep K203 (ninS ne_b194_b201 nin0) (ninS ne_sb197_b201 nin0)).keep K204 nin0 nin0).keep K205 (ninS ne_b194_b204 nin0) (ninS ne_sb197_b204 nin0)).keep K206 (ninS ne_b194_b204 nin0) (ninS ne_sb197_b204 nin0)).keep K207 (ninS ne_b194_b204 nin0) (ninS ne_sb197_b204 nin0)).keep K237 nin0 nin0).keep K239 (ninS ne_b194_b237 nin0) (ninS ne_sb197_b237 nin0)).keep K241 nin0 nin0).keep K242 (ninS ne_b194_b241 nin0) (ninS ne_sb197_b241 nin0))
          have c245 := ((S240.keep K241 nin0 nin0).keep K242 (ninS ne_b237_b241 nin0) (ninS ne_sb240_b241 nin0))
          refine w_virtualp (pc' := 427) (st := []) (y := (⟨"com/example/updatable_views/updatableviews/SqlToken", "isKeyword", "(Ljava/lang/CharSequence;Ljava/lang/String;)Z"⟩ : MethodName)) (z := (⟨"com/example/updatable_views/updatableviews/SqlToken", "isKeyword", "(Ljava/lang/CharSequence;Ljava/lang/String;)Z"⟩ : MethodName)) (a := b241) W242 hx [(.ref b194), (.ref b237)] (hw _ (List.mem_of_getElem? w_94)) (hw _ (List.mem_of_getElem? w_95)) (nfS (z := (⟨"com/example/updatable_views/updatableviews/SqlToken", "isKeyword", "(Ljava/lang/CharSequence;Ljava/lang/String;)Z"⟩ : MethodName)) (hw _ (List.mem_of_getElem? w_97))) (hw _ (List.mem_of_getElem? w_97)) (hw _ (List.mem_of_getElem? w_96)) (hw _ (List.mem_of_getElem? w_83)) (hw _ (List.mem_of_getElem? w_98)) (by decide) (c_isKwY l Z a0 hw hE cc fm kW b241 b194 sb197 b237 sb240 sn (sn.toInt32 + tl) ts3 [k0, k1] h242 W242.old G GU S_kW F243_0 F243_1 F243_2 c244 c245 (by rw [hts3]; simp) (Nat.le_of_ble_eq_true rfl) (by rw [hts3]; simp; omega)) E243 (by rw [hml]; rfl) (lenOf pd_20 rfl) rfl (hb hby at_424) (Nat.le_of_ble_eq_true rfl) (Nat.le_of_ble_eq_true rfl) rfl rfl (Nat.le_of_ble_eq_true rfl) (Nat.le_of_ble_eq_true rfl) rfl fun T246 W246 => ?_
          obtain ⟨got, hgot⟩ : ∃ zz_ : Int32, zz_ = (kwI ts3 sn (sn.toInt32 + tl) [k0, k1]) := ⟨_, rfl⟩
          refine g_name (congrArg Value.int hgot) ?_
          refine g_istore (pc' := 429) (Ls' := #[.val (.int p0), .val (.long p1), .second, .val (.long p2), .second, .val (.int p3), .val (.ref b150), .val (.ref kW), .val (.int kl), .val (.int sn.toInt32), .val (.int tl), .val (.int md), .val (.int k0), .val (.int k1), .val (.int k2), .val (.ref b178), .val (.ref b194), .val (.ref b198), .val (.ref b199), .val (.ref b201), .val (.ref b204), .val (.ref b237), .val (.ref b241), .val (.int got), .unset]) W246.here hx (hb hby at_427) rfl rfl ?_
          refine g_aload (pc' := 431) W246.here hx (hb hby at_429) rfl rfl rfl ?_
          refine w_getS (pc' := 434) W246 hx (hw _ (List.mem_of_getElem? w_2)) Via.refl S_kW (hb hby at_431) rfl fun T247 W247 => ?_
          refine w_acmp (pc' := 437) W247 hx rfl rfl true (hb hby at_434) (decide_eq_true rfl) (by decide) (by decide) ?_
          refine g_iload (pc' := 439) W247.here hx (hb hby at_437) rfl rfl ?_
          refine g_iload (pc' := 441) W247.here hx (hb hby at_439) rfl rfl ?_
          by_cases hc441_248 : tl = kl
          · refine g_icmpN (pc' := 444) W247.here hx (hb hby at_441) rfl (teq hc441_248).2 ?_
            refine g_iload (pc' := 446) W247.here hx (hb hby at_444) rfl rfl ?_
            refine g_iconst (1 : Int32) (pc' := 447) W247.here hx (hb hby at_446) rfl rfl ?_
            refine g_icmpN (pc' := 450) W247.here hx (hb hby at_447) rfl (flt (show ¬ (kl < (1 : Int32)) from (by rw [hkn]; decide))).1 ?_
            refine g_aload (pc' := 452) W247.here hx (hb hby at_450) rfl rfl rfl ?_
            refine g_iload (pc' := 454) W247.here hx (hb hby at_452) rfl rfl ?_
            have c249 := (((((((((((((((c195.keep K196 (ninS ne_b178_b194 nin0)).keep K198 nin0).keep K199 nin0).keep K200 (ninS ne_b178_b199 nin0)).keep K201 nin0).keep K202 (ninS ne_b178_b201 nin0)).keep K203 (ninS ne_b178_b201 nin0)).keep K204 nin0).keep K205 (ninS ne_b178_b204 nin0)).keep K206 (ninS ne_b178_b204 nin0)).keep K207 (ninS ne_b178_b204 nin0)).keep K237 nin0).keep K239 (ninS ne_b178_b237 nin0)).keep K241 nin0).keep K242 (ninS ne_b178_b241 nin0))
            refine w_caload (pc' := 455) (v := (.int q0)) W247 hx c249 (own_nneg (by omega)) (by rw [i32_nat (by omega), List.getElem?_map, g0]; rfl) (hb hby at_454) rfl ?_
            refine g_iload (pc' := 457) W247.here hx (hb hby at_455) rfl rfl ?_
            refine w_callSp (pc' := 460) (st := []) (y := (⟨"com/example/updatable_views/updatableviews/SqlTokenIsKeywordPinLaw", "same", "(CC)Z"⟩ : MethodName)) W247 hx [(.int q0), (.int k0)] (hw _ (List.mem_of_getElem? w_139)) (hw _ (List.mem_of_getElem? w_140)) (hw _ (List.mem_of_getElem? w_23)) (hw _ (List.mem_of_getElem? w_141)) (by decide) (c_same l Z a0 hw hE q0 k0 h242 W247.old r_q0 r_k0 nl_k0) (by rw [hml]; rfl) (lenOf pd_21 rfl) rfl (hb hby at_457) (Nat.le_of_ble_eq_true rfl) (Nat.le_of_ble_eq_true rfl) rfl rfl (Nat.le_of_ble_eq_true rfl) (Nat.le_of_ble_eq_true rfl) rfl fun T250 W250 => ?_
            by_cases hq0 : upI q0 = k0
            · refine g_name (w := .int (1 : Int32)) (congrArg Value.int (by rw [smI, if_pos hq0])) ?_
              refine g_ifN (pc' := 463) W250.here hx (hb hby at_460) rfl (feq (show ¬ ((1 : Int32) = (0 : Int32)) from (by decide))).1 ?_
              refine g_iload (pc' := 465) W250.here hx (hb hby at_463) rfl rfl ?_
              refine g_iconst (2 : Int32) (pc' := 466) W250.here hx (hb hby at_465) rfl rfl ?_
              refine g_icmpN (pc' := 469) W250.here hx (hb hby at_466) rfl (flt (show ¬ (kl < (2 : Int32)) from (by rw [hkn]; decide))).1 ?_
              refine g_aload (pc' := 471) W250.here hx (hb hby at_469) rfl rfl rfl ?_
              refine g_iload (pc' := 473) W250.here hx (hb hby at_471) rfl rfl ?_
              refine g_iconst (1 : Int32) (pc' := 474) W250.here hx (hb hby at_473) rfl rfl ?_
              refine g_iadd (pc' := 475) W250.here hx (hb hby at_474) rfl ?_
              refine g_name (w := .int (sn + 1).toInt32) (congrArg Value.int (own_addn (by omega) rfl).symm) ?_
              refine w_caload (pc' := 476) (v := (.int q1)) W250 hx c249 (own_nneg (by omega)) (by rw [i32_nat (by omega), List.getElem?_map, g1]; rfl) (hb hby at_475) rfl ?_
              refine g_iload (pc' := 478) W250.here hx (hb hby at_476) rfl rfl ?_
              refine w_callSp (pc' := 481) (st := []) (y := (⟨"com/example/updatable_views/updatableviews/SqlTokenIsKeywordPinLaw", "same", "(CC)Z"⟩ : MethodName)) W250 hx [(.int q1), (.int k1)] (hw _ (List.mem_of_getElem? w_139)) (hw _ (List.mem_of_getElem? w_140)) (hw _ (List.mem_of_getElem? w_23)) (hw _ (List.mem_of_getElem? w_141)) (by decide) (c_same l Z a0 hw hE q1 k1 h242 W250.old r_q1 r_k1 nl_k1) (by rw [hml]; rfl) (lenOf pd_21 rfl) rfl (hb hby at_478) (Nat.le_of_ble_eq_true rfl) (Nat.le_of_ble_eq_true rfl) rfl rfl (Nat.le_of_ble_eq_true rfl) (Nat.le_of_ble_eq_true rfl) rfl fun T251 W251 => ?_
              by_cases hq1 : upI q1 = k1
              · refine g_name (w := .int (1 : Int32)) (congrArg Value.int (by rw [smI, if_pos hq1])) ?_
                refine g_ifN (pc' := 484) W251.here hx (hb hby at_481) rfl (feq (show ¬ ((1 : Int32) = (0 : Int32)) from (by decide))).1 ?_
                refine g_iload (pc' := 486) W251.here hx (hb hby at_484) rfl rfl ?_
                refine g_iconst (3 : Int32) (pc' := 487) W251.here hx (hb hby at_486) rfl rfl ?_
                refine g_icmpY (pc' := 505) W251.here hx (hb hby at_487) rfl (tlt (show kl < (3 : Int32) from (by rw [hkn]; decide))).1 ?_
                refine g_iconst (1 : Int32) (pc' := 506) W251.here hx (hb hby at_505) rfl rfl ?_
                refine g_goto (pc' := 510) W251.here hx (hb hby at_506) rfl ?_
                refine g_istore (pc' := 512) (Ls' := #[.val (.int p0), .val (.long p1), .second, .val (.long p2), .second, .val (.int p3), .val (.ref b150), .val (.ref kW), .val (.int kl), .val (.int sn.toInt32), .val (.int tl), .val (.int md), .val (.int k0), .val (.int k1), .val (.int k2), .val (.ref b178), .val (.ref b194), .val (.ref b198), .val (.ref b199), .val (.ref b201), .val (.ref b204), .val (.ref b237), .val (.ref b241), .val (.int got), .val (.int (1 : Int32))]) W251.here hx (hb hby at_510) rfl rfl ?_
                refine g_iload (pc' := 514) W251.here hx (hb hby at_512) rfl rfl ?_
                refine g_iload (pc' := 516) W251.here hx (hb hby at_514) rfl rfl ?_
                refine g_icmpN (pc' := 519) W251.here hx (hb hby at_516) rfl (teq (show got = (1 : Int32) from (by rw [hgot, hts3, own_kw1 (ts := [e0, e1, e2, e3, e4]) (ks := [k0, k1]) rfl hs2 (Nat.le_of_ble_eq_true rfl)]; rw [if_pos ⟨hc441_248.trans (by rw [hkn]; rfl), by simp [hq0, hq1]⟩]))).2 ?_
                refine g_iconst (1 : Int32) (pc' := 520) W251.here hx (hb hby at_519) rfl rfl ?_
                refine g_goto (pc' := 524) W251.here hx (hb hby at_520) rfl ?_
                refine w_retN (t := .boolean) W251 hx hh hlk hret (by simp) (hb hby at_524) (Nat.le_of_ble_eq_true rfl) (Nat.le_of_ble_eq_true rfl) ?_
                exact rfl
              · refine g_name (w := .int (0 : Int32)) (congrArg Value.int (by rw [smI, if_neg hq1])) ?_
                refine g_ifY (pc' := 509) W251.here hx (hb hby at_481) rfl (teq (show (0 : Int32) = (0 : Int32) from (by decide))).1 ?_
                refine g_iconst (0 : Int32) (pc' := 510) W251.here hx (hb hby at_509) rfl rfl ?_
                refine g_istore (pc' := 512) (Ls' := #[.val (.int p0), .val (.long p1), .second, .val (.long p2), .second, .val (.int p3), .val (.ref b150), .val (.ref kW), .val (.int kl), .val (.int sn.toInt32), .val (.int tl), .val (.int md), .val (.int k0), .val (.int k1), .val (.int k2), .val (.ref b178), .val (.ref b194), .val (.ref b198), .val (.ref b199), .val (.ref b201), .val (.ref b204), .val (.ref b237), .val (.ref b241), .val (.int got), .val (.int (0 : Int32))]) W251.here hx (hb hby at_510) rfl rfl ?_
                refine g_iload (pc' := 514) W251.here hx (hb hby at_512) rfl rfl ?_
                refine g_iload (pc' := 516) W251.here hx (hb hby at_514) rfl rfl ?_
                refine g_icmpN (pc' := 519) W251.here hx (hb hby at_516) rfl (teq (show got = (0 : Int32) from (by rw [hgot, hts3, own_kw1 (ts := [e0, e1, e2, e3, e4]) (ks := [k0, k1]) rfl hs2 (Nat.le_of_ble_eq_true rfl)]; rw [if_neg (fun z => by have z2 := z.2; simp [hq0, hq1] at z2)]))).2 ?_
                refine g_iconst (1 : Int32) (pc' := 520) W251.here hx (hb hby at_519) rfl rfl ?_
                refine g_goto (pc' := 524) W251.here hx (hb hby at_520) rfl ?_
                refine w_retN (t := .boolean) W251 hx hh hlk hret (by simp) (hb hby at_524) (Nat.le_of_ble_eq_true rfl) (Nat.le_of_ble_eq_true rfl) ?_
                exact rfl
            · refine g_name (w := .int (0 : Int32)) (congrArg Value.int (by rw [smI, if_neg hq0])) ?_
              refine g_ifY (pc' := 509) W250.here hx (hb hby at_460) rfl (teq (show (0 : Int32) = (0 : Int32) from (by decide))).1 ?_
              refine g_iconst (0 : Int32) (pc' := 510) W250.here hx (hb hby at_509) rfl rfl ?_
              refine g_istore (pc' := 512) (Ls' := #[.val (.int p0), .val (.long p1), .second, .val (.long p2), .second, .val (.int p3), .val (.ref b150), .val (.ref kW), .val (.int kl), .val (.int sn.toInt32), .val (.int tl), .val (.int md), .val (.int k0), .val (.int k1), .val (.int k2), .val (.ref b178), .val (.ref b194), .val (.ref b198), .val (.ref b199), .val (.ref b201), .val (.ref b204), .val (.ref b237), .val (.ref b241), .val (.int got), .val (.int (0 : Int32))]) W250.here hx (hb hby at_510) rfl rfl ?_
              refine g_iload (pc' := 514) W250.here hx (hb hby at_512) rfl rfl ?_
              refine g_iload (pc' := 516) W250.here hx (hb hby at_514) rfl rfl ?_
              refine g_icmpN (pc' := 519) W250.here hx (hb hby at_516) rfl (teq (show got = (0 : Int32) from (by rw [hgot, hts3, own_kw1 (ts := [e0, e1, e2, e3, e4]) (ks := [k0, k1]) rfl hs2 (Nat.le_of_ble_eq_true rfl)]; rw [if_neg (fun z => by have z2 := z.2; simp [hq0] at z2)]))).2 ?_
              refine g_iconst (1 : Int32) (pc' := 520) W250.here hx (hb hby at_519) rfl rfl ?_
              refine g_goto (pc' := 524) W250.here hx (hb hby at_520) rfl ?_
              refine w_retN (t := .boolean) W250 hx hh hlk hret (by simp) (hb hby at_524) (Nat.le_of_ble_eq_true rfl) (Nat.le_of_ble_eq_true rfl) ?_
              exact rfl
          · refine g_icmpY (pc' := 509) W247.here hx (hb hby at_441) rfl (feq hc441_248).2 ?_
            refine g_iconst (0 : Int32) (pc' := 510) W247.here hx (hb hby at_509) rfl rfl ?_
            refine g_istore (pc' := 512) (Ls' := #[.val (.int p0), .val (.long p1), .second, .val (.long p2), .second, .val (.int p3), .val (.ref b150), .val (.ref kW), .val (.int kl), .val (.int sn.toInt32), .val (.int tl), .val (.int md), .val (.int k0), .val (.int k1), .val (.int k2), .val (.ref b178), .val (.ref b194), .val (.ref b198), .val (.ref b199), .val (.ref b201), .val (.ref b204), .val (.ref b237), .val (.ref b241), .val (.int got), .val (.int (0 : Int32))]) W247.here hx (hb hby at_510) rfl rfl ?_
            refine g_iload (pc' := 514) W247.here hx (hb hby at_512) rfl rfl ?_
            refine g_iload (pc' := 516) W247.here hx (hb hby at_514) rfl rfl ?_
            refine g_icmpN (pc' := 519) W247.here hx (hb hby at_516) rfl (teq (show got = (0 : Int32) from (by rw [hgot, hts3, own_kw1 (ts := [e0, e1, e2, e3, e4]) (ks := [k0, k1]) rfl hs2 (Nat.le_of_ble_eq_true rfl)]; rw [if_neg (fun z => hc441_248 (z.1.trans (by rw [hkn]; rfl)))]))).2 ?_
            refine g_iconst (1 : Int32) (pc' := 520) W247.here hx (hb hby at_519) rfl rfl ?_
            refine g_goto (pc' := 524) W247.here hx (hb hby at_520) rfl ?_
            refine w_retN (t := .boolean) W247 hx hh hlk hret (by simp) (hb hby at_524) (Nat.le_of_ble_eq_true rfl) (Nat.le_of_ble_eq_true rfl) ?_
            exact rfl
        · refine g_icmpY (pc' := 389) W207.here hx (hb hby at_374) rfl (feq hc374_236).2 ?_
          refine w_new (pc' := 392) W207 hx (hw _ (List.mem_of_getElem? w_30)) (hw _ (List.mem_of_getElem? w_31)) (hw _ (List.mem_of_getElem? w_32)) (hb hby at_389) (Nat.le_of_ble_eq_true rfl) (Nat.le_of_ble_eq_true rfl) rfl fun T252 h252 b252 g252 W252 K252 A252 D252 => ?_
          have z_K252 : h207.size ≤ h252.size := K252.1
          have ne_b150_b252 : b150 ≠ b252 := by omega
          have ne_b178_b252 : b178 ≠ b252 := by omega
          have ne_b194_b252 : b194 ≠ b252 := by omega
          have ne_sb197_b252 : sb197 ≠ b252 := by omega
          have ne_b198_b252 : b198 ≠ b252 := by omega
          have ne_b199_b252 : b199 ≠ b252 := by omega
          have ne_b201_b252 : b201 ≠ b252 := by omega
          have ne_b204_b252 : b204 ≠ b252 := by omega
          have lt_b252 : b252 < h252.size := W252.lt (List.mem_cons_self ..)
          have F252_coder : Fld Z h252 b252 "java/lang/String" "coder" "B" (.int (0 : Int32)) := D252 (Or.inr (hw _ (List.mem_of_getElem? w_75))) (ty := .byte) (by decide)
          have F252_value : Fld Z h252 b252 "java/lang/String" "value" "[B" .null := D252 (Or.inr (hw _ (List.mem_of_getElem? w_77))) (ty := (.array .byte)) (by decide)
          refine g_dup (pc' := 393) W252.here hx (hb hby at_392) rfl rfl ?_
          refine g_aload (pc' := 395) W252.here hx (hb hby at_393) rfl rfl rfl ?_
          have c253 := (V207.keep K252 nin0)
          refine w_special (pc' := 398) (st := [(.ref b252)]) (y := (⟨"java/lang/String", "<init>", "([C)V"⟩ : MethodName)) (a := b252) W252 hx [(.ref b204)] rfl (hw _ (List.mem_of_getElem? w_33)) (hw _ (List.mem_of_getElem? w_34)) (hw _ (List.mem_of_getElem? w_32)) (hw _ (List.mem_of_getElem? w_35)) (by decide) (c_strC l Z a0 hw hE cc fm b252 b204 [k0, k1, k2] h252 W252.old G GU (Nat.le_of_ble_eq_true rfl) (own_allS r_k0 (own_allS r_k1 (own_allS r_k2 own_all0))) c253 (by have := O.1; omega) A252 _ _ F252_coder F252_value (Ne.symm ne_b204_b252)) (allS (List.mem_of_getElem? (i := 0) rfl) all0) (by rw [hml]; rfl) (lenOf pd_18 rfl) rfl (hb hby at_395) (Nat.le_of_ble_eq_true rfl) (Nat.le_of_ble_eq_true rfl) (Nat.le_of_ble_eq_true rfl) (Nat.le_of_ble_eq_true rfl) rfl fun v254 T254 h254 W254 K254 Q254 => ?_
          have z_K254 : h252.size ≤ h254.size := K254.1
          obtain ⟨rfl, sb255, S255⟩ := Q254
          have ES255 := S255.exa
          have lt_sb255 : sb255 < h254.size := S255.ltb
          have hkn : kl = (3 : Int32) := by
            have f0 := hc338_208; have f1 := hc356_221; have f2 := hc374_236
            simp only [← Int32.toInt_inj, own_t0, own_t1, own_t2, own_t3] at f0 f1 f2 ⊢; omega
          refine g_astore (pc' := 400) (Ls' := #[.val (.int p0), .val (.long p1), .second, .val (.long p2), .second, .val (.int p3), .val (.ref b150), .val (.ref kW), .val (.int kl), .val (.int sn.toInt32), .val (.int tl), .val (.int md), .val (.int k0), .val (.int k1), .val (.int k2), .val (.ref b178), .val (.ref b194), .val (.ref b198), .val (.ref b199), .val (.ref b201), .val (.ref b204), .val (.ref b252), .unset, .unset, .unset]) W254.here hx (hb hby at_398) rfl rfl rfl ?_
          refine w_new (pc' := 403) W254 hx (hw _ (List.mem_of_getElem? w_81)) (hw _ (List.mem_of_getElem? w_82)) (hw _ (List.mem_of_getElem? w_83)) (hb hby at_400) (Nat.le_of_ble_eq_true rfl) (Nat.le_of_ble_eq_true rfl) rfl fun T256 h256 b256 g256 W256 K256 A256 D256 => ?_
          have z_K256 : h254.size ≤ h256.size := K256.1
          have ne_b150_b256 : b150 ≠ b256 := by omega
          have ne_b178_b256 : b178 ≠ b256 := by omega
          have ne_b194_b256 : b194 ≠ b256 := by omega
          have ne_sb197_b256 : sb197 ≠ b256 := by omega
          have ne_b198_b256 : b198 ≠ b256 := by omega
          have ne_b199_b256 : b199 ≠ b256 := by omega
          have ne_b201_b256 : b201 ≠ b256 := by omega
          have ne_b204_b256 : b204 ≠ b256 := by omega
          have ne_b252_b256 : b252 ≠ b256 := by omega
          have ne_sb255_b256 : sb255 ≠ b256 := by omega
          have lt_b256 : b256 < h256.size := W256.lt (List.mem_cons_self ..)
          have F256_kind : Fld Z h256 b256 "com/example/updatable_views/updatableviews/SqlToken" "kind" "Lcom/example/updatable_views/updatableviews/SqlToken$Kind;" .null := D256 (Or.inr (hw _ (List.mem_of_getElem? w_89))) (ty := (.object "com/example/updatable_views/updatableviews/SqlToken$Kind")) (by decide)
          have F256_start : Fld Z h256 b256 "com/example/updatable_views/updatableviews/SqlToken" "start" "I" (.int (0 : Int32)) := D256 (Or.inr (hw _ (List.mem_of_getElem? w_91))) (ty := .int) (by decide)
          have F256_end : Fld Z h256 b256 "com/example/updatable_views/updatableviews/SqlToken" "end" "I" (.int (0 : Int32)) := D256 (Or.inr (hw _ (List.mem_of_getElem? w_93))) (ty := .int) (by decide)
          refine g_dup (pc' := 404) W256.here hx (hb hby at_403) rfl rfl ?_
          refine g_aload (pc' := 406) W256.here hx (hb hby at_404) rfl rfl rfl ?_
          refine g_iload (pc' := 408) W256.here hx (hb hby at_406) rfl rfl ?_
          refine g_iload (pc' := 410) W256.here hx (hb hby at_408) rfl rfl ?_
          refine g_iload (pc' := 412) W256.here hx (hb hby at_410) rfl rfl ?_
          refine g_iadd (pc' := 413) W256.here hx (hb hby at_412) rfl ?_
          refine w_special (pc' := 416) (st := [(.ref b256)]) (y := (⟨"com/example/updatable_views/updatableviews/SqlToken", "<init>", "(Lcom/example/updatable_views/updatableviews/SqlToken$Kind;II)V"⟩ : MethodName)) (a := b256) W256 hx [(.ref kW), (.int sn.toInt32), (.int (sn.toInt32 + tl))] rfl (hw _ (List.mem_of_getElem? w_84)) (hw _ (List.mem_of_getElem? w_85)) (hw _ (List.mem_of_getElem? w_83)) (hw _ (List.mem_of_getElem? w_86)) (by decide) (c_tok l Z a0 hw hE b256 (.ref kW) sn.toInt32 (sn.toInt32 + tl) h256 W256.old (by have := O.1; omega) A256 rfl _ F256_kind _ F256_start _ F256_end) (allS (List.mem_of_getElem? (i := 0) rfl) all0) (by rw [hml]; rfl) (lenOf pd_19 rfl) rfl (hb hby at_413) (Nat.le_of_ble_eq_true rfl) (Nat.le_of_ble_eq_true rfl) (Nat.le_of_ble_eq_true rfl) (Nat.le_of_ble_eq_true rfl) rfl fun v257 T257 h257 W257 K257 Q257 => ?_
          have z_K257 : h256.size ≤ h257.size := K257.1
          obtain ⟨rfl, E258, F258_0, F258_1, F258_2⟩ := Q257
          refine g_astore (pc' := 418) (Ls' := #[.val (.int p0), .val (.long p1), .second, .val (.long p2), .second, .val (.int p3), .val (.ref b150), .val (.ref kW), .val (.int kl), .val (.int sn.toInt32), .val (.int tl), .val (.int md), .val (.int k0), .val (.int k1), .val (.int k2), .val (.ref b178), .val (.ref b194), .val (.ref b198), .val (.ref b199), .val (.ref b201), .val (.ref b204), .val (.ref b252), .val (.ref b256), .unset, .unset]) W257.here hx (hb hby at_416) rfl rfl rfl ?_
          refine g_aload (pc' := 420) W257.here hx (hb hby at_418) rfl rfl rfl ?_
          refine g_aload (pc' := 422) W257.here hx (hb hby at_420) rfl rfl rfl ?_
          refine g_aload (pc' := 424) W257.here hx (hb hby at_422) rfl rfl rfl ?_
          have c259 := ((((((((((((((S197.keep K198 nin0 nin0).keep K199 nin0 nin0).keep K200 (ninS ne_b194_b199 nin0) (ninS ne_sb197_b199 nin0)).keep K201 nin0 nin0).keep K202 (ninS ne_b194_b201 nin0) (ninS ne_sb197_b201 nin0)).keep K203 (ninS ne_b194_b201 nin0) (ninS ne_sb197_b201 nin0)).keep K204 nin0 nin0).keep K205 (ninS ne_b194_b204 nin0) (ninS ne_sb197_b204 nin0)).keep K206 (ninS ne_b194_b204 nin0) (ninS ne_sb197_b204 nin0)).keep K207 (ninS ne_b194_b204 nin0) (ninS ne_sb197_b204 nin0)).keep K252 nin0 nin0).keep K254 (ninS ne_b194_b252 nin0) (ninS ne_sb197_b252 nin0)).keep K256 nin0 nin0).keep K257 (ninS ne_b194_b256 nin0) (ninS ne_sb197_b256 nin0))
          have c260 := ((S255.keep K256 nin0 nin0).keep K257 (ninS ne_b252_b256 nin0) (ninS ne_sb255_b256 nin0))
          refine w_virtualp (pc' := 427) (st := []) (y := (⟨"com/example/updatable_views/updatableviews/SqlToken", "isKeyword", "(Ljava/lang/CharSequence;Ljava/lang/String;)Z"⟩ : MethodName)) (z := (⟨"com/example/updatable_views/updatableviews/SqlToken", "isKeyword", "(Ljava/lang/CharSequence;Ljava/lang/String;)Z"⟩ : MethodName)) (a := b256) W257 hx [(.ref b194), (.ref b252)] (hw _ (List.mem_of_getElem? w_94)) (hw _ (List.mem_of_getElem? w_95)) (nfS (z := (⟨"com/example/updatable_views/updatableviews/SqlToken", "isKeyword", "(Ljava/lang/CharSequence;Ljava/lang/String;)Z"⟩ : MethodName)) (hw _ (List.mem_of_getElem? w_97))) (hw _ (List.mem_of_getElem? w_97)) (hw _ (List.mem_of_getElem? w_96)) (hw _ (List.mem_of_getElem? w_83)) (hw _ (List.mem_of_getElem? w_98)) (by decide) (c_isKwY l Z a0 hw hE cc fm kW b256 b194 sb197 b252 sb255 sn (sn.toInt32 + tl) ts3 [k0, k1, k2] h257 W257.old G GU S_kW F258_0 F258_1 F258_2 c259 c260 (by rw [hts3]; simp) (Nat.le_of_ble_eq_true rfl) (by rw [hts3]; simp; omega)) E258 (by rw [hml]; rfl) (lenOf pd_20 rfl) rfl (hb hby at_424) (Nat.le_of_ble_eq_true rfl) (Nat.le_of_ble_eq_true rfl) rfl rfl (Nat.le_of_ble_eq_true rfl) (Nat.le_of_ble_eq_true rfl) rfl fun T261 W261 => ?_
          obtain ⟨got, hgot⟩ : ∃ zz_ : Int32, zz_ = (kwI ts3 sn (sn.toInt32 + tl) [k0, k1, k2]) := ⟨_, rfl⟩
          refine g_name (congrArg Value.int hgot) ?_
          refine g_istore (pc' := 429) (Ls' := #[.val (.int p0), .val (.long p1), .second, .val (.long p2), .second, .val (.int p3), .val (.ref b150), .val (.ref kW), .val (.int kl), .val (.int sn.toInt32), .val (.int tl), .val (.int md), .val (.int k0), .val (.int k1), .val (.int k2), .val (.ref b178), .val (.ref b194), .val (.ref b198), .val (.ref b199), .val (.ref b201), .val (.ref b204), .val (.ref b252), .val (.ref b256), .val (.int got), .unset]) W261.here hx (hb hby at_427) rfl rfl ?_
          refine g_aload (pc' := 431) W261.here hx (hb hby at_429) rfl rfl rfl ?_
          refine w_getS (pc' := 434) W261 hx (hw _ (List.mem_of_getElem? w_2)) Via.refl S_kW (hb hby at_431) rfl fun T262 W262 => ?_
          refine w_acmp (pc' := 437) W262 hx rfl rfl true (hb hby at_434) (decide_eq_true rfl) (by decide) (by decide) ?_
          refine g_iload (pc' := 439) W262.here hx (hb hby at_437) rfl rfl ?_
          refine g_iload (pc' := 441) W262.here hx (hb hby at_439) rfl rfl ?_
          by_cases hc441_263 : tl = kl
          · refine g_icmpN (pc' := 444) W262.here hx (hb hby at_441) rfl (teq hc441_263).2 ?_
            refine g_iload (pc' := 446) W262.here hx (hb hby at_444) rfl rfl ?_
            refine g_iconst (1 : Int32) (pc' := 447) W262.here hx (hb hby at_446) rfl rfl ?_
            refine g_icmpN (pc' := 450) W262.here hx (hb hby at_447) rfl (flt (show ¬ (kl < (1 : Int32)) from (by rw [hkn]; decide))).1 ?_
            refine g_aload (pc' := 452) W262.here hx (hb hby at_450) rfl rfl rfl ?_
            refine g_iload (pc' := 454) W262.here hx (hb hby at_452) rfl rfl ?_
            have c264 := (((((((((((((((c195.keep K196 (ninS ne_b178_b194 nin0)).keep K198 nin0).keep K199 nin0).keep K200 (ninS ne_b178_b199 nin0)).keep K201 nin0).keep K202 (ninS ne_b178_b201 nin0)).keep K203 (ninS ne_b178_b201 nin0)).keep K204 nin0).keep K205 (ninS ne_b178_b204 nin0)).keep K206 (ninS ne_b178_b204 nin0)).keep K207 (ninS ne_b178_b204 nin0)).keep K252 nin0).keep K254 (ninS ne_b178_b252 nin0)).keep K256 nin0).keep K257 (ninS ne_b178_b256 nin0))
            refine w_caload (pc' := 455) (v := (.int q0)) W262 hx c264 (own_nneg (by omega)) (by rw [i32_nat (by omega), List.getElem?_map, g0]; rfl) (hb hby at_454) rfl ?_
            refine g_iload (pc' := 457) W262.here hx (hb hby at_455) rfl rfl ?_
            refine w_callSp (pc' := 460) (st := []) (y := (⟨"com/example/updatable_views/updatableviews/SqlTokenIsKeywordPinLaw", "same", "(CC)Z"⟩ : MethodName)) W262 hx [(.int q0), (.int k0)] (hw _ (List.mem_of_getElem? w_139)) (hw _ (List.mem_of_getElem? w_140)) (hw _ (List.mem_of_getElem? w_23)) (hw _ (List.mem_of_getElem? w_141)) (by decide) (c_same l Z a0 hw hE q0 k0 h257 W262.old r_q0 r_k0 nl_k0) (by rw [hml]; rfl) (lenOf pd_21 rfl) rfl (hb hby at_457) (Nat.le_of_ble_eq_true rfl) (Nat.le_of_ble_eq_true rfl) rfl rfl (Nat.le_of_ble_eq_true rfl) (Nat.le_of_ble_eq_true rfl) rfl fun T265 W265 => ?_
            by_cases hq0 : upI q0 = k0
            · refine g_name (w := .int (1 : Int32)) (congrArg Value.int (by rw [smI, if_pos hq0])) ?_
              refine g_ifN (pc' := 463) W265.here hx (hb hby at_460) rfl (feq (show ¬ ((1 : Int32) = (0 : Int32)) from (by decide))).1 ?_
              refine g_iload (pc' := 465) W265.here hx (hb hby at_463) rfl rfl ?_
              refine g_iconst (2 : Int32) (pc' := 466) W265.here hx (hb hby at_465) rfl rfl ?_
              refine g_icmpN (pc' := 469) W265.here hx (hb hby at_466) rfl (flt (show ¬ (kl < (2 : Int32)) from (by rw [hkn]; decide))).1 ?_
              refine g_aload (pc' := 471) W265.here hx (hb hby at_469) rfl rfl rfl ?_
              refine g_iload (pc' := 473) W265.here hx (hb hby at_471) rfl rfl ?_
              refine g_iconst (1 : Int32) (pc' := 474) W265.here hx (hb hby at_473) rfl rfl ?_
              refine g_iadd (pc' := 475) W265.here hx (hb hby at_474) rfl ?_
              refine g_name (w := .int (sn + 1).toInt32) (congrArg Value.int (own_addn (by omega) rfl).symm) ?_
              refine w_caload (pc' := 476) (v := (.int q1)) W265 hx c264 (own_nneg (by omega)) (by rw [i32_nat (by omega), List.getElem?_map, g1]; rfl) (hb hby at_475) rfl ?_
              refine g_iload (pc' := 478) W265.here hx (hb hby at_476) rfl rfl ?_
              refine w_callSp (pc' := 481) (st := []) (y := (⟨"com/example/updatable_views/updatableviews/SqlTokenIsKeywordPinLaw", "same", "(CC)Z"⟩ : MethodName)) W265 hx [(.int q1), (.int k1)] (hw _ (List.mem_of_getElem? w_139)) (hw _ (List.mem_of_getElem? w_140)) (hw _ (List.mem_of_getElem? w_23)) (hw _ (List.mem_of_getElem? w_141)) (by decide) (c_same l Z a0 hw hE q1 k1 h257 W265.old r_q1 r_k1 nl_k1) (by rw [hml]; rfl) (lenOf pd_21 rfl) rfl (hb hby at_478) (Nat.le_of_ble_eq_true rfl) (Nat.le_of_ble_eq_true rfl) rfl rfl (Nat.le_of_ble_eq_true rfl) (Nat.le_of_ble_eq_true rfl) rfl fun T266 W266 => ?_
              by_cases hq1 : upI q1 = k1
              · refine g_name (w := .int (1 : Int32)) (congrArg Value.int (by rw [smI, if_pos hq1])) ?_
                refine g_ifN (pc' := 484) W266.here hx (hb hby at_481) rfl (feq (show ¬ ((1 : Int32) = (0 : Int32)) from (by decide))).1 ?_
                refine g_iload (pc' := 486) W266.here hx (hb hby at_484) rfl rfl ?_
                refine g_iconst (3 : Int32) (pc' := 487) W266.here hx (hb hby at_486) rfl rfl ?_
                refine g_icmpN (pc' := 490) W266.here hx (hb hby at_487) rfl (flt (show ¬ (kl < (3 : Int32)) from (by rw [hkn]; decide))).1 ?_
                refine g_aload (pc' := 492) W266.here hx (hb hby at_490) rfl rfl rfl ?_
                refine g_iload (pc' := 494) W266.here hx (hb hby at_492) rfl rfl ?_
                refine g_iconst (2 : Int32) (pc' := 495) W266.here hx (hb hby at_494) rfl rfl ?_
                refine g_iadd (pc' := 496) W266.here hx (hb hby at_495) rfl ?_
                refine g_name (w := .int (sn + 2).toInt32) (congrArg Value.int (own_addn (by omega) rfl).symm) ?_
                refine w_caload (pc' := 497) (v := (.int q2)) W266 hx c264 (own_nneg (by omega)) (by rw [i32_nat (by omega), List.getElem?_map, g2]; rfl) (hb hby at_496) rfl ?_
                refine g_iload (pc' := 499) W266.here hx (hb hby at_497) rfl rfl ?_
                refine w_callSp (pc' := 502) (st := []) (y := (⟨"com/example/updatable_views/updatableviews/SqlTokenIsKeywordPinLaw", "same", "(CC)Z"⟩ : MethodName)) W266 hx [(.int q2), (.int k2)] (hw _ (List.mem_of_getElem? w_139)) (hw _ (List.mem_of_getElem? w_140)) (hw _ (List.mem_of_getElem? w_23)) (hw _ (List.mem_of_getElem? w_141)) (by decide) (c_same l Z a0 hw hE q2 k2 h257 W266.old r_q2 r_k2 nl_k2) (by rw [hml]; rfl) (lenOf pd_21 rfl) rfl (hb hby at_499) (Nat.le_of_ble_eq_true rfl) (Nat.le_of_ble_eq_true rfl) rfl rfl (Nat.le_of_ble_eq_true rfl) (Nat.le_of_ble_eq_true rfl) rfl fun T267 W267 => ?_
                by_cases hq2 : upI q2 = k2
                · refine g_name (w := .int (1 : Int32)) (congrArg Value.int (by rw [smI, if_pos hq2])) ?_
                  refine g_ifN (pc' := 505) W267.here hx (hb hby at_502) rfl (feq (show ¬ ((1 : Int32) = (0 : Int32)) from (by decide))).1 ?_
                  refine g_iconst (1 : Int32) (pc' := 506) W267.here hx (hb hby at_505) rfl rfl ?_
                  refine g_goto (pc' := 510) W267.here hx (hb hby at_506) rfl ?_
                  refine g_istore (pc' := 512) (Ls' := #[.val (.int p0), .val (.long p1), .second, .val (.long p2), .second, .val (.int p3), .val (.ref b150), .val (.ref kW), .val (.int kl), .val (.int sn.toInt32), .val (.int tl), .val (.int md), .val (.int k0), .val (.int k1), .val (.int k2), .val (.ref b178), .val (.ref b194), .val (.ref b198), .val (.ref b199), .val (.ref b201), .val (.ref b204), .val (.ref b252), .val (.ref b256), .val (.int got), .val (.int (1 : Int32))]) W267.here hx (hb hby at_510) rfl rfl ?_
                  refine g_iload (pc' := 514) W267.here hx (hb hby at_512) rfl rfl ?_
                  refine g_iload (pc' := 516) W267.here hx (hb hby at_514) rfl rfl ?_
                  refine g_icmpN (pc' := 519) W267.here hx (hb hby at_516) rfl (teq (show got = (1 : Int32) from (by rw [hgot, hts3, own_kw1 (ts := [e0, e1, e2, e3, e4]) (ks := [k0, k1, k2]) rfl hs2 (Nat.le_of_ble_eq_true rfl)]; rw [if_pos ⟨hc441_263.trans (by rw [hkn]; rfl), by simp [hq0, hq1, hq2]⟩]))).2 ?_
                  refine g_iconst (1 : Int32) (pc' := 520) W267.here hx (hb hby at_519) rfl rfl ?_
                  refine g_goto (pc' := 524) W267.here hx (hb hby at_520) rfl ?_
                  refine w_retN (t := .boolean) W267 hx hh hlk hret (by simp) (hb hby at_524) (Nat.le_of_ble_eq_true rfl) (Nat.le_of_ble_eq_true rfl) ?_
                  exact rfl
                · refine g_name (w := .int (0 : Int32)) (congrArg Value.int (by rw [smI, if_neg hq2])) ?_
                  refine g_ifY (pc' := 509) W267.here hx (hb hby at_502) rfl (teq (show (0 : Int32) = (0 : Int32) from (by decide))).1 ?_
                  refine g_iconst (0 : Int32) (pc' := 510) W267.here hx (hb hby at_509) rfl rfl ?_
                  refine g_istore (pc' := 512) (Ls' := #[.val (.int p0), .val (.long p1), .second, .val (.long p2), .second, .val (.int p3), .val (.ref b150), .val (.ref kW), .val (.int kl), .val (.int sn.toInt32), .val (.int tl), .val (.int md), .val (.int k0), .val (.int k1), .val (.int k2), .val (.ref b178), .val (.ref b194), .val (.ref b198), .val (.ref b199), .val (.ref b201), .val (.ref b204), .val (.ref b252), .val (.ref b256), .val (.int got), .val (.int (0 : Int32))]) W267.here hx (hb hby at_510) rfl rfl ?_
                  refine g_iload (pc' := 514) W267.here hx (hb hby at_512) rfl rfl ?_
                  refine g_iload (pc' := 516) W267.here hx (hb hby at_514) rfl rfl ?_
                  refine g_icmpN (pc' := 519) W267.here hx (hb hby at_516) rfl (teq (show got = (0 : Int32) from (by rw [hgot, hts3, own_kw1 (ts := [e0, e1, e2, e3, e4]) (ks := [k0, k1, k2]) rfl hs2 (Nat.le_of_ble_eq_true rfl)]; rw [if_neg (fun z => by have z2 := z.2; simp [hq0, hq1, hq2] at z2)]))).2 ?_
                  refine g_iconst (1 : Int32) (pc' := 520) W267.here hx (hb hby at_519) rfl rfl ?_
                  refine g_goto (pc' := 524) W267.here hx (hb hby at_520) rfl ?_
                  refine w_retN (t := .boolean) W267 hx hh hlk hret (by simp) (hb hby at_524) (Nat.le_of_ble_eq_true rfl) (Nat.le_of_ble_eq_true rfl) ?_
                  exact rfl
              · refine g_name (w := .int (0 : Int32)) (congrArg Value.int (by rw [smI, if_neg hq1])) ?_
                refine g_ifY (pc' := 509) W266.here hx (hb hby at_481) rfl (teq (show (0 : Int32) = (0 : Int32) from (by decide))).1 ?_
                refine g_iconst (0 : Int32) (pc' := 510) W266.here hx (hb hby at_509) rfl rfl ?_
                refine g_istore (pc' := 512) (Ls' := #[.val (.int p0), .val (.long p1), .second, .val (.long p2), .second, .val (.int p3), .val (.ref b150), .val (.ref kW), .val (.int kl), .val (.int sn.toInt32), .val (.int tl), .val (.int md), .val (.int k0), .val (.int k1), .val (.int k2), .val (.ref b178), .val (.ref b194), .val (.ref b198), .val (.ref b199), .val (.ref b201), .val (.ref b204), .val (.ref b252), .val (.ref b256), .val (.int got), .val (.int (0 : Int32))]) W266.here hx (hb hby at_510) rfl rfl ?_
                refine g_iload (pc' := 514) W266.here hx (hb hby at_512) rfl rfl ?_
                refine g_iload (pc' := 516) W266.here hx (hb hby at_514) rfl rfl ?_
                refine g_icmpN (pc' := 519) W266.here hx (hb hby at_516) rfl (teq (show got = (0 : Int32) from (by rw [hgot, hts3, own_kw1 (ts := [e0, e1, e2, e3, e4]) (ks := [k0, k1, k2]) rfl hs2 (Nat.le_of_ble_eq_true rfl)]; rw [if_neg (fun z => by have z2 := z.2; simp [hq0, hq1] at z2)]))).2 ?_
                refine g_iconst (1 : Int32) (pc' := 520) W266.here hx (hb hby at_519) rfl rfl ?_
                refine g_goto (pc' := 524) W266.here hx (hb hby at_520) rfl ?_
                refine w_retN (t := .boolean) W266 hx hh hlk hret (by simp) (hb hby at_524) (Nat.le_of_ble_eq_true rfl) (Nat.le_of_ble_eq_true rfl) ?_
                exact rfl
            · refine g_name (w := .int (0 : Int32)) (congrArg Value.int (by rw [smI, if_neg hq0])) ?_
              refine g_ifY (pc' := 509) W265.here hx (hb hby at_460) rfl (teq (show (0 : Int32) = (0 : Int32) from (by decide))).1 ?_
              refine g_iconst (0 : Int32) (pc' := 510) W265.here hx (hb hby at_509) rfl rfl ?_
              refine g_istore (pc' := 512) (Ls' := #[.val (.int p0), .val (.long p1), .second, .val (.long p2), .second, .val (.int p3), .val (.ref b150), .val (.ref kW), .val (.int kl), .val (.int sn.toInt32), .val (.int tl), .val (.int md), .val (.int k0), .val (.int k1), .val (.int k2), .val (.ref b178), .val (.ref b194), .val (.ref b198), .val (.ref b199), .val (.ref b201), .val (.ref b204), .val (.ref b252), .val (.ref b256), .val (.int got), .val (.int (0 : Int32))]) W265.here hx (hb hby at_510) rfl rfl ?_
              refine g_iload (pc' := 514) W265.here hx (hb hby at_512) rfl rfl ?_
              refine g_iload (pc' := 516) W265.here hx (hb hby at_514) rfl rfl ?_
              refine g_icmpN (pc' := 519) W265.here hx (hb hby at_516) rfl (teq (show got = (0 : Int32) from (by rw [hgot, hts3, own_kw1 (ts := [e0, e1, e2, e3, e4]) (ks := [k0, k1, k2]) rfl hs2 (Nat.le_of_ble_eq_true rfl)]; rw [if_neg (fun z => by have z2 := z.2; simp [hq0] at z2)]))).2 ?_
              refine g_iconst (1 : Int32) (pc' := 520) W265.here hx (hb hby at_519) rfl rfl ?_
              refine g_goto (pc' := 524) W265.here hx (hb hby at_520) rfl ?_
              refine w_retN (t := .boolean) W265 hx hh hlk hret (by simp) (hb hby at_524) (Nat.le_of_ble_eq_true rfl) (Nat.le_of_ble_eq_true rfl) ?_
              exact rfl
          · refine g_icmpY (pc' := 509) W262.here hx (hb hby at_441) rfl (feq hc441_263).2 ?_
            refine g_iconst (0 : Int32) (pc' := 510) W262.here hx (hb hby at_509) rfl rfl ?_
            refine g_istore (pc' := 512) (Ls' := #[.val (.int p0), .val (.long p1), .second, .val (.long p2), .second, .val (.int p3), .val (.ref b150), .val (.ref kW), .val (.int kl), .val (.int sn.toInt32), .val (.int tl), .val (.int md), .val (.int k0), .val (.int k1), .val (.int k2), .val (.ref b178), .val (.ref b194), .val (.ref b198), .val (.ref b199), .val (.ref b201), .val (.ref b204), .val (.ref b252), .val (.ref b256), .val (.int got), .val (.int (0 : Int32))]) W262.here hx (hb hby at_510) rfl rfl ?_
            refine g_iload (pc' := 514) W262.here hx (hb hby at_512) rfl rfl ?_
            refine g_iload (pc' := 516) W262.here hx (hb hby at_514) rfl rfl ?_
            refine g_icmpN (pc' := 519) W262.here hx (hb hby at_516) rfl (teq (show got = (0 : Int32) from (by rw [hgot, hts3, own_kw1 (ts := [e0, e1, e2, e3, e4]) (ks := [k0, k1, k2]) rfl hs2 (Nat.le_of_ble_eq_true rfl)]; rw [if_neg (fun z => hc441_263 (z.1.trans (by rw [hkn]; rfl)))]))).2 ?_
            refine g_iconst (1 : Int32) (pc' := 520) W262.here hx (hb hby at_519) rfl rfl ?_
            refine g_goto (pc' := 524) W262.here hx (hb hby at_520) rfl ?_
            refine w_retN (t := .boolean) W262 hx hh hlk hret (by simp) (hb hby at_524) (Nat.le_of_ble_eq_true rfl) (Nat.le_of_ble_eq_true rfl) ?_
            exact rfl
  · obtain ⟨kd, hkd, nek⟩ := own_kd h8 hk0 ne_kN ne_kT ne_kB ne_kQ ne_kP ne_kC ne_kS
    refine w_aaload (pc' := 64) (v := (.ref kd)) W173 hx (AryR.ary V173) rfl (by rw [Int32.lt_iff_toInt_lt]; have := own_t0; omega) hkd (hb hby at_63) rfl ?_
    refine g_astore (pc' := 66) (Ls' := #[.val (.int p0), .val (.long p1), .second, .val (.long p2), .second, .val (.int p3), .val (.ref b150), .val (.ref kd), .unset, .unset, .unset, .unset, .unset, .unset, .unset, .unset, .unset, .unset, .unset, .unset, .unset, .unset, .unset, .unset, .unset]) W173.here hx (hb hby at_64) rfl rfl rfl ?_
    refine g_iloadN (pc' := 67) W173.here hx (hb hby at_66) rfl rfl ?_
    refine g_iconst (3 : Int32) (pc' := 68) W173.here hx (hb hby at_67) rfl rfl ?_
    refine g_iushr (pc' := 69) W173.here hx (hb hby at_68) rfl ?_
    refine g_iconst (3 : Int32) (pc' := 70) W173.here hx (hb hby at_69) rfl rfl ?_
    refine g_iand (pc' := 71) W173.here hx (hb hby at_70) rfl ?_
    obtain ⟨kl, hkl⟩ : ∃ zz_ : Int32, zz_ = (((p0.toUInt32 >>> ((3 : Int32) &&& 31).toUInt32).toInt32) &&& (3 : Int32)) := ⟨_, rfl⟩
    refine g_name (congrArg Value.int hkl) ?_
    have kl3 : 0 ≤ kl.toInt ∧ kl.toInt ≤ 3 := by rw [hkl]; exact own_m3 _
    refine g_istore (pc' := 73) (Ls' := #[.val (.int p0), .val (.long p1), .second, .val (.long p2), .second, .val (.int p3), .val (.ref b150), .val (.ref kd), .val (.int kl), .unset, .unset, .unset, .unset, .unset, .unset, .unset, .unset, .unset, .unset, .unset, .unset, .unset, .unset, .unset, .unset]) W173.here hx (hb hby at_71) rfl rfl ?_
    refine g_iloadN (pc' := 74) W173.here hx (hb hby at_73) rfl rfl ?_
    refine g_iconst (5 : Int32) (pc' := 75) W173.here hx (hb hby at_74) rfl rfl ?_
    refine g_iushr (pc' := 76) W173.here hx (hb hby at_75) rfl ?_
    refine g_iconst (3 : Int32) (pc' := 77) W173.here hx (hb hby at_76) rfl rfl ?_
    refine g_iand (pc' := 78) W173.here hx (hb hby at_77) rfl ?_
    refine g_iconst (3 : Int32) (pc' := 79) W173.here hx (hb hby at_78) rfl rfl ?_
    refine g_irem (pc' := 80) W173.here hx (hb hby at_79) (by decide) rfl ?_
    obtain ⟨sx, hsx⟩ : ∃ zz_ : Int32, zz_ = ((((p0.toUInt32 >>> ((5 : Int32) &&& 31).toUInt32).toInt32) &&& (3 : Int32)) % (3 : Int32)) := ⟨_, rfl⟩
    refine g_name (congrArg Value.int hsx) ?_
    have sx2 : 0 ≤ sx.toInt ∧ sx.toInt ≤ 2 := by rw [hsx]; have q := own_m3 ((p0.toUInt32 >>> ((5 : Int32) &&& 31).toUInt32).toInt32); have q2 := (c_irem (((p0.toUInt32 >>> ((5 : Int32) &&& 31).toUInt32).toInt32) &&& 3) 3 3 rfl).1 (by omega); omega
    obtain ⟨sn, hsn⟩ : ∃ n : Nat, n = sx.toNatClampNeg := ⟨_, rfl⟩
    have hs2 : sn ≤ 2 := by rw [hsn]; show sx.toInt.toNat ≤ 2; omega
    have hsx' : sn.toInt32 = sx := by rw [hsn]; exact (own_jn (by rw [Int32.lt_iff_toInt_lt]; have := own_t0; omega)).symm
    refine g_name (w := .int sn.toInt32) (congrArg Value.int hsx') ?_
    refine g_istore (pc' := 82) (Ls' := #[.val (.int p0), .val (.long p1), .second, .val (.long p2), .second, .val (.int p3), .val (.ref b150), .val (.ref kd), .val (.int kl), .val (.int sn.toInt32), .unset, .unset, .unset, .unset, .unset, .unset, .unset, .unset, .unset, .unset, .unset, .unset, .unset, .unset, .unset]) W173.here hx (hb hby at_80) rfl rfl ?_
    refine g_iloadN (pc' := 83) W173.here hx (hb hby at_82) rfl rfl ?_
    refine g_bipush (7 : Int32) (pc' := 85) W173.here hx (hb hby at_83) rfl rfl ?_
    refine g_iushr (pc' := 86) W173.here hx (hb hby at_85) rfl ?_
    refine g_iconst (3 : Int32) (pc' := 87) W173.here hx (hb hby at_86) rfl rfl ?_
    refine g_iand (pc' := 88) W173.here hx (hb hby at_87) rfl ?_
    obtain ⟨tl, htl⟩ : ∃ zz_ : Int32, zz_ = (((p0.toUInt32 >>> ((7 : Int32) &&& 31).toUInt32).toInt32) &&& (3 : Int32)) := ⟨_, rfl⟩
    refine g_name (congrArg Value.int htl) ?_
    refine g_istore (pc' := 90) (Ls' := #[.val (.int p0), .val (.long p1), .second, .val (.long p2), .second, .val (.int p3), .val (.ref b150), .val (.ref kd), .val (.int kl), .val (.int sn.toInt32), .val (.int tl), .unset, .unset, .unset, .unset, .unset, .unset, .unset, .unset, .unset, .unset, .unset, .unset, .unset, .unset]) W173.here hx (hb hby at_88) rfl rfl ?_
    refine g_iloadN (pc' := 91) W173.here hx (hb hby at_90) rfl rfl ?_
    refine g_bipush (9 : Int32) (pc' := 93) W173.here hx (hb hby at_91) rfl rfl ?_
    refine g_iushr (pc' := 94) W173.here hx (hb hby at_93) rfl ?_
    obtain ⟨md, hmd⟩ : ∃ zz_ : Int32, zz_ = ((p0.toUInt32 >>> ((9 : Int32) &&& 31).toUInt32).toInt32) := ⟨_, rfl⟩
    refine g_name (congrArg Value.int hmd) ?_
    refine g_istore (pc' := 96) (Ls' := #[.val (.int p0), .val (.long p1), .second, .val (.long p2), .second, .val (.int p3), .val (.ref b150), .val (.ref kd), .val (.int kl), .val (.int sn.toInt32), .val (.int tl), .val (.int md), .unset, .unset, .unset, .unset, .unset, .unset, .unset, .unset, .unset, .unset, .unset, .unset, .unset]) W173.here hx (hb hby at_94) rfl rfl ?_
    refine g_lloadN (pc' := 97) W173.here hx (hb hby at_96) rfl rfl ?_
    refine w_ldc2J (pc' := 100) W173 hx (hw _ (List.mem_of_getElem? w_20)) (hb hby at_97) rfl ?_
    refine g_land (pc' := 101) W173.here hx (hb hby at_100) rfl ?_
    refine g_l2i (pc' := 102) W173.here hx (hb hby at_101) rfl ?_
    refine g_i2c (pc' := 103) W173.here hx (hb hby at_102) rfl ?_
    obtain ⟨x0, hx0⟩ : ∃ zz_ : Int32, zz_ = (((p1 &&& (65535 : Int64)).toInt32).toUInt32.toUInt16.toUInt32.toInt32) := ⟨_, rfl⟩
    refine g_name (congrArg Value.int hx0) ?_
    have r_x0 : 0 ≤ x0.toInt ∧ x0.toInt < 65536 := by rw [hx0]; have := c_i2c ((p1 &&& (65535 : Int64)).toInt32); omega
    refine w_callS (pc' := 106) (st := []) (y := (⟨"com/example/updatable_views/updatableviews/SqlTokenIsKeywordPinLaw", "up", "(C)C"⟩ : MethodName)) W173 hx [(.int x0)] (hw _ (List.mem_of_getElem? w_21)) (hw _ (List.mem_of_getElem? w_22)) (hw _ (List.mem_of_getElem? w_23)) (hw _ (List.mem_of_getElem? w_24)) (by decide) (c_up l Z a0 hw hE x0 h173 W173.old r_x0) all0 (by rw [hml]; rfl) (lenOf pd_16 rfl) rfl (hb hby at_103) (Nat.le_of_ble_eq_true rfl) (Nat.le_of_ble_eq_true rfl) (Nat.le_of_ble_eq_true rfl) (Nat.le_of_ble_eq_true rfl) rfl fun v268 T268 h268 W268 K268 Q268 => ?_
    have z_K268 : h173.size ≤ h268.size := K268.1
    obtain ⟨k0, rfl, r_k0, nl_k0⟩ := Q268
    refine g_istore (pc' := 108) (Ls' := #[.val (.int p0), .val (.long p1), .second, .val (.long p2), .second, .val (.int p3), .val (.ref b150), .val (.ref kd), .val (.int kl), .val (.int sn.toInt32), .val (.int tl), .val (.int md), .val (.int k0), .unset, .unset, .unset, .unset, .unset, .unset, .unset, .unset, .unset, .unset, .unset, .unset]) W268.here hx (hb hby at_106) rfl rfl ?_
    refine g_lloadN (pc' := 109) W268.here hx (hb hby at_108) rfl rfl ?_
    refine g_bipush (16 : Int32) (pc' := 111) W268.here hx (hb hby at_109) rfl rfl ?_
    refine g_lushr (pc' := 112) W268.here hx (hb hby at_111) rfl ?_
    refine w_ldc2J (pc' := 115) W268 hx (hw _ (List.mem_of_getElem? w_20)) (hb hby at_112) rfl ?_
    refine g_land (pc' := 116) W268.here hx (hb hby at_115) rfl ?_
    refine g_l2i (pc' := 117) W268.here hx (hb hby at_116) rfl ?_
    refine g_i2c (pc' := 118) W268.here hx (hb hby at_117) rfl ?_
    obtain ⟨x1, hx1⟩ : ∃ zz_ : Int32, zz_ = (((((p1.toUInt64 >>> ((16 : Int32) &&& 0x3f).toInt64.toUInt64).toInt64) &&& (65535 : Int64)).toInt32).toUInt32.toUInt16.toUInt32.toInt32) := ⟨_, rfl⟩
    refine g_name (congrArg Value.int hx1) ?_
    have r_x1 : 0 ≤ x1.toInt ∧ x1.toInt < 65536 := by rw [hx1]; have := c_i2c ((((p1.toUInt64 >>> ((16 : Int32) &&& 0x3f).toInt64.toUInt64).toInt64) &&& (65535 : Int64)).toInt32); omega
    refine w_callS (pc' := 121) (st := []) (y := (⟨"com/example/updatable_views/updatableviews/SqlTokenIsKeywordPinLaw", "up", "(C)C"⟩ : MethodName)) W268 hx [(.int x1)] (hw _ (List.mem_of_getElem? w_21)) (hw _ (List.mem_of_getElem? w_22)) (hw _ (List.mem_of_getElem? w_23)) (hw _ (List.mem_of_getElem? w_24)) (by decide) (c_up l Z a0 hw hE x1 h268 W268.old r_x1) all0 (by rw [hml]; rfl) (lenOf pd_16 rfl) rfl (hb hby at_118) (Nat.le_of_ble_eq_true rfl) (Nat.le_of_ble_eq_true rfl) (Nat.le_of_ble_eq_true rfl) (Nat.le_of_ble_eq_true rfl) rfl fun v269 T269 h269 W269 K269 Q269 => ?_
    have z_K269 : h268.size ≤ h269.size := K269.1
    obtain ⟨k1, rfl, r_k1, nl_k1⟩ := Q269
    refine g_istore (pc' := 123) (Ls' := #[.val (.int p0), .val (.long p1), .second, .val (.long p2), .second, .val (.int p3), .val (.ref b150), .val (.ref kd), .val (.int kl), .val (.int sn.toInt32), .val (.int tl), .val (.int md), .val (.int k0), .val (.int k1), .unset, .unset, .unset, .unset, .unset, .unset, .unset, .unset, .unset, .unset, .unset]) W269.here hx (hb hby at_121) rfl rfl ?_
    refine g_lloadN (pc' := 124) W269.here hx (hb hby at_123) rfl rfl ?_
    refine g_bipush (32 : Int32) (pc' := 126) W269.here hx (hb hby at_124) rfl rfl ?_
    refine g_lushr (pc' := 127) W269.here hx (hb hby at_126) rfl ?_
    refine w_ldc2J (pc' := 130) W269 hx (hw _ (List.mem_of_getElem? w_20)) (hb hby at_127) rfl ?_
    refine g_land (pc' := 131) W269.here hx (hb hby at_130) rfl ?_
    refine g_l2i (pc' := 132) W269.here hx (hb hby at_131) rfl ?_
    refine g_i2c (pc' := 133) W269.here hx (hb hby at_132) rfl ?_
    obtain ⟨x2, hx2⟩ : ∃ zz_ : Int32, zz_ = (((((p1.toUInt64 >>> ((32 : Int32) &&& 0x3f).toInt64.toUInt64).toInt64) &&& (65535 : Int64)).toInt32).toUInt32.toUInt16.toUInt32.toInt32) := ⟨_, rfl⟩
    refine g_name (congrArg Value.int hx2) ?_
    have r_x2 : 0 ≤ x2.toInt ∧ x2.toInt < 65536 := by rw [hx2]; have := c_i2c ((((p1.toUInt64 >>> ((32 : Int32) &&& 0x3f).toInt64.toUInt64).toInt64) &&& (65535 : Int64)).toInt32); omega
    refine w_callS (pc' := 136) (st := []) (y := (⟨"com/example/updatable_views/updatableviews/SqlTokenIsKeywordPinLaw", "up", "(C)C"⟩ : MethodName)) W269 hx [(.int x2)] (hw _ (List.mem_of_getElem? w_21)) (hw _ (List.mem_of_getElem? w_22)) (hw _ (List.mem_of_getElem? w_23)) (hw _ (List.mem_of_getElem? w_24)) (by decide) (c_up l Z a0 hw hE x2 h269 W269.old r_x2) all0 (by rw [hml]; rfl) (lenOf pd_16 rfl) rfl (hb hby at_133) (Nat.le_of_ble_eq_true rfl) (Nat.le_of_ble_eq_true rfl) (Nat.le_of_ble_eq_true rfl) (Nat.le_of_ble_eq_true rfl) rfl fun v270 T270 h270 W270 K270 Q270 => ?_
    have z_K270 : h269.size ≤ h270.size := K270.1
    obtain ⟨k2, rfl, r_k2, nl_k2⟩ := Q270
    refine g_istore (pc' := 138) (Ls' := #[.val (.int p0), .val (.long p1), .second, .val (.long p2), .second, .val (.int p3), .val (.ref b150), .val (.ref kd), .val (.int kl), .val (.int sn.toInt32), .val (.int tl), .val (.int md), .val (.int k0), .val (.int k1), .val (.int k2), .unset, .unset, .unset, .unset, .unset, .unset, .unset, .unset, .unset, .unset]) W270.here hx (hb hby at_136) rfl rfl ?_
    refine g_iconst (5 : Int32) (pc' := 139) W270.here hx (hb hby at_138) rfl rfl ?_
    refine w_newarr (pc' := 141) (cap := 5) W270 hx (hw _ (List.mem_of_getElem? w_25)) (hb hby at_139) (by decide) (Nat.le_refl _) (Nat.le_of_ble_eq_true rfl) (Nat.le_of_ble_eq_true rfl) (Nat.le_of_ble_eq_true rfl) rfl rfl fun T271 h271 b271 g271 W271 K271 V271 => ?_
    have z_K271 : h270.size ≤ h271.size := K271.1
    have ne_b150_b271 : b150 ≠ b271 := by omega
    have lt_b271 : b271 < h271.size := W271.lt (List.mem_cons_self ..)
    have V271 : Ary Z h271 b271 .char [(.int (0 : Int32)), (.int (0 : Int32)), (.int (0 : Int32)), (.int (0 : Int32)), (.int (0 : Int32))] := V271
    refine g_astore (pc' := 143) (Ls' := #[.val (.int p0), .val (.long p1), .second, .val (.long p2), .second, .val (.int p3), .val (.ref b150), .val (.ref kd), .val (.int kl), .val (.int sn.toInt32), .val (.int tl), .val (.int md), .val (.int k0), .val (.int k1), .val (.int k2), .val (.ref b271), .unset, .unset, .unset, .unset, .unset, .unset, .unset, .unset, .unset]) W271.here hx (hb hby at_141) rfl rfl rfl ?_
    refine g_aload (pc' := 145) W271.here hx (hb hby at_143) rfl rfl rfl ?_
    refine g_iconst (0 : Int32) (pc' := 146) W271.here hx (hb hby at_145) rfl rfl ?_
    refine g_lloadN (pc' := 147) W271.here hx (hb hby at_146) rfl rfl ?_
    refine w_ldc2J (pc' := 150) W271 hx (hw _ (List.mem_of_getElem? w_20)) (hb hby at_147) rfl ?_
    refine g_land (pc' := 151) W271.here hx (hb hby at_150) rfl ?_
    refine g_l2i (pc' := 152) W271.here hx (hb hby at_151) rfl ?_
    refine g_i2c (pc' := 153) W271.here hx (hb hby at_152) rfl ?_
    obtain ⟨e0, he0⟩ : ∃ zz_ : Int32, zz_ = (((p2 &&& (65535 : Int64)).toInt32).toUInt32.toUInt16.toUInt32.toInt32) := ⟨_, rfl⟩
    refine g_name (congrArg Value.int he0) ?_
    have r_e0 : 0 ≤ e0.toInt ∧ e0.toInt < 65536 := by rw [he0]; have := c_i2c ((p2 &&& (65535 : Int64)).toInt32); omega
    refine w_castore (pc' := 154) (x' := e0) W271 hx V271 (by decide) (Nat.lt_of_lt_of_le (Nat.lt_succ_self _) (Nat.le_of_ble_eq_true rfl)) (List.mem_of_getElem? (i := 0) rfl) (own_nchar r_e0) (hb hby at_153) rfl fun T272 h272 W272 K272 V272 => ?_
    have z_K272 : h271.size ≤ h272.size := K272.1
    have V272 : Ary Z h272 b271 .char [(.int e0), (.int (0 : Int32)), (.int (0 : Int32)), (.int (0 : Int32)), (.int (0 : Int32))] := V272
    refine g_aload (pc' := 156) W272.here hx (hb hby at_154) rfl rfl rfl ?_
    refine g_iconst (1 : Int32) (pc' := 157) W272.here hx (hb hby at_156) rfl rfl ?_
    refine g_lloadN (pc' := 158) W272.here hx (hb hby at_157) rfl rfl ?_
    refine g_bipush (16 : Int32) (pc' := 160) W272.here hx (hb hby at_158) rfl rfl ?_
    refine g_lushr (pc' := 161) W272.here hx (hb hby at_160) rfl ?_
    refine w_ldc2J (pc' := 164) W272 hx (hw _ (List.mem_of_getElem? w_20)) (hb hby at_161) rfl ?_
    refine g_land (pc' := 165) W272.here hx (hb hby at_164) rfl ?_
    refine g_l2i (pc' := 166) W272.here hx (hb hby at_165) rfl ?_
    refine g_i2c (pc' := 167) W272.here hx (hb hby at_166) rfl ?_
    obtain ⟨e1, he1⟩ : ∃ zz_ : Int32, zz_ = (((((p2.toUInt64 >>> ((16 : Int32) &&& 0x3f).toInt64.toUInt64).toInt64) &&& (65535 : Int64)).toInt32).toUInt32.toUInt16.toUInt32.toInt32) := ⟨_, rfl⟩
    refine g_name (congrArg Value.int he1) ?_
    have r_e1 : 0 ≤ e1.toInt ∧ e1.toInt < 65536 := by rw [he1]; have := c_i2c ((((p2.toUInt64 >>> ((16 : Int32) &&& 0x3f).toInt64.toUInt64).toInt64) &&& (65535 : Int64)).toInt32); omega
    refine w_castore (pc' := 168) (x' := e1) W272 hx V272 (by decide) (Nat.lt_of_lt_of_le (Nat.lt_succ_self _) (Nat.le_of_ble_eq_true rfl)) (List.mem_of_getElem? (i := 0) rfl) (own_nchar r_e1) (hb hby at_167) rfl fun T273 h273 W273 K273 V273 => ?_
    have z_K273 : h272.size ≤ h273.size := K273.1
    have V273 : Ary Z h273 b271 .char [(.int e0), (.int e1), (.int (0 : Int32)), (.int (0 : Int32)), (.int (0 : Int32))] := V273
    refine g_aload (pc' := 170) W273.here hx (hb hby at_168) rfl rfl rfl ?_
    refine g_iconst (2 : Int32) (pc' := 171) W273.here hx (hb hby at_170) rfl rfl ?_
    refine g_lloadN (pc' := 172) W273.here hx (hb hby at_171) rfl rfl ?_
    refine g_bipush (32 : Int32) (pc' := 174) W273.here hx (hb hby at_172) rfl rfl ?_
    refine g_lushr (pc' := 175) W273.here hx (hb hby at_174) rfl ?_
    refine w_ldc2J (pc' := 178) W273 hx (hw _ (List.mem_of_getElem? w_20)) (hb hby at_175) rfl ?_
    refine g_land (pc' := 179) W273.here hx (hb hby at_178) rfl ?_
    refine g_l2i (pc' := 180) W273.here hx (hb hby at_179) rfl ?_
    refine g_i2c (pc' := 181) W273.here hx (hb hby at_180) rfl ?_
    obtain ⟨e2, he2⟩ : ∃ zz_ : Int32, zz_ = (((((p2.toUInt64 >>> ((32 : Int32) &&& 0x3f).toInt64.toUInt64).toInt64) &&& (65535 : Int64)).toInt32).toUInt32.toUInt16.toUInt32.toInt32) := ⟨_, rfl⟩
    refine g_name (congrArg Value.int he2) ?_
    have r_e2 : 0 ≤ e2.toInt ∧ e2.toInt < 65536 := by rw [he2]; have := c_i2c ((((p2.toUInt64 >>> ((32 : Int32) &&& 0x3f).toInt64.toUInt64).toInt64) &&& (65535 : Int64)).toInt32); omega
    refine w_castore (pc' := 182) (x' := e2) W273 hx V273 (by decide) (Nat.lt_of_lt_of_le (Nat.lt_succ_self _) (Nat.le_of_ble_eq_true rfl)) (List.mem_of_getElem? (i := 0) rfl) (own_nchar r_e2) (hb hby at_181) rfl fun T274 h274 W274 K274 V274 => ?_
    have z_K274 : h273.size ≤ h274.size := K274.1
    have V274 : Ary Z h274 b271 .char [(.int e0), (.int e1), (.int e2), (.int (0 : Int32)), (.int (0 : Int32))] := V274
    refine g_aload (pc' := 184) W274.here hx (hb hby at_182) rfl rfl rfl ?_
    refine g_iconst (3 : Int32) (pc' := 185) W274.here hx (hb hby at_184) rfl rfl ?_
    refine g_lloadN (pc' := 186) W274.here hx (hb hby at_185) rfl rfl ?_
    refine g_bipush (48 : Int32) (pc' := 188) W274.here hx (hb hby at_186) rfl rfl ?_
    refine g_lushr (pc' := 189) W274.here hx (hb hby at_188) rfl ?_
    refine w_ldc2J (pc' := 192) W274 hx (hw _ (List.mem_of_getElem? w_20)) (hb hby at_189) rfl ?_
    refine g_land (pc' := 193) W274.here hx (hb hby at_192) rfl ?_
    refine g_l2i (pc' := 194) W274.here hx (hb hby at_193) rfl ?_
    refine g_i2c (pc' := 195) W274.here hx (hb hby at_194) rfl ?_
    obtain ⟨e3, he3⟩ : ∃ zz_ : Int32, zz_ = (((((p2.toUInt64 >>> ((48 : Int32) &&& 0x3f).toInt64.toUInt64).toInt64) &&& (65535 : Int64)).toInt32).toUInt32.toUInt16.toUInt32.toInt32) := ⟨_, rfl⟩
    refine g_name (congrArg Value.int he3) ?_
    have r_e3 : 0 ≤ e3.toInt ∧ e3.toInt < 65536 := by rw [he3]; have := c_i2c ((((p2.toUInt64 >>> ((48 : Int32) &&& 0x3f).toInt64.toUInt64).toInt64) &&& (65535 : Int64)).toInt32); omega
    refine w_castore (pc' := 196) (x' := e3) W274 hx V274 (by decide) (Nat.lt_of_lt_of_le (Nat.lt_succ_self _) (Nat.le_of_ble_eq_true rfl)) (List.mem_of_getElem? (i := 0) rfl) (own_nchar r_e3) (hb hby at_195) rfl fun T275 h275 W275 K275 V275 => ?_
    have z_K275 : h274.size ≤ h275.size := K275.1
    have V275 : Ary Z h275 b271 .char [(.int e0), (.int e1), (.int e2), (.int e3), (.int (0 : Int32))] := V275
    refine g_aload (pc' := 198) W275.here hx (hb hby at_196) rfl rfl rfl ?_
    refine g_iconst (4 : Int32) (pc' := 199) W275.here hx (hb hby at_198) rfl rfl ?_
    refine g_iload (pc' := 201) W275.here hx (hb hby at_199) rfl rfl ?_
    refine w_ldcI (pc' := 203) W275 hx (hw _ (List.mem_of_getElem? w_26)) (hb hby at_201) rfl ?_
    refine g_iand (pc' := 204) W275.here hx (hb hby at_203) rfl ?_
    refine g_i2c (pc' := 205) W275.here hx (hb hby at_204) rfl ?_
    obtain ⟨e4, he4⟩ : ∃ zz_ : Int32, zz_ = ((p3 &&& (65535 : Int32)).toUInt32.toUInt16.toUInt32.toInt32) := ⟨_, rfl⟩
    refine g_name (congrArg Value.int he4) ?_
    have r_e4 : 0 ≤ e4.toInt ∧ e4.toInt < 65536 := by rw [he4]; have := c_i2c (p3 &&& (65535 : Int32)); omega
    refine w_castore (pc' := 206) (x' := e4) W275 hx V275 (by decide) (Nat.lt_of_lt_of_le (Nat.lt_succ_self _) (Nat.le_of_ble_eq_true rfl)) (List.mem_of_getElem? (i := 0) rfl) (own_nchar r_e4) (hb hby at_205) rfl fun T276 h276 W276 K276 V276 => ?_
    have z_K276 : h275.size ≤ h276.size := K276.1
    have V276 : Ary Z h276 b271 .char [(.int e0), (.int e1), (.int e2), (.int e3), (.int e4)] := V276
    refine g_aload (pc' := 208) W276.here hx (hb hby at_206) rfl rfl rfl ?_
    refine g_iload (pc' := 210) W276.here hx (hb hby at_208) rfl rfl ?_
    refine g_aload (pc' := 212) W276.here hx (hb hby at_210) rfl rfl rfl ?_
    refine g_iload (pc' := 214) W276.here hx (hb hby at_212) rfl rfl ?_
    obtain ⟨tv0, htv0⟩ : ∃ z, [e0, e1, e2, e3, e4][sn]? = some z := ⟨_, List.getElem?_eq_getElem (by simp; omega)⟩
    refine w_caload (pc' := 215) (v := (.int tv0)) W276 hx V276 (own_nneg (by omega)) (by show ([e0, e1, e2, e3, e4].map Value.int)[_]? = _; rw [i32_nat (by omega), List.getElem?_map, htv0]; rfl) (hb hby at_214) rfl ?_
    refine g_iload (pc' := 217) W276.here hx (hb hby at_215) rfl rfl ?_
    refine g_iload (pc' := 219) W276.here hx (hb hby at_217) rfl rfl ?_
    refine g_iconst (3 : Int32) (pc' := 220) W276.here hx (hb hby at_219) rfl rfl ?_
    refine g_iand (pc' := 221) W276.here hx (hb hby at_220) rfl ?_
    refine w_callS (pc' := 224) (st := [(.int sn.toInt32), (.ref b271)]) (y := (⟨"com/example/updatable_views/updatableviews/SqlTokenIsKeywordPinLaw", "place", "(CCI)C"⟩ : MethodName)) W276 hx [(.int tv0), (.int k0), (.int (md &&& (3 : Int32)))] (hw _ (List.mem_of_getElem? w_27)) (hw _ (List.mem_of_getElem? w_28)) (hw _ (List.mem_of_getElem? w_23)) (hw _ (List.mem_of_getElem? w_29)) (by decide) (c_place l Z a0 hw hE tv0 k0 (md &&& (3 : Int32)) h276 W276.old) all0 (by rw [hml]; rfl) (lenOf pd_17 rfl) rfl (hb hby at_221) (Nat.le_of_ble_eq_true rfl) (Nat.le_of_ble_eq_true rfl) (Nat.le_of_ble_eq_true rfl) (Nat.le_of_ble_eq_true rfl) rfl fun v277 T277 h277 W277 K277 Q277 => ?_
    have z_K277 : h276.size ≤ h277.size := K277.1
    obtain ⟨q0, rfl, r_q0⟩ := Q277
    have c278 := (V276.keep K277 nin0)
    refine w_castore (pc' := 225) (x' := q0) W277 hx c278 (own_nneg (by omega)) (by rw [i32_nat (by omega)]; simp; omega) (List.mem_of_getElem? (i := 0) rfl) (own_nchar r_q0) (hb hby at_224) rfl fun T279 h279 W279 K279 V279 => ?_
    have z_K279 : h277.size ≤ h279.size := K279.1
    have V279 : Ary Z h279 b271 .char (([e0, e1, e2, e3, e4].set sn q0).map Value.int) := by rw [i32_nat (by omega)] at V279; rw [List.map_set]; exact V279
    refine g_aload (pc' := 227) W279.here hx (hb hby at_225) rfl rfl rfl ?_
    refine g_iload (pc' := 229) W279.here hx (hb hby at_227) rfl rfl ?_
    refine g_iconst (1 : Int32) (pc' := 230) W279.here hx (hb hby at_229) rfl rfl ?_
    refine g_iadd (pc' := 231) W279.here hx (hb hby at_230) rfl ?_
    refine g_name (w := .int (sn + 1).toInt32) (congrArg Value.int (own_addn (by omega) rfl).symm) ?_
    refine g_aload (pc' := 233) W279.here hx (hb hby at_231) rfl rfl rfl ?_
    refine g_iload (pc' := 235) W279.here hx (hb hby at_233) rfl rfl ?_
    refine g_iconst (1 : Int32) (pc' := 236) W279.here hx (hb hby at_235) rfl rfl ?_
    refine g_iadd (pc' := 237) W279.here hx (hb hby at_236) rfl ?_
    refine g_name (w := .int (sn + 1).toInt32) (congrArg Value.int (own_addn (by omega) rfl).symm) ?_
    obtain ⟨tv1, htv1⟩ : ∃ z, ([e0, e1, e2, e3, e4].set sn q0)[(sn + 1)]? = some z := ⟨_, List.getElem?_eq_getElem (by simp; omega)⟩
    refine w_caload (pc' := 238) (v := (.int tv1)) W279 hx V279 (own_nneg (by omega)) (by show (([e0, e1, e2, e3, e4].set sn q0).map Value.int)[_]? = _; rw [i32_nat (by omega), List.getElem?_map, htv1]; rfl) (hb hby at_237) rfl ?_
    refine g_iload (pc' := 240) W279.here hx (hb hby at_238) rfl rfl ?_
    refine g_iload (pc' := 242) W279.here hx (hb hby at_240) rfl rfl ?_
    refine g_iconst (2 : Int32) (pc' := 243) W279.here hx (hb hby at_242) rfl rfl ?_
    refine g_iushr (pc' := 244) W279.here hx (hb hby at_243) rfl ?_
    refine g_iconst (3 : Int32) (pc' := 245) W279.here hx (hb hby at_244) rfl rfl ?_
    refine g_iand (pc' := 246) W279.here hx (hb hby at_245) rfl ?_
    refine w_callS (pc' := 249) (st := [(.int (sn + 1).toInt32), (.ref b271)]) (y := (⟨"com/example/updatable_views/updatableviews/SqlTokenIsKeywordPinLaw", "place", "(CCI)C"⟩ : MethodName)) W279 hx [(.int tv1), (.int k1), (.int (((md.toUInt32 >>> ((2 : Int32) &&& 31).toUInt32).toInt32) &&& (3 : Int32)))] (hw _ (List.mem_of_getElem? w_27)) (hw _ (List.mem_of_getElem? w_28)) (hw _ (List.mem_of_getElem? w_23)) (hw _ (List.mem_of_getElem? w_29)) (by decide) (c_place l Z a0 hw hE tv1 k1 (((md.toUInt32 >>> ((2 : Int32) &&& 31).toUInt32).toInt32) &&& (3 : Int32)) h279 W279.old) all0 (by rw [hml]; rfl) (lenOf pd_17 rfl) rfl (hb hby at_246) (Nat.le_of_ble_eq_true rfl) (Nat.le_of_ble_eq_true rfl) (Nat.le_of_ble_eq_true rfl) (Nat.le_of_ble_eq_true rfl) rfl fun v280 T280 h280 W280 K280 Q280 => ?_
    have z_K280 : h279.size ≤ h280.size := K280.1
    obtain ⟨q1, rfl, r_q1⟩ := Q280
    have c281 := (V279.keep K280 nin0)
    refine w_castore (pc' := 250) (x' := q1) W280 hx c281 (own_nneg (by omega)) (by rw [i32_nat (by omega)]; simp; omega) (List.mem_of_getElem? (i := 0) rfl) (own_nchar r_q1) (hb hby at_249) rfl fun T282 h282 W282 K282 V282 => ?_
    have z_K282 : h280.size ≤ h282.size := K282.1
    have V282 : Ary Z h282 b271 .char ((([e0, e1, e2, e3, e4].set sn q0).set (sn + 1) q1).map Value.int) := by rw [i32_nat (by omega)] at V282; rw [List.map_set]; exact V282
    refine g_aload (pc' := 252) W282.here hx (hb hby at_250) rfl rfl rfl ?_
    refine g_iload (pc' := 254) W282.here hx (hb hby at_252) rfl rfl ?_
    refine g_iconst (2 : Int32) (pc' := 255) W282.here hx (hb hby at_254) rfl rfl ?_
    refine g_iadd (pc' := 256) W282.here hx (hb hby at_255) rfl ?_
    refine g_name (w := .int (sn + 2).toInt32) (congrArg Value.int (own_addn (by omega) rfl).symm) ?_
    refine g_aload (pc' := 258) W282.here hx (hb hby at_256) rfl rfl rfl ?_
    refine g_iload (pc' := 260) W282.here hx (hb hby at_258) rfl rfl ?_
    refine g_iconst (2 : Int32) (pc' := 261) W282.here hx (hb hby at_260) rfl rfl ?_
    refine g_iadd (pc' := 262) W282.here hx (hb hby at_261) rfl ?_
    refine g_name (w := .int (sn + 2).toInt32) (congrArg Value.int (own_addn (by omega) rfl).symm) ?_
    obtain ⟨tv2, htv2⟩ : ∃ z, (([e0, e1, e2, e3, e4].set sn q0).set (sn + 1) q1)[(sn + 2)]? = some z := ⟨_, List.getElem?_eq_getElem (by simp; omega)⟩
    refine w_caload (pc' := 263) (v := (.int tv2)) W282 hx V282 (own_nneg (by omega)) (by show ((([e0, e1, e2, e3, e4].set sn q0).set (sn + 1) q1).map Value.int)[_]? = _; rw [i32_nat (by omega), List.getElem?_map, htv2]; rfl) (hb hby at_262) rfl ?_
    refine g_iload (pc' := 265) W282.here hx (hb hby at_263) rfl rfl ?_
    refine g_iload (pc' := 267) W282.here hx (hb hby at_265) rfl rfl ?_
    refine g_iconst (4 : Int32) (pc' := 268) W282.here hx (hb hby at_267) rfl rfl ?_
    refine g_iushr (pc' := 269) W282.here hx (hb hby at_268) rfl ?_
    refine g_iconst (3 : Int32) (pc' := 270) W282.here hx (hb hby at_269) rfl rfl ?_
    refine g_iand (pc' := 271) W282.here hx (hb hby at_270) rfl ?_
    refine w_callS (pc' := 274) (st := [(.int (sn + 2).toInt32), (.ref b271)]) (y := (⟨"com/example/updatable_views/updatableviews/SqlTokenIsKeywordPinLaw", "place", "(CCI)C"⟩ : MethodName)) W282 hx [(.int tv2), (.int k2), (.int (((md.toUInt32 >>> ((4 : Int32) &&& 31).toUInt32).toInt32) &&& (3 : Int32)))] (hw _ (List.mem_of_getElem? w_27)) (hw _ (List.mem_of_getElem? w_28)) (hw _ (List.mem_of_getElem? w_23)) (hw _ (List.mem_of_getElem? w_29)) (by decide) (c_place l Z a0 hw hE tv2 k2 (((md.toUInt32 >>> ((4 : Int32) &&& 31).toUInt32).toInt32) &&& (3 : Int32)) h282 W282.old) all0 (by rw [hml]; rfl) (lenOf pd_17 rfl) rfl (hb hby at_271) (Nat.le_of_ble_eq_true rfl) (Nat.le_of_ble_eq_true rfl) (Nat.le_of_ble_eq_true rfl) (Nat.le_of_ble_eq_true rfl) rfl fun v283 T283 h283 W283 K283 Q283 => ?_
    have z_K283 : h282.size ≤ h283.size := K283.1
    obtain ⟨q2, rfl, r_q2⟩ := Q283
    have c284 := (V282.keep K283 nin0)
    refine w_castore (pc' := 275) (x' := q2) W283 hx c284 (own_nneg (by omega)) (by rw [i32_nat (by omega)]; simp; omega) (List.mem_of_getElem? (i := 0) rfl) (own_nchar r_q2) (hb hby at_274) rfl fun T285 h285 W285 K285 V285 => ?_
    have z_K285 : h283.size ≤ h285.size := K285.1
    have V285 : Ary Z h285 b271 .char (((([e0, e1, e2, e3, e4].set sn q0).set (sn + 1) q1).set (sn + 2) q2).map Value.int) := by rw [i32_nat (by omega)] at V285; rw [List.map_set]; exact V285
    obtain ⟨ts3, hts3⟩ : ∃ z : List Int32, z = ((([e0, e1, e2, e3, e4].set sn q0).set (sn + 1) q1).set (sn + 2) q2) := ⟨_, rfl⟩
    have V286 : Ary Z h285 b271 .char (ts3.map Value.int) := by rw [hts3]; exact V285
    have r_ts : ∀ c ∈ ts3, 0 ≤ c.toInt ∧ c.toInt < 65536 := by rw [hts3]; exact own_setR (own_setR (own_setR (own_allS r_e0 (own_allS r_e1 (own_allS r_e2 (own_allS r_e3 (own_allS r_e4 own_all0))))) r_q0) r_q1) r_q2
    obtain ⟨g0, g1, g2⟩ := own_get3 (ts := [e0, e1, e2, e3, e4]) (q0 := q0) (q1 := q1) (q2 := q2) rfl hs2
    rw [← hts3] at g0 g1 g2
    refine w_new (pc' := 278) W285 hx (hw _ (List.mem_of_getElem? w_30)) (hw _ (List.mem_of_getElem? w_31)) (hw _ (List.mem_of_getElem? w_32)) (hb hby at_275) (Nat.le_of_ble_eq_true rfl) (Nat.le_of_ble_eq_true rfl) rfl fun T287 h287 b287 g287 W287 K287 A287 D287 => ?_
    have z_K287 : h285.size ≤ h287.size := K287.1
    have ne_b150_b287 : b150 ≠ b287 := by omega
    have ne_b271_b287 : b271 ≠ b287 := by omega
    have lt_b287 : b287 < h287.size := W287.lt (List.mem_cons_self ..)
    have F287_coder : Fld Z h287 b287 "java/lang/String" "coder" "B" (.int (0 : Int32)) := D287 (Or.inr (hw _ (List.mem_of_getElem? w_75))) (ty := .byte) (by decide)
    have F287_value : Fld Z h287 b287 "java/lang/String" "value" "[B" .null := D287 (Or.inr (hw _ (List.mem_of_getElem? w_77))) (ty := (.array .byte)) (by decide)
    refine g_dup (pc' := 279) W287.here hx (hb hby at_278) rfl rfl ?_
    refine g_aload (pc' := 281) W287.here hx (hb hby at_279) rfl rfl rfl ?_
    have c288 := (V286.keep K287 nin0)
    refine w_special (pc' := 284) (st := [(.ref b287)]) (y := (⟨"java/lang/String", "<init>", "([C)V"⟩ : MethodName)) (a := b287) W287 hx [(.ref b271)] rfl (hw _ (List.mem_of_getElem? w_33)) (hw _ (List.mem_of_getElem? w_34)) (hw _ (List.mem_of_getElem? w_32)) (hw _ (List.mem_of_getElem? w_35)) (by decide) (c_strC l Z a0 hw hE cc fm b287 b271 ts3 h287 W287.old G GU (by rw [hts3]; simp) r_ts c288 (by have := O.1; omega) A287 _ _ F287_coder F287_value (Ne.symm ne_b271_b287)) (allS (List.mem_of_getElem? (i := 0) rfl) all0) (by rw [hml]; rfl) (lenOf pd_18 rfl) rfl (hb hby at_281) (Nat.le_of_ble_eq_true rfl) (Nat.le_of_ble_eq_true rfl) (Nat.le_of_ble_eq_true rfl) (Nat.le_of_ble_eq_true rfl) rfl fun v289 T289 h289 W289 K289 Q289 => ?_
    have z_K289 : h287.size ≤ h289.size := K289.1
    obtain ⟨rfl, sb290, S290⟩ := Q289
    have ES290 := S290.exa
    have lt_sb290 : sb290 < h289.size := S290.ltb
    refine g_astore (pc' := 286) (Ls' := #[.val (.int p0), .val (.long p1), .second, .val (.long p2), .second, .val (.int p3), .val (.ref b150), .val (.ref kd), .val (.int kl), .val (.int sn.toInt32), .val (.int tl), .val (.int md), .val (.int k0), .val (.int k1), .val (.int k2), .val (.ref b271), .val (.ref b287), .unset, .unset, .unset, .unset, .unset, .unset, .unset, .unset]) W289.here hx (hb hby at_284) rfl rfl rfl ?_
    refine g_iconst (0 : Int32) (pc' := 287) W289.here hx (hb hby at_286) rfl rfl ?_
    refine w_newarr (pc' := 289) (cap := 0) W289 hx (hw _ (List.mem_of_getElem? w_25)) (hb hby at_287) (by decide) (Nat.le_refl _) (Nat.le_of_ble_eq_true rfl) (Nat.le_of_ble_eq_true rfl) (Nat.le_of_ble_eq_true rfl) rfl rfl fun T291 h291 b291 g291 W291 K291 V291 => ?_
    have z_K291 : h289.size ≤ h291.size := K291.1
    have ne_b150_b291 : b150 ≠ b291 := by omega
    have ne_b271_b291 : b271 ≠ b291 := by omega
    have ne_b287_b291 : b287 ≠ b291 := by omega
    have ne_sb290_b291 : sb290 ≠ b291 := by omega
    have lt_b291 : b291 < h291.size := W291.lt (List.mem_cons_self ..)
    have V291 : Ary Z h291 b291 .char [] := V291
    refine g_astore (pc' := 291) (Ls' := #[.val (.int p0), .val (.long p1), .second, .val (.long p2), .second, .val (.int p3), .val (.ref b150), .val (.ref kd), .val (.int kl), .val (.int sn.toInt32), .val (.int tl), .val (.int md), .val (.int k0), .val (.int k1), .val (.int k2), .val (.ref b271), .val (.ref b287), .val (.ref b291), .unset, .unset, .unset, .unset, .unset, .unset, .unset]) W291.here hx (hb hby at_289) rfl rfl rfl ?_
    refine g_iconst (1 : Int32) (pc' := 292) W291.here hx (hb hby at_291) rfl rfl ?_
    refine w_newarr (pc' := 294) (cap := 1) W291 hx (hw _ (List.mem_of_getElem? w_25)) (hb hby at_292) (by decide) (Nat.le_refl _) (Nat.le_of_ble_eq_true rfl) (Nat.le_of_ble_eq_true rfl) (Nat.le_of_ble_eq_true rfl) rfl rfl fun T292 h292 b292 g292 W292 K292 V292 => ?_
    have z_K292 : h291.size ≤ h292.size := K292.1
    have ne_b150_b292 : b150 ≠ b292 := by omega
    have ne_b271_b292 : b271 ≠ b292 := by omega
    have ne_b287_b292 : b287 ≠ b292 := by omega
    have ne_sb290_b292 : sb290 ≠ b292 := by omega
    have ne_b291_b292 : b291 ≠ b292 := by omega
    have lt_b292 : b292 < h292.size := W292.lt (List.mem_cons_self ..)
    have V292 : Ary Z h292 b292 .char [(.int (0 : Int32))] := V292
    refine g_dup (pc' := 295) W292.here hx (hb hby at_294) rfl rfl ?_
    refine g_iconst (0 : Int32) (pc' := 296) W292.here hx (hb hby at_295) rfl rfl ?_
    refine g_iload (pc' := 298) W292.here hx (hb hby at_296) rfl rfl ?_
    refine w_castore (pc' := 299) (x' := k0) W292 hx V292 (by decide) (Nat.lt_of_lt_of_le (Nat.lt_succ_self _) (Nat.le_of_ble_eq_true rfl)) (List.mem_of_getElem? (i := 0) rfl) (own_nchar r_k0) (hb hby at_298) rfl fun T293 h293 W293 K293 V293 => ?_
    have z_K293 : h292.size ≤ h293.size := K293.1
    have V293 : Ary Z h293 b292 .char [(.int k0)] := V293
    refine g_astore (pc' := 301) (Ls' := #[.val (.int p0), .val (.long p1), .second, .val (.long p2), .second, .val (.int p3), .val (.ref b150), .val (.ref kd), .val (.int kl), .val (.int sn.toInt32), .val (.int tl), .val (.int md), .val (.int k0), .val (.int k1), .val (.int k2), .val (.ref b271), .val (.ref b287), .val (.ref b291), .val (.ref b292), .unset, .unset, .unset, .unset, .unset, .unset]) W293.here hx (hb hby at_299) rfl rfl rfl ?_
    refine g_iconst (2 : Int32) (pc' := 302) W293.here hx (hb hby at_301) rfl rfl ?_
    refine w_newarr (pc' := 304) (cap := 2) W293 hx (hw _ (List.mem_of_getElem? w_25)) (hb hby at_302) (by decide) (Nat.le_refl _) (Nat.le_of_ble_eq_true rfl) (Nat.le_of_ble_eq_true rfl) (Nat.le_of_ble_eq_true rfl) rfl rfl fun T294 h294 b294 g294 W294 K294 V294 => ?_
    have z_K294 : h293.size ≤ h294.size := K294.1
    have ne_b150_b294 : b150 ≠ b294 := by omega
    have ne_b271_b294 : b271 ≠ b294 := by omega
    have ne_b287_b294 : b287 ≠ b294 := by omega
    have ne_sb290_b294 : sb290 ≠ b294 := by omega
    have ne_b291_b294 : b291 ≠ b294 := by omega
    have ne_b292_b294 : b292 ≠ b294 := by omega
    have lt_b294 : b294 < h294.size := W294.lt (List.mem_cons_self ..)
    have V294 : Ary Z h294 b294 .char [(.int (0 : Int32)), (.int (0 : Int32))] := V294
    refine g_dup (pc' := 305) W294.here hx (hb hby at_304) rfl rfl ?_
    refine g_iconst (0 : Int32) (pc' := 306) W294.here hx (hb hby at_305) rfl rfl ?_
    refine g_iload (pc' := 308) W294.here hx (hb hby at_306) rfl rfl ?_
    refine w_castore (pc' := 309) (x' := k0) W294 hx V294 (by decide) (Nat.lt_of_lt_of_le (Nat.lt_succ_self _) (Nat.le_of_ble_eq_true rfl)) (List.mem_of_getElem? (i := 0) rfl) (own_nchar r_k0) (hb hby at_308) rfl fun T295 h295 W295 K295 V295 => ?_
    have z_K295 : h294.size ≤ h295.size := K295.1
    have V295 : Ary Z h295 b294 .char [(.int k0), (.int (0 : Int32))] := V295
    refine g_dup (pc' := 310) W295.here hx (hb hby at_309) rfl rfl ?_
    refine g_iconst (1 : Int32) (pc' := 311) W295.here hx (hb hby at_310) rfl rfl ?_
    refine g_iload (pc' := 313) W295.here hx (hb hby at_311) rfl rfl ?_
    refine w_castore (pc' := 314) (x' := k1) W295 hx V295 (by decide) (Nat.lt_of_lt_of_le (Nat.lt_succ_self _) (Nat.le_of_ble_eq_true rfl)) (List.mem_of_getElem? (i := 0) rfl) (own_nchar r_k1) (hb hby at_313) rfl fun T296 h296 W296 K296 V296 => ?_
    have z_K296 : h295.size ≤ h296.size := K296.1
    have V296 : Ary Z h296 b294 .char [(.int k0), (.int k1)] := V296
    refine g_astore (pc' := 316) (Ls' := #[.val (.int p0), .val (.long p1), .second, .val (.long p2), .second, .val (.int p3), .val (.ref b150), .val (.ref kd), .val (.int kl), .val (.int sn.toInt32), .val (.int tl), .val (.int md), .val (.int k0), .val (.int k1), .val (.int k2), .val (.ref b271), .val (.ref b287), .val (.ref b291), .val (.ref b292), .val (.ref b294), .unset, .unset, .unset, .unset, .unset]) W296.here hx (hb hby at_314) rfl rfl rfl ?_
    refine g_iconst (3 : Int32) (pc' := 317) W296.here hx (hb hby at_316) rfl rfl ?_
    refine w_newarr (pc' := 319) (cap := 3) W296 hx (hw _ (List.mem_of_getElem? w_25)) (hb hby at_317) (by decide) (Nat.le_refl _) (Nat.le_of_ble_eq_true rfl) (Nat.le_of_ble_eq_true rfl) (Nat.le_of_ble_eq_true rfl) rfl rfl fun T297 h297 b297 g297 W297 K297 V297 => ?_
    have z_K297 : h296.size ≤ h297.size := K297.1
    have ne_b150_b297 : b150 ≠ b297 := by omega
    have ne_b271_b297 : b271 ≠ b297 := by omega
    have ne_b287_b297 : b287 ≠ b297 := by omega
    have ne_sb290_b297 : sb290 ≠ b297 := by omega
    have ne_b291_b297 : b291 ≠ b297 := by omega
    have ne_b292_b297 : b292 ≠ b297 := by omega
    have ne_b294_b297 : b294 ≠ b297 := by omega
    have lt_b297 : b297 < h297.size := W297.lt (List.mem_cons_self ..)
    have V297 : Ary Z h297 b297 .char [(.int (0 : Int32)), (.int (0 : Int32)), (.int (0 : Int32))] := V297
    refine g_dup (pc' := 320) W297.here hx (hb hby at_319) rfl rfl ?_
    refine g_iconst (0 : Int32) (pc' := 321) W297.here hx (hb hby at_320) rfl rfl ?_
    refine g_iload (pc' := 323) W297.here hx (hb hby at_321) rfl rfl ?_
    refine w_castore (pc' := 324) (x' := k0) W297 hx V297 (by decide) (Nat.lt_of_lt_of_le (Nat.lt_succ_self _) (Nat.le_of_ble_eq_true rfl)) (List.mem_of_getElem? (i := 0) rfl) (own_nchar r_k0) (hb hby at_323) rfl fun T298 h298 W298 K298 V298 => ?_
    have z_K298 : h297.size ≤ h298.size := K298.1
    have V298 : Ary Z h298 b297 .char [(.int k0), (.int (0 : Int32)), (.int (0 : Int32))] := V298
    refine g_dup (pc' := 325) W298.here hx (hb hby at_324) rfl rfl ?_
    refine g_iconst (1 : Int32) (pc' := 326) W298.here hx (hb hby at_325) rfl rfl ?_
    refine g_iload (pc' := 328) W298.here hx (hb hby at_326) rfl rfl ?_
    refine w_castore (pc' := 329) (x' := k1) W298 hx V298 (by decide) (Nat.lt_of_lt_of_le (Nat.lt_succ_self _) (Nat.le_of_ble_eq_true rfl)) (List.mem_of_getElem? (i := 0) rfl) (own_nchar r_k1) (hb hby at_328) rfl fun T299 h299 W299 K299 V299 => ?_
    have z_K299 : h298.size ≤ h299.size := K299.1
    have V299 : Ary Z h299 b297 .char [(.int k0), (.int k1), (.int (0 : Int32))] := V299
    refine g_dup (pc' := 330) W299.here hx (hb hby at_329) rfl rfl ?_
    refine g_iconst (2 : Int32) (pc' := 331) W299.here hx (hb hby at_330) rfl rfl ?_
    refine g_iload (pc' := 333) W299.here hx (hb hby at_331) rfl rfl ?_
    refine w_castore (pc' := 334) (x' := k2) W299 hx V299 (by decide) (Nat.lt_of_lt_of_le (Nat.lt_succ_self _) (Nat.le_of_ble_eq_true rfl)) (List.mem_of_getElem? (i := 0) rfl) (own_nchar r_k2) (hb hby at_333) rfl fun T300 h300 W300 K300 V300 => ?_
    have z_K300 : h299.size ≤ h300.size := K300.1
    have V300 : Ary Z h300 b297 .char [(.int k0), (.int k1), (.int k2)] := V300
    refine g_astore (pc' := 336) (Ls' := #[.val (.int p0), .val (.long p1), .second, .val (.long p2), .second, .val (.int p3), .val (.ref b150), .val (.ref kd), .val (.int kl), .val (.int sn.toInt32), .val (.int tl), .val (.int md), .val (.int k0), .val (.int k1), .val (.int k2), .val (.ref b271), .val (.ref b287), .val (.ref b291), .val (.ref b292), .val (.ref b294), .val (.ref b297), .unset, .unset, .unset, .unset]) W300.here hx (hb hby at_334) rfl rfl rfl ?_
    refine g_iload (pc' := 338) W300.here hx (hb hby at_336) rfl rfl ?_
    by_cases hc338_301 : kl = (0 : Int32)
    · refine g_ifN (pc' := 341) W300.here hx (hb hby at_338) rfl (teq hc338_301).2 ?_
      refine w_new (pc' := 344) W300 hx (hw _ (List.mem_of_getElem? w_30)) (hw _ (List.mem_of_getElem? w_31)) (hw _ (List.mem_of_getElem? w_32)) (hb hby at_341) (Nat.le_of_ble_eq_true rfl) (Nat.le_of_ble_eq_true rfl) rfl fun T302 h302 b302 g302 W302 K302 A302 D302 => ?_
      have z_K302 : h300.size ≤ h302.size := K302.1
      have ne_b150_b302 : b150 ≠ b302 := by omega
      have ne_b271_b302 : b271 ≠ b302 := by omega
      have ne_b287_b302 : b287 ≠ b302 := by omega
      have ne_sb290_b302 : sb290 ≠ b302 := by omega
      have ne_b291_b302 : b291 ≠ b302 := by omega
      have ne_b292_b302 : b292 ≠ b302 := by omega
      have ne_b294_b302 : b294 ≠ b302 := by omega
      have ne_b297_b302 : b297 ≠ b302 := by omega
      have lt_b302 : b302 < h302.size := W302.lt (List.mem_cons_self ..)
      have F302_coder : Fld Z h302 b302 "java/lang/String" "coder" "B" (.int (0 : Int32)) := D302 (Or.inr (hw _ (List.mem_of_getElem? w_75))) (ty := .byte) (by decide)
      have F302_value : Fld Z h302 b302 "java/lang/String" "value" "[B" .null := D302 (Or.inr (hw _ (List.mem_of_getElem? w_77))) (ty := (.array .byte)) (by decide)
      refine g_dup (pc' := 345) W302.here hx (hb hby at_344) rfl rfl ?_
      refine g_aload (pc' := 347) W302.here hx (hb hby at_345) rfl rfl rfl ?_
      have c303 := ((((((((((V291.keep K292 nin0).keep K293 (ninS ne_b291_b292 nin0)).keep K294 nin0).keep K295 (ninS ne_b291_b294 nin0)).keep K296 (ninS ne_b291_b294 nin0)).keep K297 nin0).keep K298 (ninS ne_b291_b297 nin0)).keep K299 (ninS ne_b291_b297 nin0)).keep K300 (ninS ne_b291_b297 nin0)).keep K302 nin0)
      refine w_special (pc' := 350) (st := [(.ref b302)]) (y := (⟨"java/lang/String", "<init>", "([C)V"⟩ : MethodName)) (a := b302) W302 hx [(.ref b291)] rfl (hw _ (List.mem_of_getElem? w_33)) (hw _ (List.mem_of_getElem? w_34)) (hw _ (List.mem_of_getElem? w_32)) (hw _ (List.mem_of_getElem? w_35)) (by decide) (c_strC l Z a0 hw hE cc fm b302 b291 [] h302 W302.old G GU (Nat.le_of_ble_eq_true rfl) own_all0 c303 (by have := O.1; omega) A302 _ _ F302_coder F302_value (Ne.symm ne_b291_b302)) (allS (List.mem_of_getElem? (i := 0) rfl) all0) (by rw [hml]; rfl) (lenOf pd_18 rfl) rfl (hb hby at_347) (Nat.le_of_ble_eq_true rfl) (Nat.le_of_ble_eq_true rfl) (Nat.le_of_ble_eq_true rfl) (Nat.le_of_ble_eq_true rfl) rfl fun v304 T304 h304 W304 K304 Q304 => ?_
      have z_K304 : h302.size ≤ h304.size := K304.1
      obtain ⟨rfl, sb305, S305⟩ := Q304
      have ES305 := S305.exa
      have lt_sb305 : sb305 < h304.size := S305.ltb
      refine g_goto (pc' := 398) W304.here hx (hb hby at_350) rfl ?_
      have hkn : kl = (0 : Int32) := hc338_301
      refine g_astore (pc' := 400) (Ls' := #[.val (.int p0), .val (.long p1), .second, .val (.long p2), .second, .val (.int p3), .val (.ref b150), .val (.ref kd), .val (.int kl), .val (.int sn.toInt32), .val (.int tl), .val (.int md), .val (.int k0), .val (.int k1), .val (.int k2), .val (.ref b271), .val (.ref b287), .val (.ref b291), .val (.ref b292), .val (.ref b294), .val (.ref b297), .val (.ref b302), .unset, .unset, .unset]) W304.here hx (hb hby at_398) rfl rfl rfl ?_
      refine w_new (pc' := 403) W304 hx (hw _ (List.mem_of_getElem? w_81)) (hw _ (List.mem_of_getElem? w_82)) (hw _ (List.mem_of_getElem? w_83)) (hb hby at_400) (Nat.le_of_ble_eq_true rfl) (Nat.le_of_ble_eq_true rfl) rfl fun T306 h306 b306 g306 W306 K306 A306 D306 => ?_
      have z_K306 : h304.size ≤ h306.size := K306.1
      have ne_b150_b306 : b150 ≠ b306 := by omega
      have ne_b271_b306 : b271 ≠ b306 := by omega
      have ne_b287_b306 : b287 ≠ b306 := by omega
      have ne_sb290_b306 : sb290 ≠ b306 := by omega
      have ne_b291_b306 : b291 ≠ b306 := by omega
      have ne_b292_b306 : b292 ≠ b306 := by omega
      have ne_b294_b306 : b294 ≠ b306 := by omega
      have ne_b297_b306 : b297 ≠ b306 := by omega
      have ne_b302_b306 : b302 ≠ b306 := by omega
      have ne_sb305_b306 : sb305 ≠ b306 := by omega
      have lt_b306 : b306 < h306.size := W306.lt (List.mem_cons_self ..)
      have F306_kind : Fld Z h306 b306 "com/example/updatable_views/updatableviews/SqlToken" "kind" "Lcom/example/updatable_views/updatableviews/SqlToken$Kind;" .null := D306 (Or.inr (hw _ (List.mem_of_getElem? w_89))) (ty := (.object "com/example/updatable_views/updatableviews/SqlToken$Kind")) (by decide)
      have F306_start : Fld Z h306 b306 "com/example/updatable_views/updatableviews/SqlToken" "start" "I" (.int (0 : Int32)) := D306 (Or.inr (hw _ (List.mem_of_getElem? w_91))) (ty := .int) (by decide)
      have F306_end : Fld Z h306 b306 "com/example/updatable_views/updatableviews/SqlToken" "end" "I" (.int (0 : Int32)) := D306 (Or.inr (hw _ (List.mem_of_getElem? w_93))) (ty := .int) (by decide)
      refine g_dup (pc' := 404) W306.here hx (hb hby at_403) rfl rfl ?_
      refine g_aload (pc' := 406) W306.here hx (hb hby at_404) rfl rfl rfl ?_
      refine g_iload (pc' := 408) W306.here hx (hb hby at_406) rfl rfl ?_
      refine g_iload (pc' := 410) W306.here hx (hb hby at_408) rfl rfl ?_
      refine g_iload (pc' := 412) W306.here hx (hb hby at_410) rfl rfl ?_
      refine g_iadd (pc' := 413) W306.here hx (hb hby at_412) rfl ?_
      refine w_special (pc' := 416) (st := [(.ref b306)]) (y := (⟨"com/example/updatable_views/updatableviews/SqlToken", "<init>", "(Lcom/example/updatable_views/updatableviews/SqlToken$Kind;II)V"⟩ : MethodName)) (a := b306) W306 hx [(.ref kd), (.int sn.toInt32), (.int (sn.toInt32 + tl))] rfl (hw _ (List.mem_of_getElem? w_84)) (hw _ (List.mem_of_getElem? w_85)) (hw _ (List.mem_of_getElem? w_83)) (hw _ (List.mem_of_getElem? w_86)) (by decide) (c_tok l Z a0 hw hE b306 (.ref kd) sn.toInt32 (sn.toInt32 + tl) h306 W306.old (by have := O.1; omega) A306 rfl _ F306_kind _ F306_start _ F306_end) (allS (List.mem_of_getElem? (i := 0) rfl) all0) (by rw [hml]; rfl) (lenOf pd_19 rfl) rfl (hb hby at_413) (Nat.le_of_ble_eq_true rfl) (Nat.le_of_ble_eq_true rfl) (Nat.le_of_ble_eq_true rfl) (Nat.le_of_ble_eq_true rfl) rfl fun v307 T307 h307 W307 K307 Q307 => ?_
      have z_K307 : h306.size ≤ h307.size := K307.1
      obtain ⟨rfl, E308, F308_0, F308_1, F308_2⟩ := Q307
      refine g_astore (pc' := 418) (Ls' := #[.val (.int p0), .val (.long p1), .second, .val (.long p2), .second, .val (.int p3), .val (.ref b150), .val (.ref kd), .val (.int kl), .val (.int sn.toInt32), .val (.int tl), .val (.int md), .val (.int k0), .val (.int k1), .val (.int k2), .val (.ref b271), .val (.ref b287), .val (.ref b291), .val (.ref b292), .val (.ref b294), .val (.ref b297), .val (.ref b302), .val (.ref b306), .unset, .unset]) W307.here hx (hb hby at_416) rfl rfl rfl ?_
      refine g_aload (pc' := 420) W307.here hx (hb hby at_418) rfl rfl rfl ?_
      refine g_aload (pc' := 422) W307.here hx (hb hby at_420) rfl rfl rfl ?_
      refine g_aload (pc' := 424) W307.here hx (hb hby at_422) rfl rfl rfl ?_
      refine w_virtualp (pc' := 427) (st := []) (y := (⟨"com/example/updatable_views/updatableviews/SqlToken", "isKeyword", "(Ljava/lang/CharSequence;Ljava/lang/String;)Z"⟩ : MethodName)) (z := (⟨"com/example/updatable_views/updatableviews/SqlToken", "isKeyword", "(Ljava/lang/CharSequence;Ljava/lang/String;)Z"⟩ : MethodName)) (a := b306) W307 hx [(.ref b287), (.ref b302)] (hw _ (List.mem_of_getElem? w_94)) (hw _ (List.mem_of_getElem? w_95)) (nfS (z := (⟨"com/example/updatable_views/updatableviews/SqlToken", "isKeyword", "(Ljava/lang/CharSequence;Ljava/lang/String;)Z"⟩ : MethodName)) (hw _ (List.mem_of_getElem? w_97))) (hw _ (List.mem_of_getElem? w_97)) (hw _ (List.mem_of_getElem? w_96)) (hw _ (List.mem_of_getElem? w_83)) (hw _ (List.mem_of_getElem? w_98)) (by decide) (c_isKwN l Z a0 hw hE kW kd b306 b287 b302 sn (sn.toInt32 + tl) h307 W307.old S_kW nek F308_0 F308_1 F308_2) E308 (by rw [hml]; rfl) (lenOf pd_20 rfl) rfl (hb hby at_424) (Nat.le_of_ble_eq_true rfl) (Nat.le_of_ble_eq_true rfl) rfl rfl (Nat.le_of_ble_eq_true rfl) (Nat.le_of_ble_eq_true rfl) rfl fun T309 W309 => ?_
      refine g_istore (pc' := 429) (Ls' := #[.val (.int p0), .val (.long p1), .second, .val (.long p2), .second, .val (.int p3), .val (.ref b150), .val (.ref kd), .val (.int kl), .val (.int sn.toInt32), .val (.int tl), .val (.int md), .val (.int k0), .val (.int k1), .val (.int k2), .val (.ref b271), .val (.ref b287), .val (.ref b291), .val (.ref b292), .val (.ref b294), .val (.ref b297), .val (.ref b302), .val (.ref b306), .val (.int (0 : Int32)), .unset]) W309.here hx (hb hby at_427) rfl rfl ?_
      refine g_aload (pc' := 431) W309.here hx (hb hby at_429) rfl rfl rfl ?_
      refine w_getS (pc' := 434) W309 hx (hw _ (List.mem_of_getElem? w_2)) Via.refl S_kW (hb hby at_431) rfl fun T310 W310 => ?_
      refine w_acmp (pc' := 509) W310 hx rfl rfl false (hb hby at_434) (decide_eq_false fun q => nek (Value.ref.inj q)) (by decide) (by decide) ?_
      refine g_iconst (0 : Int32) (pc' := 510) W310.here hx (hb hby at_509) rfl rfl ?_
      refine g_istore (pc' := 512) (Ls' := #[.val (.int p0), .val (.long p1), .second, .val (.long p2), .second, .val (.int p3), .val (.ref b150), .val (.ref kd), .val (.int kl), .val (.int sn.toInt32), .val (.int tl), .val (.int md), .val (.int k0), .val (.int k1), .val (.int k2), .val (.ref b271), .val (.ref b287), .val (.ref b291), .val (.ref b292), .val (.ref b294), .val (.ref b297), .val (.ref b302), .val (.ref b306), .val (.int (0 : Int32)), .val (.int (0 : Int32))]) W310.here hx (hb hby at_510) rfl rfl ?_
      refine g_iload (pc' := 514) W310.here hx (hb hby at_512) rfl rfl ?_
      refine g_iload (pc' := 516) W310.here hx (hb hby at_514) rfl rfl ?_
      refine g_icmpN (pc' := 519) W310.here hx (hb hby at_516) rfl (teq (show (0 : Int32) = (0 : Int32) from (by decide))).2 ?_
      refine g_iconst (1 : Int32) (pc' := 520) W310.here hx (hb hby at_519) rfl rfl ?_
      refine g_goto (pc' := 524) W310.here hx (hb hby at_520) rfl ?_
      refine w_retN (t := .boolean) W310 hx hh hlk hret (by simp) (hb hby at_524) (Nat.le_of_ble_eq_true rfl) (Nat.le_of_ble_eq_true rfl) ?_
      exact rfl
    · refine g_ifY (pc' := 353) W300.here hx (hb hby at_338) rfl (feq hc338_301).2 ?_
      refine g_iload (pc' := 355) W300.here hx (hb hby at_353) rfl rfl ?_
      refine g_iconst (1 : Int32) (pc' := 356) W300.here hx (hb hby at_355) rfl rfl ?_
      by_cases hc356_311 : kl = (1 : Int32)
      · refine g_icmpN (pc' := 359) W300.here hx (hb hby at_356) rfl (teq hc356_311).2 ?_
        refine w_new (pc' := 362) W300 hx (hw _ (List.mem_of_getElem? w_30)) (hw _ (List.mem_of_getElem? w_31)) (hw _ (List.mem_of_getElem? w_32)) (hb hby at_359) (Nat.le_of_ble_eq_true rfl) (Nat.le_of_ble_eq_true rfl) rfl fun T312 h312 b312 g312 W312 K312 A312 D312 => ?_
        have z_K312 : h300.size ≤ h312.size := K312.1
        have ne_b150_b312 : b150 ≠ b312 := by omega
        have ne_b271_b312 : b271 ≠ b312 := by omega
        have ne_b287_b312 : b287 ≠ b312 := by omega
        have ne_sb290_b312 : sb290 ≠ b312 := by omega
        have ne_b291_b312 : b291 ≠ b312 := by omega
        have ne_b292_b312 : b292 ≠ b312 := by omega
        have ne_b294_b312 : b294 ≠ b312 := by omega
        have ne_b297_b312 : b297 ≠ b312 := by omega
        have lt_b312 : b312 < h312.size := W312.lt (List.mem_cons_self ..)
        have F312_coder : Fld Z h312 b312 "java/lang/String" "coder" "B" (.int (0 : Int32)) := D312 (Or.inr (hw _ (List.mem_of_getElem? w_75))) (ty := .byte) (by decide)
        have F312_value : Fld Z h312 b312 "java/lang/String" "value" "[B" .null := D312 (Or.inr (hw _ (List.mem_of_getElem? w_77))) (ty := (.array .byte)) (by decide)
        refine g_dup (pc' := 363) W312.here hx (hb hby at_362) rfl rfl ?_
        refine g_aload (pc' := 365) W312.here hx (hb hby at_363) rfl rfl rfl ?_
        have c313 := ((((((((V293.keep K294 nin0).keep K295 (ninS ne_b292_b294 nin0)).keep K296 (ninS ne_b292_b294 nin0)).keep K297 nin0).keep K298 (ninS ne_b292_b297 nin0)).keep K299 (ninS ne_b292_b297 nin0)).keep K300 (ninS ne_b292_b297 nin0)).keep K312 nin0)
        refine w_special (pc' := 368) (st := [(.ref b312)]) (y := (⟨"java/lang/String", "<init>", "([C)V"⟩ : MethodName)) (a := b312) W312 hx [(.ref b292)] rfl (hw _ (List.mem_of_getElem? w_33)) (hw _ (List.mem_of_getElem? w_34)) (hw _ (List.mem_of_getElem? w_32)) (hw _ (List.mem_of_getElem? w_35)) (by decide) (c_strC l Z a0 hw hE cc fm b312 b292 [k0] h312 W312.old G GU (Nat.le_of_ble_eq_true rfl) (own_allS r_k0 own_all0) c313 (by have := O.1; omega) A312 _ _ F312_coder F312_value (Ne.symm ne_b292_b312)) (allS (List.mem_of_getElem? (i := 0) rfl) all0) (by rw [hml]; rfl) (lenOf pd_18 rfl) rfl (hb hby at_365) (Nat.le_of_ble_eq_true rfl) (Nat.le_of_ble_eq_true rfl) (Nat.le_of_ble_eq_true rfl) (Nat.le_of_ble_eq_true rfl) rfl fun v314 T314 h314 W314 K314 Q314 => ?_
        have z_K314 : h312.size ≤ h314.size := K314.1
        obtain ⟨rfl, sb315, S315⟩ := Q314
        have ES315 := S315.exa
        have lt_sb315 : sb315 < h314.size := S315.ltb
        refine g_goto (pc' := 398) W314.here hx (hb hby at_368) rfl ?_
        have hkn : kl = (1 : Int32) := hc356_311
        refine g_astore (pc' := 400) (Ls' := #[.val (.int p0), .val (.long p1), .second, .val (.long p2), .second, .val (.int p3), .val (.ref b150), .val (.ref kd), .val (.int kl), .val (.int sn.toInt32), .val (.int tl), .val (.int md), .val (.int k0), .val (.int k1), .val (.int k2), .val (.ref b271), .val (.ref b287), .val (.ref b291), .val (.ref b292), .val (.ref b294), .val (.ref b297), .val (.ref b312), .unset, .unset, .unset]) W314.here hx (hb hby at_398) rfl rfl rfl ?_
        refine w_new (pc' := 403) W314 hx (hw _ (List.mem_of_getElem? w_81)) (hw _ (List.mem_of_getElem? w_82)) (hw _ (List.mem_of_getElem? w_83)) (hb hby at_400) (Nat.le_of_ble_eq_true rfl) (Nat.le_of_ble_eq_true rfl) rfl fun T316 h316 b316 g316 W316 K316 A316 D316 => ?_
        have z_K316 : h314.size ≤ h316.size := K316.1
        have ne_b150_b316 : b150 ≠ b316 := by omega
        have ne_b271_b316 : b271 ≠ b316 := by omega
        have ne_b287_b316 : b287 ≠ b316 := by omega
        have ne_sb290_b316 : sb290 ≠ b316 := by omega
        have ne_b291_b316 : b291 ≠ b316 := by omega
        have ne_b292_b316 : b292 ≠ b316 := by omega
        have ne_b294_b316 : b294 ≠ b316 := by omega
        have ne_b297_b316 : b297 ≠ b316 := by omega
        have ne_b312_b316 : b312 ≠ b316 := by omega
        have ne_sb315_b316 : sb315 ≠ b316 := by omega
        have lt_b316 : b316 < h316.size := W316.lt (List.mem_cons_self ..)
        have F316_kind : Fld Z h316 b316 "com/example/updatable_views/updatableviews/SqlToken" "kind" "Lcom/example/updatable_views/updatableviews/SqlToken$Kind;" .null := D316 (Or.inr (hw _ (List.mem_of_getElem? w_89))) (ty := (.object "com/example/updatable_views/updatableviews/SqlToken$Kind")) (by decide)
        have F316_start : Fld Z h316 b316 "com/example/updatable_views/updatableviews/SqlToken" "start" "I" (.int (0 : Int32)) := D316 (Or.inr (hw _ (List.mem_of_getElem? w_91))) (ty := .int) (by decide)
        have F316_end : Fld Z h316 b316 "com/example/updatable_views/updatableviews/SqlToken" "end" "I" (.int (0 : Int32)) := D316 (Or.inr (hw _ (List.mem_of_getElem? w_93))) (ty := .int) (by decide)
        refine g_dup (pc' := 404) W316.here hx (hb hby at_403) rfl rfl ?_
        refine g_aload (pc' := 406) W316.here hx (hb hby at_404) rfl rfl rfl ?_
        refine g_iload (pc' := 408) W316.here hx (hb hby at_406) rfl rfl ?_
        refine g_iload (pc' := 410) W316.here hx (hb hby at_408) rfl rfl ?_
        refine g_iload (pc' := 412) W316.here hx (hb hby at_410) rfl rfl ?_
        refine g_iadd (pc' := 413) W316.here hx (hb hby at_412) rfl ?_
        refine w_special (pc' := 416) (st := [(.ref b316)]) (y := (⟨"com/example/updatable_views/updatableviews/SqlToken", "<init>", "(Lcom/example/updatable_views/updatableviews/SqlToken$Kind;II)V"⟩ : MethodName)) (a := b316) W316 hx [(.ref kd), (.int sn.toInt32), (.int (sn.toInt32 + tl))] rfl (hw _ (List.mem_of_getElem? w_84)) (hw _ (List.mem_of_getElem? w_85)) (hw _ (List.mem_of_getElem? w_83)) (hw _ (List.mem_of_getElem? w_86)) (by decide) (c_tok l Z a0 hw hE b316 (.ref kd) sn.toInt32 (sn.toInt32 + tl) h316 W316.old (by have := O.1; omega) A316 rfl _ F316_kind _ F316_start _ F316_end) (allS (List.mem_of_getElem? (i := 0) rfl) all0) (by rw [hml]; rfl) (lenOf pd_19 rfl) rfl (hb hby at_413) (Nat.le_of_ble_eq_true rfl) (Nat.le_of_ble_eq_true rfl) (Nat.le_of_ble_eq_true rfl) (Nat.le_of_ble_eq_true rfl) rfl fun v317 T317 h317 W317 K317 Q317 => ?_
        have z_K317 : h316.size ≤ h317.size := K317.1
        obtain ⟨rfl, E318, F318_0, F318_1, F318_2⟩ := Q317
        refine g_astore (pc' := 418) (Ls' := #[.val (.int p0), .val (.long p1), .second, .val (.long p2), .second, .val (.int p3), .val (.ref b150), .val (.ref kd), .val (.int kl), .val (.int sn.toInt32), .val (.int tl), .val (.int md), .val (.int k0), .val (.int k1), .val (.int k2), .val (.ref b271), .val (.ref b287), .val (.ref b291), .val (.ref b292), .val (.ref b294), .val (.ref b297), .val (.ref b312), .val (.ref b316), .unset, .unset]) W317.here hx (hb hby at_416) rfl rfl rfl ?_
        refine g_aload (pc' := 420) W317.here hx (hb hby at_418) rfl rfl rfl ?_
        refine g_aload (pc' := 422) W317.here hx (hb hby at_420) rfl rfl rfl ?_
        refine g_aload (pc' := 424) W317.here hx (hb hby at_422) rfl rfl rfl ?_
        refine w_virtualp (pc' := 427) (st := []) (y := (⟨"com/example/updatable_views/updatableviews/SqlToken", "isKeyword", "(Ljava/lang/CharSequence;Ljava/lang/String;)Z"⟩ : MethodName)) (z := (⟨"com/example/updatable_views/updatableviews/SqlToken", "isKeyword", "(Ljava/lang/CharSequence;Ljava/lang/String;)Z"⟩ : MethodName)) (a := b316) W317 hx [(.ref b287), (.ref b312)] (hw _ (List.mem_of_getElem? w_94)) (hw _ (List.mem_of_getElem? w_95)) (nfS (z := (⟨"com/example/updatable_views/updatableviews/SqlToken", "isKeyword", "(Ljava/lang/CharSequence;Ljava/lang/String;)Z"⟩ : MethodName)) (hw _ (List.mem_of_getElem? w_97))) (hw _ (List.mem_of_getElem? w_97)) (hw _ (List.mem_of_getElem? w_96)) (hw _ (List.mem_of_getElem? w_83)) (hw _ (List.mem_of_getElem? w_98)) (by decide) (c_isKwN l Z a0 hw hE kW kd b316 b287 b312 sn (sn.toInt32 + tl) h317 W317.old S_kW nek F318_0 F318_1 F318_2) E318 (by rw [hml]; rfl) (lenOf pd_20 rfl) rfl (hb hby at_424) (Nat.le_of_ble_eq_true rfl) (Nat.le_of_ble_eq_true rfl) rfl rfl (Nat.le_of_ble_eq_true rfl) (Nat.le_of_ble_eq_true rfl) rfl fun T319 W319 => ?_
        refine g_istore (pc' := 429) (Ls' := #[.val (.int p0), .val (.long p1), .second, .val (.long p2), .second, .val (.int p3), .val (.ref b150), .val (.ref kd), .val (.int kl), .val (.int sn.toInt32), .val (.int tl), .val (.int md), .val (.int k0), .val (.int k1), .val (.int k2), .val (.ref b271), .val (.ref b287), .val (.ref b291), .val (.ref b292), .val (.ref b294), .val (.ref b297), .val (.ref b312), .val (.ref b316), .val (.int (0 : Int32)), .unset]) W319.here hx (hb hby at_427) rfl rfl ?_
        refine g_aload (pc' := 431) W319.here hx (hb hby at_429) rfl rfl rfl ?_
        refine w_getS (pc' := 434) W319 hx (hw _ (List.mem_of_getElem? w_2)) Via.refl S_kW (hb hby at_431) rfl fun T320 W320 => ?_
        refine w_acmp (pc' := 509) W320 hx rfl rfl false (hb hby at_434) (decide_eq_false fun q => nek (Value.ref.inj q)) (by decide) (by decide) ?_
        refine g_iconst (0 : Int32) (pc' := 510) W320.here hx (hb hby at_509) rfl rfl ?_
        refine g_istore (pc' := 512) (Ls' := #[.val (.int p0), .val (.long p1), .second, .val (.long p2), .second, .val (.int p3), .val (.ref b150), .val (.ref kd), .val (.int kl), .val (.int sn.toInt32), .val (.int tl), .val (.int md), .val (.int k0), .val (.int k1), .val (.int k2), .val (.ref b271), .val (.ref b287), .val (.ref b291), .val (.ref b292), .val (.ref b294), .val (.ref b297), .val (.ref b312), .val (.ref b316), .val (.int (0 : Int32)), .val (.int (0 : Int32))]) W320.here hx (hb hby at_510) rfl rfl ?_
        refine g_iload (pc' := 514) W320.here hx (hb hby at_512) rfl rfl ?_
        refine g_iload (pc' := 516) W320.here hx (hb hby at_514) rfl rfl ?_
        refine g_icmpN (pc' := 519) W320.here hx (hb hby at_516) rfl (teq (show (0 : Int32) = (0 : Int32) from (by decide))).2 ?_
        refine g_iconst (1 : Int32) (pc' := 520) W320.here hx (hb hby at_519) rfl rfl ?_
        refine g_goto (pc' := 524) W320.here hx (hb hby at_520) rfl ?_
        refine w_retN (t := .boolean) W320 hx hh hlk hret (by simp) (hb hby at_524) (Nat.le_of_ble_eq_true rfl) (Nat.le_of_ble_eq_true rfl) ?_
        exact rfl
      · refine g_icmpY (pc' := 371) W300.here hx (hb hby at_356) rfl (feq hc356_311).2 ?_
        refine g_iload (pc' := 373) W300.here hx (hb hby at_371) rfl rfl ?_
        refine g_iconst (2 : Int32) (pc' := 374) W300.here hx (hb hby at_373) rfl rfl ?_
        by_cases hc374_321 : kl = (2 : Int32)
        · refine g_icmpN (pc' := 377) W300.here hx (hb hby at_374) rfl (teq hc374_321).2 ?_
          refine w_new (pc' := 380) W300 hx (hw _ (List.mem_of_getElem? w_30)) (hw _ (List.mem_of_getElem? w_31)) (hw _ (List.mem_of_getElem? w_32)) (hb hby at_377) (Nat.le_of_ble_eq_true rfl) (Nat.le_of_ble_eq_true rfl) rfl fun T322 h322 b322 g322 W322 K322 A322 D322 => ?_
          have z_K322 : h300.size ≤ h322.size := K322.1
          have ne_b150_b322 : b150 ≠ b322 := by omega
          have ne_b271_b322 : b271 ≠ b322 := by omega
          have ne_b287_b322 : b287 ≠ b322 := by omega
          have ne_sb290_b322 : sb290 ≠ b322 := by omega
          have ne_b291_b322 : b291 ≠ b322 := by omega
          have ne_b292_b322 : b292 ≠ b322 := by omega
          have ne_b294_b322 : b294 ≠ b322 := by omega
          have ne_b297_b322 : b297 ≠ b322 := by omega
          have lt_b322 : b322 < h322.size := W322.lt (List.mem_cons_self ..)
          have F322_coder : Fld Z h322 b322 "java/lang/String" "coder" "B" (.int (0 : Int32)) := D322 (Or.inr (hw _ (List.mem_of_getElem? w_75))) (ty := .byte) (by decide)
          have F322_value : Fld Z h322 b322 "java/lang/String" "value" "[B" .null := D322 (Or.inr (hw _ (List.mem_of_getElem? w_77))) (ty := (.array .byte)) (by decide)
          refine g_dup (pc' := 381) W322.here hx (hb hby at_380) rfl rfl ?_
          refine g_aload (pc' := 383) W322.here hx (hb hby at_381) rfl rfl rfl ?_
          have c323 := (((((V296.keep K297 nin0).keep K298 (ninS ne_b294_b297 nin0)).keep K299 (ninS ne_b294_b297 nin0)).keep K300 (ninS ne_b294_b297 nin0)).keep K322 nin0)
          refine w_special (pc' := 386) (st := [(.ref b322)]) (y := (⟨"java/lang/String", "<init>", "([C)V"⟩ : MethodName)) (a := b322) W322 hx [(.ref b294)] rfl (hw _ (List.mem_of_getElem? w_33)) (hw _ (List.mem_of_getElem? w_34)) (hw _ (List.mem_of_getElem? w_32)) (hw _ (List.mem_of_getElem? w_35)) (by decide) (c_strC l Z a0 hw hE cc fm b322 b294 [k0, k1] h322 W322.old G GU (Nat.le_of_ble_eq_true rfl) (own_allS r_k0 (own_allS r_k1 own_all0)) c323 (by have := O.1; omega) A322 _ _ F322_coder F322_value (Ne.symm ne_b294_b322)) (allS (List.mem_of_getElem? (i := 0) rfl) all0) (by rw [hml]; rfl) (lenOf pd_18 rfl) rfl (hb hby at_383) (Nat.le_of_ble_eq_true rfl) (Nat.le_of_ble_eq_true rfl) (Nat.le_of_ble_eq_true rfl) (Nat.le_of_ble_eq_true rfl) rfl fun v324 T324 h324 W324 K324 Q324 => ?_
          have z_K324 : h322.size ≤ h324.size := K324.1
          obtain ⟨rfl, sb325, S325⟩ := Q324
          have ES325 := S325.exa
          have lt_sb325 : sb325 < h324.size := S325.ltb
          refine g_goto (pc' := 398) W324.here hx (hb hby at_386) rfl ?_
          have hkn : kl = (2 : Int32) := hc374_321
          refine g_astore (pc' := 400) (Ls' := #[.val (.int p0), .val (.long p1), .second, .val (.long p2), .second, .val (.int p3), .val (.ref b150), .val (.ref kd), .val (.int kl), .val (.int sn.toInt32), .val (.int tl), .val (.int md), .val (.int k0), .val (.int k1), .val (.int k2), .val (.ref b271), .val (.ref b287), .val (.ref b291), .val (.ref b292), .val (.ref b294), .val (.ref b297), .val (.ref b322), .unset, .unset, .unset]) W324.here hx (hb hby at_398) rfl rfl rfl ?_
          refine w_new (pc' := 403) W324 hx (hw _ (List.mem_of_getElem? w_81)) (hw _ (List.mem_of_getElem? w_82)) (hw _ (List.mem_of_getElem? w_83)) (hb hby at_400) (Nat.le_of_ble_eq_true rfl) (Nat.le_of_ble_eq_true rfl) rfl fun T326 h326 b326 g326 W326 K326 A326 D326 => ?_
          have z_K326 : h324.size ≤ h326.size := K326.1
          have ne_b150_b326 : b150 ≠ b326 := by omega
          have ne_b271_b326 : b271 ≠ b326 := by omega
          have ne_b287_b326 : b287 ≠ b326 := by omega
          have ne_sb290_b326 : sb290 ≠ b326 := by omega
          have ne_b291_b326 : b291 ≠ b326 := by omega
          have ne_b292_b326 : b292 ≠ b326 := by omega
          have ne_b294_b326 : b294 ≠ b326 := by omega
          have ne_b297_b326 : b297 ≠ b326 := by omega
          have ne_b322_b326 : b322 ≠ b326 := by omega
          have ne_sb325_b326 : sb325 ≠ b326 := by omega
          have lt_b326 : b326 < h326.size := W326.lt (List.mem_cons_self ..)
          have F326_kind : Fld Z h326 b326 "com/example/updatable_views/updatableviews/SqlToken" "kind" "Lcom/example/updatable_views/updatableviews/SqlToken$Kind;" .null := D326 (Or.inr (hw _ (List.mem_of_getElem? w_89))) (ty := (.object "com/example/updatable_views/updatableviews/SqlToken$Kind")) (by decide)
          have F326_start : Fld Z h326 b326 "com/example/updatable_views/updatableviews/SqlToken" "start" "I" (.int (0 : Int32)) := D326 (Or.inr (hw _ (List.mem_of_getElem? w_91))) (ty := .int) (by decide)
          have F326_end : Fld Z h326 b326 "com/example/updatable_views/updatableviews/SqlToken" "end" "I" (.int (0 : Int32)) := D326 (Or.inr (hw _ (List.mem_of_getElem? w_93))) (ty := .int) (by decide)
          refine g_dup (pc' := 404) W326.here hx (hb hby at_403) rfl rfl ?_
          refine g_aload (pc' := 406) W326.here hx (hb hby at_404) rfl rfl rfl ?_
          refine g_iload (pc' := 408) W326.here hx (hb hby at_406) rfl rfl ?_
          refine g_iload (pc' := 410) W326.here hx (hb hby at_408) rfl rfl ?_
          refine g_iload (pc' := 412) W326.here hx (hb hby at_410) rfl rfl ?_
          refine g_iadd (pc' := 413) W326.here hx (hb hby at_412) rfl ?_
          refine w_special (pc' := 416) (st := [(.ref b326)]) (y := (⟨"com/example/updatable_views/updatableviews/SqlToken", "<init>", "(Lcom/example/updatable_views/updatableviews/SqlToken$Kind;II)V"⟩ : MethodName)) (a := b326) W326 hx [(.ref kd), (.int sn.toInt32), (.int (sn.toInt32 + tl))] rfl (hw _ (List.mem_of_getElem? w_84)) (hw _ (List.mem_of_getElem? w_85)) (hw _ (List.mem_of_getElem? w_83)) (hw _ (List.mem_of_getElem? w_86)) (by decide) (c_tok l Z a0 hw hE b326 (.ref kd) sn.toInt32 (sn.toInt32 + tl) h326 W326.old (by have := O.1; omega) A326 rfl _ F326_kind _ F326_start _ F326_end) (allS (List.mem_of_getElem? (i := 0) rfl) all0) (by rw [hml]; rfl) (lenOf pd_19 rfl) rfl (hb hby at_413) (Nat.le_of_ble_eq_true rfl) (Nat.le_of_ble_eq_true rfl) (Nat.le_of_ble_eq_true rfl) (Nat.le_of_ble_eq_true rfl) rfl fun v327 T327 h327 W327 K327 Q327 => ?_
          have z_K327 : h326.size ≤ h327.size := K327.1
          obtain ⟨rfl, E328, F328_0, F328_1, F328_2⟩ := Q327
          refine g_astore (pc' := 418) (Ls' := #[.val (.int p0), .val (.long p1), .second, .val (.long p2), .second, .val (.int p3), .val (.ref b150), .val (.ref kd), .val (.int kl), .val (.int sn.toInt32), .val (.int tl), .val (.int md), .val (.int k0), .val (.int k1), .val (.int k2), .val (.ref b271), .val (.ref b287), .val (.ref b291), .val (.ref b292), .val (.ref b294), .val (.ref b297), .val (.ref b322), .val (.ref b326), .unset, .unset]) W327.here hx (hb hby at_416) rfl rfl rfl ?_
          refine g_aload (pc' := 420) W327.here hx (hb hby at_418) rfl rfl rfl ?_
          refine g_aload (pc' := 422) W327.here hx (hb hby at_420) rfl rfl rfl ?_
          refine g_aload (pc' := 424) W327.here hx (hb hby at_422) rfl rfl rfl ?_
          refine w_virtualp (pc' := 427) (st := []) (y := (⟨"com/example/updatable_views/updatableviews/SqlToken", "isKeyword", "(Ljava/lang/CharSequence;Ljava/lang/String;)Z"⟩ : MethodName)) (z := (⟨"com/example/updatable_views/updatableviews/SqlToken", "isKeyword", "(Ljava/lang/CharSequence;Ljava/lang/String;)Z"⟩ : MethodName)) (a := b326) W327 hx [(.ref b287), (.ref b322)] (hw _ (List.mem_of_getElem? w_94)) (hw _ (List.mem_of_getElem? w_95)) (nfS (z := (⟨"com/example/updatable_views/updatableviews/SqlToken", "isKeyword", "(Ljava/lang/CharSequence;Ljava/lang/String;)Z"⟩ : MethodName)) (hw _ (List.mem_of_getElem? w_97))) (hw _ (List.mem_of_getElem? w_97)) (hw _ (List.mem_of_getElem? w_96)) (hw _ (List.mem_of_getElem? w_83)) (hw _ (List.mem_of_getElem? w_98)) (by decide) (c_isKwN l Z a0 hw hE kW kd b326 b287 b322 sn (sn.toInt32 + tl) h327 W327.old S_kW nek F328_0 F328_1 F328_2) E328 (by rw [hml]; rfl) (lenOf pd_20 rfl) rfl (hb hby at_424) (Nat.le_of_ble_eq_true rfl) (Nat.le_of_ble_eq_true rfl) rfl rfl (Nat.le_of_ble_eq_true rfl) (Nat.le_of_ble_eq_true rfl) rfl fun T329 W329 => ?_
          refine g_istore (pc' := 429) (Ls' := #[.val (.int p0), .val (.long p1), .second, .val (.long p2), .second, .val (.int p3), .val (.ref b150), .val (.ref kd), .val (.int kl), .val (.int sn.toInt32), .val (.int tl), .val (.int md), .val (.int k0), .val (.int k1), .val (.int k2), .val (.ref b271), .val (.ref b287), .val (.ref b291), .val (.ref b292), .val (.ref b294), .val (.ref b297), .val (.ref b322), .val (.ref b326), .val (.int (0 : Int32)), .unset]) W329.here hx (hb hby at_427) rfl rfl ?_
          refine g_aload (pc' := 431) W329.here hx (hb hby at_429) rfl rfl rfl ?_
          refine w_getS (pc' := 434) W329 hx (hw _ (List.mem_of_getElem? w_2)) Via.refl S_kW (hb hby at_431) rfl fun T330 W330 => ?_
          refine w_acmp (pc' := 509) W330 hx rfl rfl false (hb hby at_434) (decide_eq_false fun q => nek (Value.ref.inj q)) (by decide) (by decide) ?_
          refine g_iconst (0 : Int32) (pc' := 510) W330.here hx (hb hby at_509) rfl rfl ?_
          refine g_istore (pc' := 512) (Ls' := #[.val (.int p0), .val (.long p1), .second, .val (.long p2), .second, .val (.int p3), .val (.ref b150), .val (.ref kd), .val (.int kl), .val (.int sn.toInt32), .val (.int tl), .val (.int md), .val (.int k0), .val (.int k1), .val (.int k2), .val (.ref b271), .val (.ref b287), .val (.ref b291), .val (.ref b292), .val (.ref b294), .val (.ref b297), .val (.ref b322), .val (.ref b326), .val (.int (0 : Int32)), .val (.int (0 : Int32))]) W330.here hx (hb hby at_510) rfl rfl ?_
          refine g_iload (pc' := 514) W330.here hx (hb hby at_512) rfl rfl ?_
          refine g_iload (pc' := 516) W330.here hx (hb hby at_514) rfl rfl ?_
          refine g_icmpN (pc' := 519) W330.here hx (hb hby at_516) rfl (teq (show (0 : Int32) = (0 : Int32) from (by decide))).2 ?_
          refine g_iconst (1 : Int32) (pc' := 520) W330.here hx (hb hby at_519) rfl rfl ?_
          refine g_goto (pc' := 524) W330.here hx (hb hby at_520) rfl ?_
          refine w_retN (t := .boolean) W330 hx hh hlk hret (by simp) (hb hby at_524) (Nat.le_of_ble_eq_true rfl) (Nat.le_of_ble_eq_true rfl) ?_
          exact rfl
        · refine g_icmpY (pc' := 389) W300.here hx (hb hby at_374) rfl (feq hc374_321).2 ?_
          refine w_new (pc' := 392) W300 hx (hw _ (List.mem_of_getElem? w_30)) (hw _ (List.mem_of_getElem? w_31)) (hw _ (List.mem_of_getElem? w_32)) (hb hby at_389) (Nat.le_of_ble_eq_true rfl) (Nat.le_of_ble_eq_true rfl) rfl fun T331 h331 b331 g331 W331 K331 A331 D331 => ?_
          have z_K331 : h300.size ≤ h331.size := K331.1
          have ne_b150_b331 : b150 ≠ b331 := by omega
          have ne_b271_b331 : b271 ≠ b331 := by omega
          have ne_b287_b331 : b287 ≠ b331 := by omega
          have ne_sb290_b331 : sb290 ≠ b331 := by omega
          have ne_b291_b331 : b291 ≠ b331 := by omega
          have ne_b292_b331 : b292 ≠ b331 := by omega
          have ne_b294_b331 : b294 ≠ b331 := by omega
          have ne_b297_b331 : b297 ≠ b331 := by omega
          have lt_b331 : b331 < h331.size := W331.lt (List.mem_cons_self ..)
          have F331_coder : Fld Z h331 b331 "java/lang/String" "coder" "B" (.int (0 : Int32)) := D331 (Or.inr (hw _ (List.mem_of_getElem? w_75))) (ty := .byte) (by decide)
          have F331_value : Fld Z h331 b331 "java/lang/String" "value" "[B" .null := D331 (Or.inr (hw _ (List.mem_of_getElem? w_77))) (ty := (.array .byte)) (by decide)
          refine g_dup (pc' := 393) W331.here hx (hb hby at_392) rfl rfl ?_
          refine g_aload (pc' := 395) W331.here hx (hb hby at_393) rfl rfl rfl ?_
          have c332 := (V300.keep K331 nin0)
          refine w_special (pc' := 398) (st := [(.ref b331)]) (y := (⟨"java/lang/String", "<init>", "([C)V"⟩ : MethodName)) (a := b331) W331 hx [(.ref b297)] rfl (hw _ (List.mem_of_getElem? w_33)) (hw _ (List.mem_of_getElem? w_34)) (hw _ (List.mem_of_getElem? w_32)) (hw _ (List.mem_of_getElem? w_35)) (by decide) (c_strC l Z a0 hw hE cc fm b331 b297 [k0, k1, k2] h331 W331.old G GU (Nat.le_of_ble_eq_true rfl) (own_allS r_k0 (own_allS r_k1 (own_allS r_k2 own_all0))) c332 (by have := O.1; omega) A331 _ _ F331_coder F331_value (Ne.symm ne_b297_b331)) (allS (List.mem_of_getElem? (i := 0) rfl) all0) (by rw [hml]; rfl) (lenOf pd_18 rfl) rfl (hb hby at_395) (Nat.le_of_ble_eq_true rfl) (Nat.le_of_ble_eq_true rfl) (Nat.le_of_ble_eq_true rfl) (Nat.le_of_ble_eq_true rfl) rfl fun v333 T333 h333 W333 K333 Q333 => ?_
          have z_K333 : h331.size ≤ h333.size := K333.1
          obtain ⟨rfl, sb334, S334⟩ := Q333
          have ES334 := S334.exa
          have lt_sb334 : sb334 < h333.size := S334.ltb
          have hkn : kl = (3 : Int32) := by
            have f0 := hc338_301; have f1 := hc356_311; have f2 := hc374_321
            simp only [← Int32.toInt_inj, own_t0, own_t1, own_t2, own_t3] at f0 f1 f2 ⊢; omega
          refine g_astore (pc' := 400) (Ls' := #[.val (.int p0), .val (.long p1), .second, .val (.long p2), .second, .val (.int p3), .val (.ref b150), .val (.ref kd), .val (.int kl), .val (.int sn.toInt32), .val (.int tl), .val (.int md), .val (.int k0), .val (.int k1), .val (.int k2), .val (.ref b271), .val (.ref b287), .val (.ref b291), .val (.ref b292), .val (.ref b294), .val (.ref b297), .val (.ref b331), .unset, .unset, .unset]) W333.here hx (hb hby at_398) rfl rfl rfl ?_
          refine w_new (pc' := 403) W333 hx (hw _ (List.mem_of_getElem? w_81)) (hw _ (List.mem_of_getElem? w_82)) (hw _ (List.mem_of_getElem? w_83)) (hb hby at_400) (Nat.le_of_ble_eq_true rfl) (Nat.le_of_ble_eq_true rfl) rfl fun T335 h335 b335 g335 W335 K335 A335 D335 => ?_
          have z_K335 : h333.size ≤ h335.size := K335.1
          have ne_b150_b335 : b150 ≠ b335 := by omega
          have ne_b271_b335 : b271 ≠ b335 := by omega
          have ne_b287_b335 : b287 ≠ b335 := by omega
          have ne_sb290_b335 : sb290 ≠ b335 := by omega
          have ne_b291_b335 : b291 ≠ b335 := by omega
          have ne_b292_b335 : b292 ≠ b335 := by omega
          have ne_b294_b335 : b294 ≠ b335 := by omega
          have ne_b297_b335 : b297 ≠ b335 := by omega
          have ne_b331_b335 : b331 ≠ b335 := by omega
          have ne_sb334_b335 : sb334 ≠ b335 := by omega
          have lt_b335 : b335 < h335.size := W335.lt (List.mem_cons_self ..)
          have F335_kind : Fld Z h335 b335 "com/example/updatable_views/updatableviews/SqlToken" "kind" "Lcom/example/updatable_views/updatableviews/SqlToken$Kind;" .null := D335 (Or.inr (hw _ (List.mem_of_getElem? w_89))) (ty := (.object "com/example/updatable_views/updatableviews/SqlToken$Kind")) (by decide)
          have F335_start : Fld Z h335 b335 "com/example/updatable_views/updatableviews/SqlToken" "start" "I" (.int (0 : Int32)) := D335 (Or.inr (hw _ (List.mem_of_getElem? w_91))) (ty := .int) (by decide)
          have F335_end : Fld Z h335 b335 "com/example/updatable_views/updatableviews/SqlToken" "end" "I" (.int (0 : Int32)) := D335 (Or.inr (hw _ (List.mem_of_getElem? w_93))) (ty := .int) (by decide)
          refine g_dup (pc' := 404) W335.here hx (hb hby at_403) rfl rfl ?_
          refine g_aload (pc' := 406) W335.here hx (hb hby at_404) rfl rfl rfl ?_
          refine g_iload (pc' := 408) W335.here hx (hb hby at_406) rfl rfl ?_
          refine g_iload (pc' := 410) W335.here hx (hb hby at_408) rfl rfl ?_
          refine g_iload (pc' := 412) W335.here hx (hb hby at_410) rfl rfl ?_
          refine g_iadd (pc' := 413) W335.here hx (hb hby at_412) rfl ?_
          refine w_special (pc' := 416) (st := [(.ref b335)]) (y := (⟨"com/example/updatable_views/updatableviews/SqlToken", "<init>", "(Lcom/example/updatable_views/updatableviews/SqlToken$Kind;II)V"⟩ : MethodName)) (a := b335) W335 hx [(.ref kd), (.int sn.toInt32), (.int (sn.toInt32 + tl))] rfl (hw _ (List.mem_of_getElem? w_84)) (hw _ (List.mem_of_getElem? w_85)) (hw _ (List.mem_of_getElem? w_83)) (hw _ (List.mem_of_getElem? w_86)) (by decide) (c_tok l Z a0 hw hE b335 (.ref kd) sn.toInt32 (sn.toInt32 + tl) h335 W335.old (by have := O.1; omega) A335 rfl _ F335_kind _ F335_start _ F335_end) (allS (List.mem_of_getElem? (i := 0) rfl) all0) (by rw [hml]; rfl) (lenOf pd_19 rfl) rfl (hb hby at_413) (Nat.le_of_ble_eq_true rfl) (Nat.le_of_ble_eq_true rfl) (Nat.le_of_ble_eq_true rfl) (Nat.le_of_ble_eq_true rfl) rfl fun v336 T336 h336 W336 K336 Q336 => ?_
          have z_K336 : h335.size ≤ h336.size := K336.1
          obtain ⟨rfl, E337, F337_0, F337_1, F337_2⟩ := Q336
          refine g_astore (pc' := 418) (Ls' := #[.val (.int p0), .val (.long p1), .second, .val (.long p2), .second, .val (.int p3), .val (.ref b150), .val (.ref kd), .val (.int kl), .val (.int sn.toInt32), .val (.int tl), .val (.int md), .val (.int k0), .val (.int k1), .val (.int k2), .val (.ref b271), .val (.ref b287), .val (.ref b291), .val (.ref b292), .val (.ref b294), .val (.ref b297), .val (.ref b331), .val (.ref b335), .unset, .unset]) W336.here hx (hb hby at_416) rfl rfl rfl ?_
          refine g_aload (pc' := 420) W336.here hx (hb hby at_418) rfl rfl rfl ?_
          refine g_aload (pc' := 422) W336.here hx (hb hby at_420) rfl rfl rfl ?_
          refine g_aload (pc' := 424) W336.here hx (hb hby at_422) rfl rfl rfl ?_
          refine w_virtualp (pc' := 427) (st := []) (y := (⟨"com/example/updatable_views/updatableviews/SqlToken", "isKeyword", "(Ljava/lang/CharSequence;Ljava/lang/String;)Z"⟩ : MethodName)) (z := (⟨"com/example/updatable_views/updatableviews/SqlToken", "isKeyword", "(Ljava/lang/CharSequence;Ljava/lang/String;)Z"⟩ : MethodName)) (a := b335) W336 hx [(.ref b287), (.ref b331)] (hw _ (List.mem_of_getElem? w_94)) (hw _ (List.mem_of_getElem? w_95)) (nfS (z := (⟨"com/example/updatable_views/updatableviews/SqlToken", "isKeyword", "(Ljava/lang/CharSequence;Ljava/lang/String;)Z"⟩ : MethodName)) (hw _ (List.mem_of_getElem? w_97))) (hw _ (List.mem_of_getElem? w_97)) (hw _ (List.mem_of_getElem? w_96)) (hw _ (List.mem_of_getElem? w_83)) (hw _ (List.mem_of_getElem? w_98)) (by decide) (c_isKwN l Z a0 hw hE kW kd b335 b287 b331 sn (sn.toInt32 + tl) h336 W336.old S_kW nek F337_0 F337_1 F337_2) E337 (by rw [hml]; rfl) (lenOf pd_20 rfl) rfl (hb hby at_424) (Nat.le_of_ble_eq_true rfl) (Nat.le_of_ble_eq_true rfl) rfl rfl (Nat.le_of_ble_eq_true rfl) (Nat.le_of_ble_eq_true rfl) rfl fun T338 W338 => ?_
          refine g_istore (pc' := 429) (Ls' := #[.val (.int p0), .val (.long p1), .second, .val (.long p2), .second, .val (.int p3), .val (.ref b150), .val (.ref kd), .val (.int kl), .val (.int sn.toInt32), .val (.int tl), .val (.int md), .val (.int k0), .val (.int k1), .val (.int k2), .val (.ref b271), .val (.ref b287), .val (.ref b291), .val (.ref b292), .val (.ref b294), .val (.ref b297), .val (.ref b331), .val (.ref b335), .val (.int (0 : Int32)), .unset]) W338.here hx (hb hby at_427) rfl rfl ?_
          refine g_aload (pc' := 431) W338.here hx (hb hby at_429) rfl rfl rfl ?_
          refine w_getS (pc' := 434) W338 hx (hw _ (List.mem_of_getElem? w_2)) Via.refl S_kW (hb hby at_431) rfl fun T339 W339 => ?_
          refine w_acmp (pc' := 509) W339 hx rfl rfl false (hb hby at_434) (decide_eq_false fun q => nek (Value.ref.inj q)) (by decide) (by decide) ?_
          refine g_iconst (0 : Int32) (pc' := 510) W339.here hx (hb hby at_509) rfl rfl ?_
          refine g_istore (pc' := 512) (Ls' := #[.val (.int p0), .val (.long p1), .second, .val (.long p2), .second, .val (.int p3), .val (.ref b150), .val (.ref kd), .val (.int kl), .val (.int sn.toInt32), .val (.int tl), .val (.int md), .val (.int k0), .val (.int k1), .val (.int k2), .val (.ref b271), .val (.ref b287), .val (.ref b291), .val (.ref b292), .val (.ref b294), .val (.ref b297), .val (.ref b331), .val (.ref b335), .val (.int (0 : Int32)), .val (.int (0 : Int32))]) W339.here hx (hb hby at_510) rfl rfl ?_
          refine g_iload (pc' := 514) W339.here hx (hb hby at_512) rfl rfl ?_
          refine g_iload (pc' := 516) W339.here hx (hb hby at_514) rfl rfl ?_
          refine g_icmpN (pc' := 519) W339.here hx (hb hby at_516) rfl (teq (show (0 : Int32) = (0 : Int32) from (by decide))).2 ?_
          refine g_iconst (1 : Int32) (pc' := 520) W339.here hx (hb hby at_519) rfl rfl ?_
          refine g_goto (pc' := 524) W339.here hx (hb hby at_520) rfl ?_
          refine w_retN (t := .boolean) W339 hx hh hlk hret (by simp) (hb hby at_524) (Nat.le_of_ble_eq_true rfl) (Nat.le_of_ble_eq_true rfl) ?_
          exact rfl
set_option maxRecDepth 65536 in
set_option maxHeartbeats 40000000 in
theorem comes_1 {Post : Tables → Env → Array Value → State → Outcome → State → Prop} (hpost : ∀ tb e args s v u, (limb_1_1.after args s (.returned v) u = true ∧ limb_1_2.after args s (.returned v) u = true ∧ True) → ReturnedEndW s (.returned v) u (Jvm.fieldLocs frame_1_writes args s ++ Jvm.arrayLocs frame_1_arrays args s ++ Jvm.staticLocs frame_1_statics s) 40 1216 → Post tb e args s (.returned v) u) :
    ArmFor flags0 classFile x code maxLocals ret World_1 tables_1 room_1 Calls_1 rest_1 Pre_1 Post := by
  intro l hfl _ _ p e ha hc hk s m args below hf hA hF happ hP
  obtain ⟨hcalls, hrest, hpre⟩ := hP
  obtain ⟨-, -, -, hnamed, -, -, -, hat⟩ := (Spec.applies_iff hf).mp happ
  obtain ⟨hg, hn⟩ := and_e (Cond.before_iff.mp (show (Jvm.Cond.and given_1 narrow_1).before args s = true from hpre))
  obtain ⟨hg0, hg⟩ := and_e hg
  obtain ⟨w0, w1, w2, w3, rfl⟩ : ∃ w0 w1 w2 w3 : Value, args = #[w0, w1, w2, w3] := by
    have hs : args.size = 4 := by simpa [Cond.value, given_1] using hg0
    obtain ⟨L⟩ := args
    match L, hs with
    | [w0, w1, w2, w3], _ => exact ⟨w0, w1, w2, w3, rfl⟩
  have hw := fun d (hd : d ∈ tables_1) => atoms_spec (ws := Jvm.Cond.code x code maxLocals ret :: tables_1) hat d (List.mem_cons_of_mem _ hd)
  have hfit : Fit s := fun {y c} hc i hi => by
    obtain ⟨ha, rfl⟩ := Array.getElem?_eq_some_iff.mp hc
    have q := List.all_eq_true.mp ((Array.all_eq_true_iff_forall_mem.mp hF) _ (Array.getElem_mem ha)) i (List.mem_range.mpr hi)
    simpa [Array.getElem?_eq_getElem hi] using q
  obtain ⟨hg1, hg⟩ := and_e hg
  obtain ⟨p0, ep0⟩ := is_v hg1
  obtain rfl : w0 = (.int p0) := Option.some.inj ep0
  obtain ⟨hg2, hg⟩ := and_e hg
  obtain ⟨p1, ep1⟩ := isL_v hg2
  obtain rfl : w1 = (.long p1) := Option.some.inj ep1
  obtain ⟨hg3, hg⟩ := and_e hg
  obtain ⟨p2, ep2⟩ := isL_v hg3
  obtain rfl : w2 = (.long p2) := Option.some.inj ep2
  have hg4 := hg
  obtain ⟨p3, ep3⟩ := is_v hg4
  obtain rfl : w3 = (.int p3) := Option.some.inj ep3
  obtain ⟨n1, hn⟩ := and_e hn
  obtain ⟨n2, hn⟩ := and_e hn
  obtain ⟨n3, hn⟩ := and_e hn
  obtain ⟨n4, hn⟩ := and_e hn
  obtain ⟨n5, hn⟩ := and_e hn
  obtain ⟨n6, hn⟩ := and_e hn
  obtain ⟨n7, hn⟩ := and_e hn
  obtain ⟨n8, hn⟩ := and_e hn
  obtain ⟨n9, hn⟩ := and_e hn
  obtain ⟨n10, hn⟩ := and_e hn
  obtain ⟨n11, hn⟩ := and_e hn
  obtain ⟨n12, hn⟩ := and_e hn
  obtain ⟨n13, hn⟩ := and_e hn
  obtain ⟨n14, hn⟩ := and_e hn
  obtain ⟨n15, hn⟩ := and_e hn
  have n16 := hn
  have hsets := (atoms_of jdkStatics_1 (show (jdkStatics_1.foldr Cond.and restOwn_1).before _ s = true by rw [← rest_1_c_eq]; exact hrest)).1
  have hheld : ∀ p ∈ consts_1, Jvm.Lit.constHeld s p.1 p.2 := hcalls.1
  obtain ⟨kW, ekW⟩ := exa_v n1
  have XkW := Exa.start ekW n1
  obtain ⟨kN, ekN⟩ := exa_v n2
  have XkN := Exa.start ekN n2
  obtain ⟨kT, ekT⟩ := exa_v n3
  have XkT := Exa.start ekT n3
  obtain ⟨kB, ekB⟩ := exa_v n4
  have XkB := Exa.start ekB n4
  obtain ⟨kQ, ekQ⟩ := exa_v n5
  have XkQ := Exa.start ekQ n5
  obtain ⟨kP, ekP⟩ := exa_v n6
  have XkP := Exa.start ekP n6
  obtain ⟨kC, ekC⟩ := exa_v n7
  have XkC := Exa.start ekC n7
  obtain ⟨kS, ekS⟩ := exa_v n8
  have XkS := Exa.start ekS n8
  have FkT := own_fldI ekT n9
  have FkW := own_fldI ekW n10
  have FkN := own_fldI ekN n11
  have FkB := own_fldI ekB n12
  have FkS := own_fldI ekS n13
  have FkP := own_fldI ekP n14
  have FkC := own_fldI ekC n15
  have FkQ := own_fldI ekQ n16
  obtain ⟨cc, ecc⟩ := is_v (Cond.before_iff.mp (hsets _ (List.mem_of_getElem? (i := 1) rfl)))
  have hcc : ¬ cc = 0 := fun q => by
    have q1 := not_v (Cond.before_iff.mp (hsets _ (List.mem_of_getElem? (i := 2) rfl)))
    exact absurd q (gotF (Cond.eq_ints ecc (Term.int_eval 0)) q1)
  obtain ⟨fm, efm, hfm⟩ := isR_v (Cond.before_iff.mp (hsets _ (List.mem_of_getElem? (i := 8) rfl)))
  have hG : SEnv s cc fm := ⟨Sta.start ecc (Or.inl (hsets _ (List.mem_of_getElem? (i := 0) rfl))), hcc, Sta.start efm (Or.inl (hsets _ (List.mem_of_getElem? (i := 7) rfl))), hfm⟩
  have hEW : EW s _ consts_1 := (EW.cons (hw _ (List.mem_of_getElem? w_78)) (by decide) EW.nil)
  have hCH : CHv s consts_1 s.vm s.heap := CHv.start hEW hheld (a0 := _) (hsets _ (List.mem_of_getElem? (i := 2) rfl)) (hw _ (List.mem_of_getElem? w_48)) (hw _ (List.mem_of_getElem? w_31))
  have hU__assertionsDisabled : Sta s s.heap "java/lang/StringUTF16" "$assertionsDisabled" "Z" (.int 1) := Sta.start (eqv_i (Z := s) (F := Jvm.Term.int (1 : Int32)) (y := 1) rfl (Cond.before_iff.mp (hsets _ (List.mem_of_getElem? (i := 12) rfl)))) (Or.inl (hsets _ (List.mem_of_getElem? (i := 11) rfl)))
  have hU_HI_BYTE_SHIFT : Sta s s.heap "java/lang/StringUTF16" "HI_BYTE_SHIFT" "I" (.int 0) := Sta.start (eqv_i (Z := s) (F := Jvm.Term.int (0 : Int32)) (y := 0) rfl (Cond.before_iff.mp (hsets _ (List.mem_of_getElem? (i := 15) rfl)))) (Or.inl (hsets _ (List.mem_of_getElem? (i := 14) rfl)))
  have hU_LO_BYTE_SHIFT : Sta s s.heap "java/lang/StringUTF16" "LO_BYTE_SHIFT" "I" (.int 8) := Sta.start (eqv_i (Z := s) (F := Jvm.Term.int (8 : Int32)) (y := 8) rfl (Cond.before_iff.mp (hsets _ (List.mem_of_getElem? (i := 18) rfl)))) (Or.inl (hsets _ (List.mem_of_getElem? (i := 17) rfl)))
  have hGU : SEnvU s := ⟨hU__assertionsDisabled, hU_HI_BYTE_SHIFT, hU_LO_BYTE_SHIFT⟩
  obtain ⟨t, o, h1, h2, h3, v, L, rfl, ⟨rfl, N, -⟩, -, hq⟩ := c_law l s _ hw hEW cc fm kW kN kT kB kQ kP kC kS p0 p1 p2 p3 s.heap ⟨Nat.le_refl _, fun _ _ q => q⟩ hG hGU (Sta.start ekW (Or.inr ⟨(hw _ (List.mem_of_getElem? w_3)), (hw _ (List.mem_of_getElem? w_4))⟩)) (Sta.start ekN (Or.inr ⟨(hw _ (List.mem_of_getElem? w_3)), (hw _ (List.mem_of_getElem? w_7))⟩)) (Sta.start ekT (Or.inr ⟨(hw _ (List.mem_of_getElem? w_3)), (hw _ (List.mem_of_getElem? w_9))⟩)) (Sta.start ekB (Or.inr ⟨(hw _ (List.mem_of_getElem? w_3)), (hw _ (List.mem_of_getElem? w_11))⟩)) (Sta.start ekQ (Or.inr ⟨(hw _ (List.mem_of_getElem? w_3)), (hw _ (List.mem_of_getElem? w_13))⟩)) (Sta.start ekP (Or.inr ⟨(hw _ (List.mem_of_getElem? w_3)), (hw _ (List.mem_of_getElem? w_15))⟩)) (Sta.start ekC (Or.inr ⟨(hw _ (List.mem_of_getElem? w_3)), (hw _ (List.mem_of_getElem? w_17))⟩)) (Sta.start ekS (Or.inr ⟨(hw _ (List.mem_of_getElem? w_3)), (hw _ (List.mem_of_getElem? w_19))⟩)) (FkN.ne FkW (by simp)) (FkT.ne FkW (by simp)) (FkB.ne FkW (by simp)) (FkQ.ne FkW (by simp)) (FkP.ne FkW (by simp)) (FkC.ne FkW (by simp)) (FkS.ne FkW (by simp)) XkW XkN XkT XkB XkQ XkP XkC XkS
    p e ha hc hk s m _ below hf ((Spec.applies_iff_loose hf).mp happ).1 ⟨rfl, State.Warmed39.refl s, rfl, hCH, fun _ q => nomatch q⟩ trivial
  refine ⟨t, _, h1, h2, h3, hpost _ _ _ _ _ _ ⟨Cond.after_iff.mpr rfl, Cond.after_iff.mpr (eq_i res_at (Term.int_eval (1)) rfl), trivial⟩ ⟨hq.1, hq.2.1, hq.2.2.1, (hq.2.2.2.sift fun y hy => Or.inr (N y hy)).mono (by decide) (by decide)⟩⟩
theorem main_1_1 : Claimed_1_1 := comes_1 fun _ _ _ _ _ _ h hF => ⟨h.1, hF⟩
theorem main_1_2 : Claimed_1_2 := comes_1 fun _ _ _ _ _ _ h hF => ⟨h.2.1, hF⟩
end Jvm.Pilot.@@N@@
namespace Jvm.Pilot.@@N@@
open Jvm Jvm.ClassFile Sem Op Lib Jvm.Free Jvm.Stand Jvm.Pilot.@@N@@.Jvm.D
/-! MADE BY PROGRAM (witnessworld.py) out of the Statement's table words and the real class files: 23 classes; the members and pool entries that the words name. The judged class is class 1, her method 1. -/
namespace start1
open Jvm.ClassFile
def u (s : String) : CpInfo := .utf8 (stringToUtf16 s)
/-- a pool by its gaps: so many unusable entries, then the entry; so many at the end -/
def gap : Nat → List CpInfo → List CpInfo
  | 0, r => r
  | n + 1, r => .unusable :: gap n r
def poolList (es : List (Nat × CpInfo)) (last : Nat) : List CpInfo := es.foldr (fun e r => gap e.1 (e.2 :: r)) (gap last [])
def pool (es : List (Nat × CpInfo)) (last : Nat) : Array CpInfo := ⟨poolList es last⟩
def fileOf (pool : Array CpInfo) (this : Nat) (attrs : Array Attribute := #[]) (ms : Array MethodInfo := #[]) (fl : Nat := 33) (sup : Nat := 0) (ifs : Array Nat := #[]) (fds : Array FieldInfo := #[]) : ClassFile where
  minorVersion := 0
  majorVersion := 65
  constantPool := pool
  accessFlags := fl
  thisClass := this
  superClass := sup
  interfaces := ifs
  fields := fds
  methods := ms
  attributes := attrs
def plain (name : String) (sup : Option ClassId) : Class where
  name := name
  kind := .ordinary
  loader := none
  accessFlags := 33
  super := sup
  interfaces := #[]
  cf := none
  fields := #[]
  methods := #[]
  instanceTypes := #[]
  staticTypes := #[]
  resolved := #[]
  callSites := []
  init := .initialized
  statics := none
  mirror := none

def pool0 : Array CpInfo := pool [(5, u "<init>"), (0, u "()V"), (1, .class_ 10), (1, u "java/lang/Object")] 113

def k0c0 : Code := { maxStack := 0, maxLocals := 1, code := object_method_1_code, exceptionTable := #[], attributes := #[] }
def k0m0 : Method := { name := "<init>", desc := "()V", sig := { parameters := [], returnType := none }, accessFlags := 1, code := some k0c0 }
/-- java/lang/Object -/
def k0 : Class := { plain "java/lang/Object" none with
  accessFlags := 33
  interfaces := #[]
  cf := some (fileOf pool0 8 #[] #[{ accessFlags := 1, nameIndex := 5, descriptorIndex := 6, attributes := #[] }] 33 0 #[] #[])
  fields := #[]
  methods := #[k0m0]
  instanceTypes := #[]
  staticTypes := #[]
  resolved := Array.replicate 124 none
  statics := none }

def pool1 : Array CpInfo := pool [(2, .class_ 4), (1, u "java/lang/Object"), (0, u "<init>"), (0, u "()V"), (0, .class_ 8), (0, u "com/example/updatable_views/updatableviews/SqlToken$Kind"), (0, .fieldref 7 10), (0, .nameAndType 11 12), (0, u "WORD"), (0, u "Lcom/example/updatable_views/updatableviews/SqlToken$Kind;"), (0, .fieldref 7 14), (0, .nameAndType 15 12), (0, u "NUMBER"), (0, .fieldref 7 17), (0, .nameAndType 18 12), (0, u "STRING"), (0, .fieldref 7 20), (0, .nameAndType 21 12), (0, u "BLOB"), (0, .fieldref 7 23), (0, .nameAndType 24 12), (0, u "QUOTED_NAME"), (0, .fieldref 7 26), (0, .nameAndType 27 12), (0, u "PARAMETER"), (0, .fieldref 7 29), (0, .nameAndType 30 12), (0, u "COMMENT"), (0, .fieldref 7 32), (0, .nameAndType 33 12), (0, u "SYMBOL"), (0, .long 65535), (1, .methodref 37 38), (0, .class_ 39), (0, .nameAndType 40 41), (0, u "com/example/updatable_views/updatableviews/SqlTokenIsKeywordPinLaw"), (0, u "up"), (0, u "(C)C"), (0, .integer 65535), (0, .methodref 37 44), (0, .nameAndType 45 46), (0, u "place"), (0, u "(CCI)C"), (0, .class_ 48), (0, u "java/lang/String"), (0, .methodref 47 50), (0, .nameAndType 5 51), (0, u "([C)V"), (0, .class_ 53), (0, u "com/example/updatable_views/updatableviews/SqlToken"), (0, .methodref 52 55), (0, .nameAndType 5 56), (0, u "(Lcom/example/updatable_views/updatableviews/SqlToken$Kind;II)V"), (0, .methodref 52 58), (0, .nameAndType 59 60), (0, u "isKeyword"), (0, u "(Ljava/lang/CharSequence;Ljava/lang/String;)Z"), (0, .methodref 37 62), (0, .nameAndType 63 64), (0, u "same"), (0, u "(CC)Z"), (2, u "law"), (0, u "(IJJI)Z")] 9

def k1m0 : Method := { name := "<init>", desc := "()V", sig := { parameters := [], returnType := none }, accessFlags := 1, code := none }
def k1c1 : Code := { maxStack := 6, maxLocals := 25, code := code, exceptionTable := #[], attributes := #[] }
def k1m1 : Method := { name := "law", desc := "(IJJI)Z", sig := { parameters := [.int, .long, .long, .int], returnType := some .boolean }, accessFlags := 9, code := some k1c1 }
def k1c2 : Code := { maxStack := 2, maxLocals := 1, code := method_3_code, exceptionTable := #[], attributes := #[] }
def k1m2 : Method := { name := "up", desc := "(C)C", sig := { parameters := [.char], returnType := some .char }, accessFlags := 10, code := some k1c2 }
def k1c3 : Code := { maxStack := 2, maxLocals := 3, code := method_4_code, exceptionTable := #[], attributes := #[] }
def k1m3 : Method := { name := "place", desc := "(CCI)C", sig := { parameters := [.char, .char, .int], returnType := some .char }, accessFlags := 10, code := some k1c3 }
def k1c4 : Code := { maxStack := 3, maxLocals := 2, code := method_5_code, exceptionTable := #[], attributes := #[] }
def k1m4 : Method := { name := "same", desc := "(CC)Z", sig := { parameters := [.char, .char], returnType := some .boolean }, accessFlags := 10, code := some k1c4 }
/-- com/example/updatable_views/updatableviews/SqlTokenIsKeywordPinLaw -/
def k1 : Class := { plain "com/example/updatable_views/updatableviews/SqlTokenIsKeywordPinLaw" (some 0) with
  accessFlags := 49
  interfaces := #[]
  cf := some (fileOf pool1 37 #[] #[{ accessFlags := 1, nameIndex := 5, descriptorIndex := 6, attributes := #[] }, { accessFlags := 9, nameIndex := 67, descriptorIndex := 68, attributes := #[] }, { accessFlags := 10, nameIndex := 40, descriptorIndex := 41, attributes := #[] }, { accessFlags := 10, nameIndex := 45, descriptorIndex := 46, attributes := #[] }, { accessFlags := 10, nameIndex := 63, descriptorIndex := 64, attributes := #[] }] 49 2 #[] #[])
  fields := #[]
  methods := #[k1m0, k1m1, k1m2, k1m3, k1m4]
  instanceTypes := #[]
  staticTypes := #[]
  resolved := Array.replicate 78 none
  statics := none }

def pool2 : Array CpInfo := pool [(1, .class_ 2), (0, u "java/lang/constant/Constable"), (0, .class_ 4), (0, u "java/lang/Object")] 6

/-- java/lang/constant/Constable -/
def k2 : Class := { plain "java/lang/constant/Constable" (some 0) with
  accessFlags := 1537
  interfaces := #[]
  cf := some (fileOf pool2 1 #[] #[] 1537 3 #[] #[])
  fields := #[]
  methods := #[]
  instanceTypes := #[]
  staticTypes := #[]
  resolved := Array.replicate 11 none
  statics := none }

def pool3 : Array CpInfo := pool [(1, .class_ 2), (0, u "java/lang/Comparable"), (0, .class_ 4), (0, u "java/lang/Object")] 7

/-- java/lang/Comparable -/
def k3 : Class := { plain "java/lang/Comparable" (some 0) with
  accessFlags := 1537
  interfaces := #[]
  cf := some (fileOf pool3 1 #[] #[] 1537 3 #[] #[])
  fields := #[]
  methods := #[]
  instanceTypes := #[]
  staticTypes := #[]
  resolved := Array.replicate 12 none
  statics := none }

def pool4 : Array CpInfo := pool [(1, .class_ 2), (0, u "java/io/Serializable"), (0, .class_ 4), (0, u "java/lang/Object")] 2

/-- java/io/Serializable -/
def k4 : Class := { plain "java/io/Serializable" (some 0) with
  accessFlags := 1537
  interfaces := #[]
  cf := some (fileOf pool4 1 #[] #[] 1537 3 #[] #[])
  fields := #[]
  methods := #[]
  instanceTypes := #[]
  staticTypes := #[]
  resolved := Array.replicate 7 none
  statics := none }

def pool5 : Array CpInfo := pool [(2, .class_ 4), (1, u "java/lang/Enum"), (0, u "name"), (0, u "Ljava/lang/String;"), (2, u "ordinal"), (0, u "I"), (1, .class_ 14), (1, u "java/lang/Object"), (4, u "hash"), (86, .class_ 108), (1, u "java/lang/Enum$EnumDesc"), (2, .class_ 112), (0, u "java/lang/constant/Constable"), (0, .class_ 114), (0, u "java/lang/Comparable"), (0, .class_ 116), (0, u "java/io/Serializable")] 87

/-- java/lang/Enum -/
def k5 : Class := { plain "java/lang/Enum" (some 0) with
  accessFlags := 1057
  interfaces := #[2, 3, 4]
  cf := some (fileOf pool5 2 #[.nestMembers #[106]] #[] 1057 12 #[111, 113, 115] #[{ accessFlags := 18, nameIndex := 5, descriptorIndex := 6, attributes := #[] }, { accessFlags := 18, nameIndex := 9, descriptorIndex := 10, attributes := #[] }, { accessFlags := 2, nameIndex := 19, descriptorIndex := 10, attributes := #[] }])
  fields := #[{ name := "name", type := (.object "java/lang/String"), accessFlags := 18, slot := 0, constantValue := 0 }, { name := "ordinal", type := .int, accessFlags := 18, slot := 1, constantValue := 0 }, { name := "hash", type := .int, accessFlags := 2, slot := 2, constantValue := 0 }]
  methods := #[]
  instanceTypes := #[(.object "java/lang/String"), .int, .int]
  staticTypes := #[]
  resolved := Array.replicate 204 none
  statics := none }

def pool6 : Array CpInfo := pool [(1, .class_ 2), (0, u "com/example/updatable_views/updatableviews/SqlToken$Kind"), (2, u "WORD"), (0, u "Lcom/example/updatable_views/updatableviews/SqlToken$Kind;"), (2, u "NUMBER"), (2, u "STRING"), (2, u "BLOB"), (2, u "QUOTED_NAME"), (2, u "PARAMETER"), (2, u "COMMENT"), (2, u "SYMBOL"), (2, u "$VALUES"), (0, u "[Lcom/example/updatable_views/updatableviews/SqlToken$Kind;"), (6, .class_ 40), (1, u "java/lang/Enum"), (31, .class_ 73), (0, u "com/example/updatable_views/updatableviews/SqlToken")] 2

/-- com/example/updatable_views/updatableviews/SqlToken$Kind -/
def k6 : Class := { plain "com/example/updatable_views/updatableviews/SqlToken$Kind" (some 5) with
  accessFlags := 16432
  interfaces := #[]
  cf := some (fileOf pool6 1 #[.nestHost 72] #[] 16432 38 #[] #[{ accessFlags := 16409, nameIndex := 5, descriptorIndex := 6, attributes := #[] }, { accessFlags := 16409, nameIndex := 9, descriptorIndex := 6, attributes := #[] }, { accessFlags := 16409, nameIndex := 12, descriptorIndex := 6, attributes := #[] }, { accessFlags := 16409, nameIndex := 15, descriptorIndex := 6, attributes := #[] }, { accessFlags := 16409, nameIndex := 18, descriptorIndex := 6, attributes := #[] }, { accessFlags := 16409, nameIndex := 21, descriptorIndex := 6, attributes := #[] }, { accessFlags := 16409, nameIndex := 24, descriptorIndex := 6, attributes := #[] }, { accessFlags := 16409, nameIndex := 27, descriptorIndex := 6, attributes := #[] }, { accessFlags := 4122, nameIndex := 30, descriptorIndex := 31, attributes := #[] }])
  fields := #[{ name := "WORD", type := (.object "com/example/updatable_views/updatableviews/SqlToken$Kind"), accessFlags := 16409, slot := 0, constantValue := 0 }, { name := "NUMBER", type := (.object "com/example/updatable_views/updatableviews/SqlToken$Kind"), accessFlags := 16409, slot := 1, constantValue := 0 }, { name := "STRING", type := (.object "com/example/updatable_views/updatableviews/SqlToken$Kind"), accessFlags := 16409, slot := 2, constantValue := 0 }, { name := "BLOB", type := (.object "com/example/updatable_views/updatableviews/SqlToken$Kind"), accessFlags := 16409, slot := 3, constantValue := 0 }, { name := "QUOTED_NAME", type := (.object "com/example/updatable_views/updatableviews/SqlToken$Kind"), accessFlags := 16409, slot := 4, constantValue := 0 }, { name := "PARAMETER", type := (.object "com/example/updatable_views/updatableviews/SqlToken$Kind"), accessFlags := 16409, slot := 5, constantValue := 0 }, { name := "COMMENT", type := (.object "com/example/updatable_views/updatableviews/SqlToken$Kind"), accessFlags := 16409, slot := 6, constantValue := 0 }, { name := "SYMBOL", type := (.object "com/example/updatable_views/updatableviews/SqlToken$Kind"), accessFlags := 16409, slot := 7, constantValue := 0 }, { name := "$VALUES", type := (.array (.object "com/example/updatable_views/updatableviews/SqlToken$Kind")), accessFlags := 4122, slot := 8, constantValue := 0 }]
  methods := #[]
  instanceTypes := #[(.object "java/lang/String"), .int, .int]
  staticTypes := #[(.object "com/example/updatable_views/updatableviews/SqlToken$Kind"), (.object "com/example/updatable_views/updatableviews/SqlToken$Kind"), (.object "com/example/updatable_views/updatableviews/SqlToken$Kind"), (.object "com/example/updatable_views/updatableviews/SqlToken$Kind"), (.object "com/example/updatable_views/updatableviews/SqlToken$Kind"), (.object "com/example/updatable_views/updatableviews/SqlToken$Kind"), (.object "com/example/updatable_views/updatableviews/SqlToken$Kind"), (.object "com/example/updatable_views/updatableviews/SqlToken$Kind"), (.array (.object "com/example/updatable_views/updatableviews/SqlToken$Kind"))]
  resolved := Array.replicate 76 none
  statics := some 0 }

def pool7 : Array CpInfo := pool [(2, .class_ 4), (1, u "java/lang/CharSequence"), (40, u "charAt"), (0, u "(I)C"), (0, .class_ 48), (0, u "java/lang/CharSequence$1CodePointIterator"), (10, .class_ 60), (0, u "java/lang/CharSequence$1CharIterator"), (5, .class_ 67), (0, u "java/lang/Object")] 63

def k7m0 : Method := { name := "charAt", desc := "(I)C", sig := { parameters := [.int], returnType := some .char }, accessFlags := 1025, code := none }
/-- java/lang/CharSequence -/
def k7 : Class := { plain "java/lang/CharSequence" (some 0) with
  accessFlags := 1537
  interfaces := #[]
  cf := some (fileOf pool7 2 #[.nestMembers #[47, 59]] #[{ accessFlags := 1025, nameIndex := 45, descriptorIndex := 46, attributes := #[] }] 1537 66 #[] #[])
  fields := #[]
  methods := #[k7m0]
  instanceTypes := #[]
  staticTypes := #[]
  resolved := Array.replicate 131 none
  statics := none }

def pool8 : Array CpInfo := pool [(1, .class_ 2), (0, u "java/lang/constant/ConstantDesc"), (0, .class_ 4), (0, u "java/lang/Object")] 32

/-- java/lang/constant/ConstantDesc -/
def k8 : Class := { plain "java/lang/constant/ConstantDesc" (some 0) with
  accessFlags := 1537
  interfaces := #[]
  cf := some (fileOf pool8 1 #[] #[] 1537 3 #[] #[])
  fields := #[]
  methods := #[]
  instanceTypes := #[]
  staticTypes := #[]
  resolved := Array.replicate 37 none
  statics := none }

def pool9 : Array CpInfo := pool [(1, .methodref 2 3), (0, .class_ 4), (0, .nameAndType 5 6), (0, u "java/lang/Object"), (0, u "<init>"), (0, u "()V"), (0, .string 8), (0, u ""), (0, .fieldref 10 11), (0, .class_ 12), (0, .nameAndType 13 14), (0, u "java/lang/String"), (0, u "value"), (0, u "[B"), (0, .fieldref 10 16), (0, .nameAndType 17 18), (0, u "coder"), (0, u "B"), (2, u "hash"), (0, u "I"), (2, u "hashIsZero"), (0, u "Z"), (0, .methodref 10 28), (0, .nameAndType 5 29), (0, u "([CIILjava/lang/Void;)V"), (8, .fieldref 10 39), (0, .nameAndType 40 26), (0, u "COMPACT_STRINGS"), (1, .class_ 44), (1, u "java/lang/StringUTF16"), (0, u "compress"), (1, .methodref 42 48), (0, .nameAndType 49 50), (0, u "coderFromArrayLen"), (0, u "([BI)B"), (56, .class_ 109), (1, u "java/lang/StringLatin1"), (32, u "()Z"), (34, .methodref 42 178), (0, .nameAndType 45 179), (0, u "([CII)[B"), (154, u "()I"), (0, .methodref 10 336), (0, .nameAndType 17 337), (0, u "()B"), (25, u "([BI)C"), (27, u "(II)V"), (35, u "(I)C"), (64, .methodref 10 493), (0, .nameAndType 494 142), (0, u "isLatin1"), (0, .methodref 107 496), (0, .nameAndType 497 363), (0, u "charAt"), (0, .methodref 42 496), (2, u "checkIndex"), (5, u "length"), (67, .class_ 576), (0, u "java/lang/CharSequence"), (22, u "CASE_INSENSITIVE_ORDER"), (0, u "Ljava/util/Comparator;"), (409, u "([C)V"), (42, .fieldref 1054 1055), (0, .class_ 1056), (0, .nameAndType 1057 1058), (0, u "jdk/internal/util/Preconditions"), (0, u "SIOOBE_FORMATTER"), (0, u "Ljava/util/function/BiFunction;"), (0, .methodref 1054 1060), (0, .nameAndType 501 1061), (0, u "(IILjava/util/function/BiFunction;)I"), (39, u "serialPersistentFields"), (0, u "[Ljava/io/ObjectStreamField;"), (0, .class_ 1104), (0, u "java/lang/String$CaseInsensitiveComparator"), (1, .class_ 1107), (0, u "java/io/Serializable"), (0, .class_ 1109), (0, u "java/lang/Comparable"), (0, .class_ 1111), (0, u "java/lang/constant/Constable"), (0, .class_ 1113), (0, u "java/lang/constant/ConstantDesc"), (2, u "serialVersionUID"), (0, u "J"), (3, u "REPL"), (0, u "C"), (2, u "LATIN1"), (1, u "UTF16")] 323

def k9m0 : Method := { name := "<init>", desc := "()V", sig := { parameters := [], returnType := none }, accessFlags := 1, code := none }
def k9c1 : Code := { maxStack := 5, maxLocals := 2, code := jdk_42_method_3_code, exceptionTable := #[], attributes := #[] }
def k9m1 : Method := { name := "<init>", desc := "([C)V", sig := { parameters := [(.array .char)], returnType := none }, accessFlags := 1, code := some k9c1 }
def k9c2 : Code := { maxStack := 2, maxLocals := 1, code := jdk_42_method_54_code, exceptionTable := #[], attributes := #[] }
def k9m2 : Method := { name := "length", desc := "()I", sig := { parameters := [], returnType := some .int }, accessFlags := 1, code := some k9c2 }
def k9c3 : Code := { maxStack := 2, maxLocals := 2, code := jdk_42_method_56_code, exceptionTable := #[], attributes := #[] }
def k9m3 : Method := { name := "charAt", desc := "(I)C", sig := { parameters := [.int], returnType := some .char }, accessFlags := 1, code := some k9c3 }
def k9c4 : Code := { maxStack := 4, maxLocals := 6, code := jdk_42_method_149_code, exceptionTable := #[], attributes := #[] }
def k9m4 : Method := { name := "<init>", desc := "([CIILjava/lang/Void;)V", sig := { parameters := [(.array .char), .int, .int, (.object "java/lang/Void")], returnType := none }, accessFlags := 2, code := some k9c4 }
def k9c5 : Code := { maxStack := 1, maxLocals := 1, code := jdk_42_method_152_code, exceptionTable := #[], attributes := #[] }
def k9m5 : Method := { name := "coder", desc := "()B", sig := { parameters := [], returnType := some .byte }, accessFlags := 0, code := some k9c5 }
def k9c6 : Code := { maxStack := 1, maxLocals := 1, code := jdk_42_method_154_code, exceptionTable := #[], attributes := #[] }
def k9m6 : Method := { name := "isLatin1", desc := "()Z", sig := { parameters := [], returnType := some .boolean }, accessFlags := 0, code := some k9c6 }
def k9c7 : Code := { maxStack := 3, maxLocals := 2, code := jdk_42_method_155_code, exceptionTable := #[], attributes := #[] }
def k9m7 : Method := { name := "checkIndex", desc := "(II)V", sig := { parameters := [.int, .int], returnType := none }, accessFlags := 8, code := some k9c7 }
/-- java/lang/String -/
def k9 : Class := { plain "java/lang/String" (some 0) with
  accessFlags := 49
  interfaces := #[4, 3, 7, 2, 8]
  cf := some (fileOf pool9 10 #[.nestMembers #[1103]] #[{ accessFlags := 1, nameIndex := 5, descriptorIndex := 6, attributes := #[] }, { accessFlags := 1, nameIndex := 5, descriptorIndex := 1010, attributes := #[] }, { accessFlags := 1, nameIndex := 507, descriptorIndex := 334, attributes := #[] }, { accessFlags := 1, nameIndex := 497, descriptorIndex := 427, attributes := #[] }, { accessFlags := 2, nameIndex := 5, descriptorIndex := 29, attributes := #[] }, { accessFlags := 0, nameIndex := 17, descriptorIndex := 337, attributes := #[] }, { accessFlags := 0, nameIndex := 494, descriptorIndex := 142, attributes := #[] }, { accessFlags := 8, nameIndex := 501, descriptorIndex := 391, attributes := #[] }] 49 2 #[1106, 1108, 575, 1110, 1112] #[{ accessFlags := 18, nameIndex := 13, descriptorIndex := 14, attributes := #[] }, { accessFlags := 18, nameIndex := 17, descriptorIndex := 18, attributes := #[] }, { accessFlags := 2, nameIndex := 21, descriptorIndex := 22, attributes := #[] }, { accessFlags := 2, nameIndex := 25, descriptorIndex := 26, attributes := #[] }, { accessFlags := 26, nameIndex := 1116, descriptorIndex := 1117, attributes := #[] }, { accessFlags := 24, nameIndex := 40, descriptorIndex := 26, attributes := #[] }, { accessFlags := 26, nameIndex := 1101, descriptorIndex := 1102, attributes := #[] }, { accessFlags := 26, nameIndex := 1121, descriptorIndex := 1122, attributes := #[] }, { accessFlags := 25, nameIndex := 599, descriptorIndex := 600, attributes := #[] }, { accessFlags := 24, nameIndex := 1125, descriptorIndex := 18, attributes := #[] }, { accessFlags := 24, nameIndex := 1127, descriptorIndex := 18, attributes := #[] }])
  fields := #[{ name := "value", type := (.array .byte), accessFlags := 18, slot := 0, constantValue := 0 }, { name := "coder", type := .byte, accessFlags := 18, slot := 1, constantValue := 0 }, { name := "hash", type := .int, accessFlags := 2, slot := 2, constantValue := 0 }, { name := "hashIsZero", type := .boolean, accessFlags := 2, slot := 3, constantValue := 0 }, { name := "serialVersionUID", type := .long, accessFlags := 26, slot := 0, constantValue := 0 }, { name := "COMPACT_STRINGS", type := .boolean, accessFlags := 24, slot := 1, constantValue := 0 }, { name := "serialPersistentFields", type := (.array (.object "java/io/ObjectStreamField")), accessFlags := 26, slot := 2, constantValue := 0 }, { name := "REPL", type := .char, accessFlags := 26, slot := 3, constantValue := 0 }, { name := "CASE_INSENSITIVE_ORDER", type := (.object "java/util/Comparator"), accessFlags := 25, slot := 4, constantValue := 0 }, { name := "LATIN1", type := .byte, accessFlags := 24, slot := 5, constantValue := 0 }, { name := "UTF16", type := .byte, accessFlags := 24, slot := 6, constantValue := 0 }]
  methods := #[k9m0, k9m1, k9m2, k9m3, k9m4, k9m5, k9m6, k9m7]
  instanceTypes := #[(.array .byte), .byte, .int, .boolean]
  staticTypes := #[.long, .boolean, (.array (.object "java/io/ObjectStreamField")), .char, (.object "java/util/Comparator"), .byte, .byte]
  resolved := Array.replicate 1451 none
  statics := some 1 }

def pool10 : Array CpInfo := pool [(3, .class_ 4), (0, u "java/lang/String"), (1, .class_ 8), (1, u "java/lang/Object"), (0, u "<init>"), (0, u "()V"), (0, .methodref 12 13), (0, .class_ 14), (0, .nameAndType 15 16), (0, u "java/lang/StringUTF16"), (0, u "newBytesLength"), (0, u "(I)I"), (3, .integer 1073741823), (23, .fieldref 12 45), (0, .nameAndType 46 47), (0, u "$assertionsDisabled"), (0, u "Z"), (0, .methodref 12 49), (0, .nameAndType 50 51), (0, u "length"), (0, u "([B)I"), (7, .fieldref 12 60), (0, .nameAndType 61 62), (0, u "HI_BYTE_SHIFT"), (0, u "I"), (0, .fieldref 12 64), (0, .nameAndType 65 62), (0, u "LO_BYTE_SHIFT"), (1, .methodref 12 68), (0, .nameAndType 69 70), (0, u "checkIndex"), (0, u "(I[B)V"), (0, .methodref 12 72), (0, .nameAndType 73 74), (0, u "getChar"), (0, u "([BI)C"), (32, .methodref 12 108), (0, .nameAndType 109 110), (0, u "newBytesFor"), (0, u "(I)[B"), (0, .methodref 12 112), (0, .nameAndType 113 114), (0, u "putChar"), (0, u "([BII)V"), (0, .methodref 12 116), (0, .nameAndType 117 118), (0, u "compress"), (0, u "([CI[BII)I"), (0, .methodref 12 120), (0, .nameAndType 121 122), (0, u "toBytes"), (0, u "([CII)[B"), (138, u "coderFromArrayLen"), (0, u "([BI)B"), (106, .class_ 371), (1, u "java/lang/StringUTF16$LinesSpliterator"), (20, u "charAt"), (21, .methodref 3 415), (0, .nameAndType 69 416), (0, u "(II)V"), (13, u "MAX_LENGTH"), (196, .class_ 628), (0, u "java/lang/StringUTF16$CodePointsSpliterator"), (0, .class_ 630), (0, u "java/lang/StringUTF16$CharsSpliterator")] 4

def k10m0 : Method := { name := "<init>", desc := "()V", sig := { parameters := [], returnType := none }, accessFlags := 0, code := none }
def k10c1 : Code := { maxStack := 1, maxLocals := 1, code := jdk_52_method_2_code, exceptionTable := #[], attributes := #[] }
def k10m1 : Method := { name := "newBytesFor", desc := "(I)[B", sig := { parameters := [.int], returnType := some (.array .byte) }, accessFlags := 9, code := some k10c1 }
def k10c2 : Code := { maxStack := 4, maxLocals := 1, code := jdk_52_method_3_code, exceptionTable := #[], attributes := #[] }
def k10m2 : Method := { name := "newBytesLength", desc := "(I)I", sig := { parameters := [.int], returnType := some .int }, accessFlags := 9, code := some k10c2 }
def k10c3 : Code := { maxStack := 4, maxLocals := 3, code := jdk_52_method_4_code, exceptionTable := #[], attributes := #[] }
def k10m3 : Method := { name := "putChar", desc := "([BII)V", sig := { parameters := [(.array .byte), .int, .int], returnType := none }, accessFlags := 8, code := some k10c3 }
def k10c4 : Code := { maxStack := 3, maxLocals := 2, code := jdk_52_method_5_code, exceptionTable := #[], attributes := #[] }
def k10m4 : Method := { name := "getChar", desc := "([BI)C", sig := { parameters := [(.array .byte), .int], returnType := some .char }, accessFlags := 8, code := some k10c4 }
def k10c5 : Code := { maxStack := 2, maxLocals := 1, code := jdk_52_method_6_code, exceptionTable := #[], attributes := #[] }
def k10m5 : Method := { name := "length", desc := "([B)I", sig := { parameters := [(.array .byte)], returnType := some .int }, accessFlags := 9, code := some k10c5 }
def k10c6 : Code := { maxStack := 4, maxLocals := 5, code := jdk_52_method_14_code, exceptionTable := #[], attributes := #[] }
def k10m6 : Method := { name := "toBytes", desc := "([CII)[B", sig := { parameters := [(.array .char), .int, .int], returnType := some (.array .byte) }, accessFlags := 9, code := some k10c6 }
def k10c7 : Code := { maxStack := 2, maxLocals := 2, code := jdk_52_method_15_code, exceptionTable := #[], attributes := #[] }
def k10m7 : Method := { name := "coderFromArrayLen", desc := "([BI)B", sig := { parameters := [(.array .byte), .int], returnType := some .byte }, accessFlags := 8, code := some k10c7 }
def k10c8 : Code := { maxStack := 5, maxLocals := 6, code := jdk_52_method_16_code, exceptionTable := #[], attributes := #[] }
def k10m8 : Method := { name := "compress", desc := "([CII)[B", sig := { parameters := [(.array .char), .int, .int], returnType := some (.array .byte) }, accessFlags := 9, code := some k10c8 }
def k10c9 : Code := { maxStack := 3, maxLocals := 7, code := jdk_52_method_21_code, exceptionTable := #[], attributes := #[] }
def k10m9 : Method := { name := "compress", desc := "([CI[BII)I", sig := { parameters := [(.array .char), .int, (.array .byte), .int, .int], returnType := some .int }, accessFlags := 9, code := some k10c9 }
def k10c10 : Code := { maxStack := 2, maxLocals := 2, code := jdk_52_method_83_code, exceptionTable := #[], attributes := #[] }
def k10m10 : Method := { name := "charAt", desc := "([BI)C", sig := { parameters := [(.array .byte), .int], returnType := some .char }, accessFlags := 9, code := some k10c10 }
def k10c11 : Code := { maxStack := 2, maxLocals := 2, code := jdk_52_method_91_code, exceptionTable := #[], attributes := #[] }
def k10m11 : Method := { name := "checkIndex", desc := "(I[B)V", sig := { parameters := [.int, (.array .byte)], returnType := none }, accessFlags := 9, code := some k10c11 }
/-- java/lang/StringUTF16 -/
def k10 : Class := { plain "java/lang/StringUTF16" (some 0) with
  accessFlags := 48
  interfaces := #[]
  cf := some (fileOf pool10 12 #[.nestMembers #[627, 629, 369]] #[{ accessFlags := 0, nameIndex := 9, descriptorIndex := 10, attributes := #[] }, { accessFlags := 9, nameIndex := 109, descriptorIndex := 110, attributes := #[] }, { accessFlags := 9, nameIndex := 15, descriptorIndex := 16, attributes := #[] }, { accessFlags := 8, nameIndex := 113, descriptorIndex := 114, attributes := #[] }, { accessFlags := 8, nameIndex := 73, descriptorIndex := 74, attributes := #[] }, { accessFlags := 9, nameIndex := 50, descriptorIndex := 51, attributes := #[] }, { accessFlags := 9, nameIndex := 121, descriptorIndex := 122, attributes := #[] }, { accessFlags := 8, nameIndex := 261, descriptorIndex := 262, attributes := #[] }, { accessFlags := 9, nameIndex := 117, descriptorIndex := 122, attributes := #[] }, { accessFlags := 9, nameIndex := 117, descriptorIndex := 118, attributes := #[] }, { accessFlags := 9, nameIndex := 392, descriptorIndex := 74, attributes := #[] }, { accessFlags := 9, nameIndex := 69, descriptorIndex := 70, attributes := #[] }] 48 6 #[] #[{ accessFlags := 26, nameIndex := 61, descriptorIndex := 62, attributes := #[] }, { accessFlags := 26, nameIndex := 65, descriptorIndex := 62, attributes := #[] }, { accessFlags := 24, nameIndex := 430, descriptorIndex := 62, attributes := #[] }, { accessFlags := 4120, nameIndex := 46, descriptorIndex := 47, attributes := #[] }])
  fields := #[{ name := "HI_BYTE_SHIFT", type := .int, accessFlags := 26, slot := 0, constantValue := 0 }, { name := "LO_BYTE_SHIFT", type := .int, accessFlags := 26, slot := 1, constantValue := 0 }, { name := "MAX_LENGTH", type := .int, accessFlags := 24, slot := 2, constantValue := 0 }, { name := "$assertionsDisabled", type := .boolean, accessFlags := 4120, slot := 3, constantValue := 0 }]
  methods := #[k10m0, k10m1, k10m2, k10m3, k10m4, k10m5, k10m6, k10m7, k10m8, k10m9, k10m10, k10m11]
  instanceTypes := #[]
  staticTypes := #[.int, .int, .int, .boolean]
  resolved := Array.replicate 635 none
  statics := some 2 }

def pool11 : Array CpInfo := pool [(1, .methodref 2 3), (0, .class_ 4), (0, .nameAndType 5 6), (0, u "java/lang/Object"), (0, u "<init>"), (0, u "()V"), (0, .fieldref 8 9), (0, .class_ 10), (0, .nameAndType 11 12), (0, u "com/example/updatable_views/updatableviews/SqlToken"), (0, u "kind"), (0, u "Lcom/example/updatable_views/updatableviews/SqlToken$Kind;"), (0, .fieldref 8 14), (0, .nameAndType 15 16), (0, u "start"), (0, u "I"), (0, .fieldref 8 18), (0, .nameAndType 19 16), (0, u "end"), (0, .fieldref 21 22), (0, .class_ 23), (0, .nameAndType 24 12), (0, u "com/example/updatable_views/updatableviews/SqlToken$Kind"), (0, u "WORD"), (0, .methodref 26 27), (0, .class_ 28), (0, .nameAndType 29 30), (0, u "java/lang/String"), (0, u "length"), (0, u "()I"), (0, .interfaceMethodref 32 33), (0, .class_ 34), (0, .nameAndType 35 36), (0, u "java/lang/CharSequence"), (0, u "charAt"), (0, u "(I)C"), (0, .methodref 26 33), (3, u "(Lcom/example/updatable_views/updatableviews/SqlToken$Kind;II)V"), (3, u "isKeyword"), (0, u "(Ljava/lang/CharSequence;Ljava/lang/String;)Z")] 8

def k11c0 : Code := { maxStack := 2, maxLocals := 4, code := prog_10_method_1_code, exceptionTable := #[], attributes := #[] }
def k11m0 : Method := { name := "<init>", desc := "(Lcom/example/updatable_views/updatableviews/SqlToken$Kind;II)V", sig := { parameters := [(.object "com/example/updatable_views/updatableviews/SqlToken$Kind"), .int, .int], returnType := none }, accessFlags := 0, code := some k11c0 }
def k11c1 : Code := { maxStack := 3, maxLocals := 6, code := prog_10_method_5_code, exceptionTable := #[], attributes := #[] }
def k11m1 : Method := { name := "isKeyword", desc := "(Ljava/lang/CharSequence;Ljava/lang/String;)Z", sig := { parameters := [(.object "java/lang/CharSequence"), (.object "java/lang/String")], returnType := some .boolean }, accessFlags := 0, code := some k11c1 }
/-- com/example/updatable_views/updatableviews/SqlToken -/
def k11 : Class := { plain "com/example/updatable_views/updatableviews/SqlToken" (some 0) with
  accessFlags := 48
  interfaces := #[]
  cf := some (fileOf pool11 8 #[.nestMembers #[21]] #[{ accessFlags := 0, nameIndex := 5, descriptorIndex := 41, attributes := #[] }, { accessFlags := 0, nameIndex := 45, descriptorIndex := 46, attributes := #[] }] 48 2 #[] #[{ accessFlags := 18, nameIndex := 11, descriptorIndex := 12, attributes := #[] }, { accessFlags := 18, nameIndex := 15, descriptorIndex := 16, attributes := #[] }, { accessFlags := 18, nameIndex := 19, descriptorIndex := 16, attributes := #[] }])
  fields := #[{ name := "kind", type := (.object "com/example/updatable_views/updatableviews/SqlToken$Kind"), accessFlags := 18, slot := 0, constantValue := 0 }, { name := "start", type := .int, accessFlags := 18, slot := 1, constantValue := 0 }, { name := "end", type := .int, accessFlags := 18, slot := 2, constantValue := 0 }]
  methods := #[k11m0, k11m1]
  instanceTypes := #[(.object "com/example/updatable_views/updatableviews/SqlToken$Kind"), .int, .int]
  staticTypes := #[]
  resolved := Array.replicate 55 none
  statics := none }

def pool12 : Array CpInfo := pool [(1, .class_ 2), (0, u "java/lang/String"), (1, .class_ 6), (1, u "java/lang/Object"), (0, u "<init>"), (0, u "()V"), (0, .methodref 1 10), (0, .nameAndType 11 12), (0, u "checkIndex"), (0, u "(II)V"), (1, .class_ 16), (1, u "java/lang/StringLatin1"), (36, u "([BI)C"), (67, u "$assertionsDisabled"), (0, u "Z"), (98, .class_ 223), (1, u "java/lang/StringLatin1$LinesSpliterator"), (28, u "charAt"), (137, .class_ 391), (0, u "java/lang/StringLatin1$CharsSpliterator")] 3

def k12m0 : Method := { name := "<init>", desc := "()V", sig := { parameters := [], returnType := none }, accessFlags := 0, code := none }
def k12c1 : Code := { maxStack := 2, maxLocals := 2, code := jdk_43_method_2_code, exceptionTable := #[], attributes := #[] }
def k12m1 : Method := { name := "charAt", desc := "([BI)C", sig := { parameters := [(.array .byte), .int], returnType := some .char }, accessFlags := 9, code := some k12c1 }
/-- java/lang/StringLatin1 -/
def k12 : Class := { plain "java/lang/StringLatin1" (some 0) with
  accessFlags := 48
  interfaces := #[]
  cf := some (fileOf pool12 14 #[.nestMembers #[390, 221]] #[{ accessFlags := 0, nameIndex := 7, descriptorIndex := 8, attributes := #[] }, { accessFlags := 9, nameIndex := 252, descriptorIndex := 53, attributes := #[] }] 48 4 #[] #[{ accessFlags := 4120, nameIndex := 121, descriptorIndex := 122, attributes := #[] }])
  fields := #[{ name := "$assertionsDisabled", type := .boolean, accessFlags := 4120, slot := 0, constantValue := 0 }]
  methods := #[k12m0, k12m1]
  instanceTypes := #[]
  staticTypes := #[.boolean]
  resolved := Array.replicate 395 none
  statics := none }

def pool13 : Array CpInfo := pool [(2, .class_ 4), (1, u "java/lang/Object"), (0, u "<init>"), (0, u "()V"), (17, .class_ 26), (1, u "jdk/internal/util/Preconditions"), (6, u "checkIndex"), (21, .class_ 56), (0, u "jdk/internal/util/Preconditions$4"), (57, .class_ 115), (0, u "jdk/internal/util/Preconditions$1"), (7, u "SIOOBE_FORMATTER"), (0, u "Ljava/util/function/BiFunction;"), (0, .class_ 126), (0, u "jdk/internal/util/Preconditions$2"), (3, u "AIOOBE_FORMATTER"), (0, .class_ 132), (0, u "jdk/internal/util/Preconditions$3"), (3, u "IOOBE_FORMATTER"), (41, u "(IILjava/util/function/BiFunction;)I")] 15

def k13m0 : Method := { name := "<init>", desc := "()V", sig := { parameters := [], returnType := none }, accessFlags := 1, code := none }
def k13c1 : Code := { maxStack := 3, maxLocals := 3, code := jdk_41_method_11_code, exceptionTable := #[], attributes := #[] }
def k13m1 : Method := { name := "checkIndex", desc := "(IILjava/util/function/BiFunction;)I", sig := { parameters := [.int, .int, (.object "java/util/function/BiFunction")], returnType := some .int }, accessFlags := 9, code := some k13c1 }
/-- jdk/internal/util/Preconditions -/
def k13 : Class := { plain "jdk/internal/util/Preconditions" (some 0) with
  accessFlags := 33
  interfaces := #[]
  cf := some (fileOf pool13 24 #[.nestMembers #[55, 131, 125, 114]] #[{ accessFlags := 1, nameIndex := 5, descriptorIndex := 6, attributes := #[] }, { accessFlags := 9, nameIndex := 33, descriptorIndex := 178, attributes := #[] }] 33 2 #[] #[{ accessFlags := 25, nameIndex := 123, descriptorIndex := 124, attributes := #[] }, { accessFlags := 25, nameIndex := 130, descriptorIndex := 124, attributes := #[] }, { accessFlags := 25, nameIndex := 136, descriptorIndex := 124, attributes := #[] }])
  fields := #[{ name := "SIOOBE_FORMATTER", type := (.object "java/util/function/BiFunction"), accessFlags := 25, slot := 0, constantValue := 0 }, { name := "AIOOBE_FORMATTER", type := (.object "java/util/function/BiFunction"), accessFlags := 25, slot := 1, constantValue := 0 }, { name := "IOOBE_FORMATTER", type := (.object "java/util/function/BiFunction"), accessFlags := 25, slot := 2, constantValue := 0 }]
  methods := #[k13m0, k13m1]
  instanceTypes := #[]
  staticTypes := #[(.object "java/util/function/BiFunction"), (.object "java/util/function/BiFunction"), (.object "java/util/function/BiFunction")]
  resolved := Array.replicate 194 none
  statics := some 3 }

def pool14 : Array CpInfo := pool [(9, u "<init>"), (6, .class_ 18), (1, u "java/lang/Object"), (0, u "()V"), (1, .class_ 23), (1, u "jdk/internal/util/ArraysSupport"), (0, u "LOG2_ARRAY_LONG_INDEX_SCALE"), (0, u "I"), (2, u "U"), (0, u "Ljdk/internal/misc/Unsafe;"), (8, u "BIG_ENDIAN"), (0, u "Z"), (8, u "LOG2_BYTE_BIT_SIZE"), (4, u "LOG2_ARRAY_INT_INDEX_SCALE"), (54, u "JLA"), (0, u "Ljdk/internal/access/JavaLangAccess;"), (11, u "LOG2_ARRAY_BOOLEAN_INDEX_SCALE"), (9, u "LOG2_ARRAY_BYTE_INDEX_SCALE"), (5, u "LOG2_ARRAY_CHAR_INDEX_SCALE"), (5, u "LOG2_ARRAY_SHORT_INDEX_SCALE"), (18, u "LOG2_ARRAY_FLOAT_INDEX_SCALE"), (24, u "LOG2_ARRAY_DOUBLE_INDEX_SCALE"), (89, u "T_BOOLEAN"), (2, u "T_CHAR"), (1, u "T_FLOAT"), (1, u "T_DOUBLE"), (1, u "T_BYTE"), (1, u "T_SHORT"), (1, u "T_INT"), (1, u "T_LONG"), (1, u "SOFT_MAX_ARRAY_LENGTH")] 83

def k14m0 : Method := { name := "<init>", desc := "()V", sig := { parameters := [], returnType := none }, accessFlags := 2, code := none }
/-- jdk/internal/util/ArraysSupport -/
def k14 : Class := { plain "jdk/internal/util/ArraysSupport" (some 0) with
  accessFlags := 33
  interfaces := #[]
  cf := some (fileOf pool14 21 #[] #[{ accessFlags := 2, nameIndex := 9, descriptorIndex := 19, attributes := #[] }] 33 16 #[] #[{ accessFlags := 24, nameIndex := 28, descriptorIndex := 29, attributes := #[] }, { accessFlags := 26, nameIndex := 38, descriptorIndex := 39, attributes := #[] }, { accessFlags := 25, nameIndex := 121, descriptorIndex := 25, attributes := #[] }, { accessFlags := 25, nameIndex := 131, descriptorIndex := 25, attributes := #[] }, { accessFlags := 25, nameIndex := 137, descriptorIndex := 25, attributes := #[] }, { accessFlags := 25, nameIndex := 143, descriptorIndex := 25, attributes := #[] }, { accessFlags := 25, nameIndex := 53, descriptorIndex := 25, attributes := #[] }, { accessFlags := 25, nameIndex := 24, descriptorIndex := 25, attributes := #[] }, { accessFlags := 25, nameIndex := 162, descriptorIndex := 25, attributes := #[] }, { accessFlags := 25, nameIndex := 187, descriptorIndex := 25, attributes := #[] }, { accessFlags := 26, nameIndex := 48, descriptorIndex := 25, attributes := #[] }, { accessFlags := 25, nameIndex := 277, descriptorIndex := 25, attributes := #[] }, { accessFlags := 25, nameIndex := 280, descriptorIndex := 25, attributes := #[] }, { accessFlags := 25, nameIndex := 282, descriptorIndex := 25, attributes := #[] }, { accessFlags := 25, nameIndex := 284, descriptorIndex := 25, attributes := #[] }, { accessFlags := 25, nameIndex := 286, descriptorIndex := 25, attributes := #[] }, { accessFlags := 25, nameIndex := 288, descriptorIndex := 25, attributes := #[] }, { accessFlags := 25, nameIndex := 290, descriptorIndex := 25, attributes := #[] }, { accessFlags := 25, nameIndex := 292, descriptorIndex := 25, attributes := #[] }, { accessFlags := 26, nameIndex := 108, descriptorIndex := 109, attributes := #[] }, { accessFlags := 25, nameIndex := 294, descriptorIndex := 25, attributes := #[] }])
  fields := #[{ name := "U", type := (.object "jdk/internal/misc/Unsafe"), accessFlags := 24, slot := 0, constantValue := 0 }, { name := "BIG_ENDIAN", type := .boolean, accessFlags := 26, slot := 1, constantValue := 0 }, { name := "LOG2_ARRAY_BOOLEAN_INDEX_SCALE", type := .int, accessFlags := 25, slot := 2, constantValue := 0 }, { name := "LOG2_ARRAY_BYTE_INDEX_SCALE", type := .int, accessFlags := 25, slot := 3, constantValue := 0 }, { name := "LOG2_ARRAY_CHAR_INDEX_SCALE", type := .int, accessFlags := 25, slot := 4, constantValue := 0 }, { name := "LOG2_ARRAY_SHORT_INDEX_SCALE", type := .int, accessFlags := 25, slot := 5, constantValue := 0 }, { name := "LOG2_ARRAY_INT_INDEX_SCALE", type := .int, accessFlags := 25, slot := 6, constantValue := 0 }, { name := "LOG2_ARRAY_LONG_INDEX_SCALE", type := .int, accessFlags := 25, slot := 7, constantValue := 0 }, { name := "LOG2_ARRAY_FLOAT_INDEX_SCALE", type := .int, accessFlags := 25, slot := 8, constantValue := 0 }, { name := "LOG2_ARRAY_DOUBLE_INDEX_SCALE", type := .int, accessFlags := 25, slot := 9, constantValue := 0 }, { name := "LOG2_BYTE_BIT_SIZE", type := .int, accessFlags := 26, slot := 10, constantValue := 0 }, { name := "T_BOOLEAN", type := .int, accessFlags := 25, slot := 11, constantValue := 0 }, { name := "T_CHAR", type := .int, accessFlags := 25, slot := 12, constantValue := 0 }, { name := "T_FLOAT", type := .int, accessFlags := 25, slot := 13, constantValue := 0 }, { name := "T_DOUBLE", type := .int, accessFlags := 25, slot := 14, constantValue := 0 }, { name := "T_BYTE", type := .int, accessFlags := 25, slot := 15, constantValue := 0 }, { name := "T_SHORT", type := .int, accessFlags := 25, slot := 16, constantValue := 0 }, { name := "T_INT", type := .int, accessFlags := 25, slot := 17, constantValue := 0 }, { name := "T_LONG", type := .int, accessFlags := 25, slot := 18, constantValue := 0 }, { name := "JLA", type := (.object "jdk/internal/access/JavaLangAccess"), accessFlags := 26, slot := 19, constantValue := 0 }, { name := "SOFT_MAX_ARRAY_LENGTH", type := .int, accessFlags := 25, slot := 20, constantValue := 0 }]
  methods := #[k14m0]
  instanceTypes := #[]
  staticTypes := #[(.object "jdk/internal/misc/Unsafe"), .boolean, .int, .int, .int, .int, .int, .int, .int, .int, .int, .int, .int, .int, .int, .int, .int, .int, .int, (.object "jdk/internal/access/JavaLangAccess"), .int]
  resolved := Array.replicate 378 none
  statics := none }

def pool15 : Array CpInfo := pool [(1, u "java/lang/Cloneable"), (0, .class_ 1), (0, u "java/lang/Object"), (0, .class_ 3)] 3

/-- java/lang/Cloneable -/
def k15 : Class := { plain "java/lang/Cloneable" (some 0) with
  accessFlags := 1537
  interfaces := #[]
  cf := some (fileOf pool15 2 #[] #[] 1537 4 #[] #[])
  fields := #[]
  methods := #[]
  instanceTypes := #[]
  staticTypes := #[]
  resolved := Array.replicate 8 none
  statics := none }

/-- the primitive byte -/
def k16 : Class := { plain "byte" none with kind := .primitive 'B', accessFlags := 0x411 }
/-- [B -/
def k17 : Class := { plain "[B" (some 0) with kind := .array 16 .byte, interfaces := #[15, 4], accessFlags := 1041 }

/-- the primitive char -/
def k18 : Class := { plain "char" none with kind := .primitive 'C', accessFlags := 0x411 }
/-- [C -/
def k19 : Class := { plain "[C" (some 0) with kind := .array 18 .char, interfaces := #[15, 4], accessFlags := 1041 }

/-- the primitive int -/
def k20 : Class := { plain "int" none with kind := .primitive 'I', accessFlags := 0x411 }
/-- [I -/
def k21 : Class := { plain "[I" (some 0) with kind := .array 20 .int, interfaces := #[15, 4], accessFlags := 1041 }

/-- [Lcom/example/updatable_views/updatableviews/SqlToken$Kind; -/
def k22 : Class := { plain "[Lcom/example/updatable_views/updatableviews/SqlToken$Kind;" (some 0) with kind := .array 6 (.object "com/example/updatable_views/updatableviews/SqlToken$Kind"), interfaces := #[15, 4], accessFlags := 1041 }

def heap : Heap := #[{ cls := 6, slots := #[.ref 4, .ref 5, .ref 6, .ref 7, .ref 8, .ref 9, .ref 10, .ref 11, .null], vm := .statics 6 },
  { cls := 9, slots := #[.long 0, .int 1, .null, .int 0, .null, .int 0, .int 0], vm := .statics 9 },
  { cls := 10, slots := #[.int 0, .int 8, .int 0, .int 1], vm := .statics 10 },
  { cls := 13, slots := #[.null, .null, .null], vm := .statics 13 },
  { cls := 6, slots := #[.null, .int 0, .int 0], vm := .none },
  { cls := 6, slots := #[.null, .int 1, .int 0], vm := .none },
  { cls := 6, slots := #[.null, .int 2, .int 0], vm := .none },
  { cls := 6, slots := #[.null, .int 3, .int 0], vm := .none },
  { cls := 6, slots := #[.null, .int 4, .int 0], vm := .none },
  { cls := 6, slots := #[.null, .int 5, .int 0], vm := .none },
  { cls := 6, slots := #[.null, .int 6, .int 0], vm := .none },
  { cls := 6, slots := #[.null, .int 7, .int 0], vm := .none }]
def classes : Array Class := #[k0, k1, k2, k3, k4, k5, k6, k7, k8, k9, k10, k11, k12, k13, k14, k15, k16, k17, k18, k19, k20, k21, k22]
def interned : List (Array UInt16 × Addr) := []
def slotsUsed : Nat := 47
def theMethod : MethodId := ⟨1, 1⟩
def args0 : Array Value := #[.int 16, .long 65, .long 66, .int 67]
def aboutOver (below : List Frame) : State where
  vm := { classes := classes, interned := interned.toArray }
  heap := heap
  slotsUsed := slotsUsed
  threads := #[{ frames := .invoking theMethod args0 :: below }]
def below0 : List Frame := [.native { method := ⟨0, 0⟩, args := #[] }]
def about1 : State := aboutOver below0
def p0 : Program := .bare "" "" ""
def e0 : Env := launch0.env 0 0 0
theorem w_frames : about1.frames = Frame.invoking theMethod args0 :: below0 := rfl
set_option maxRecDepth 65536 in
theorem w_args : argsFit about1.vm theMethod args0 = true := by decide +kernel
set_option maxRecDepth 65536 in
theorem w_heap : heapFits about1 = true := by decide +kernel
set_option maxRecDepth 65536 in
theorem w_runnable : about1.curStatus? = some .runnable := by decide +kernel
set_option maxRecDepth 65536 in
theorem w_alone : about1.alone = true := by decide +kernel
set_option maxRecDepth 65536 in
theorem w_named : about1.methodNamed? x = some theMethod := by decide +kernel
set_option maxRecDepth 65536 in
theorem w_hears : about1.hears theMethod below0 = true := by decide +kernel
set_option maxRecDepth 65536 in
theorem w_ripe : about1.ripe theMethod args0 below0 = true := by decide +kernel
theorem w_running : about1.status = .running := rfl
set_option maxRecDepth 65536 in
theorem w_room : about1.hasRoom e0.platform room_1 = true :=
  launch0.hasRoom_least _ room_1 (by decide +kernel) (by decide +kernel) (by decide +kernel) (by decide +kernel) (by decide +kernel) (by decide +kernel)
theorem allAtoms_all (ts : List Jvm.Cond) (a : Array Jvm.Value) (st : Jvm.State) : (allAtoms ts).before a st = ts.all (fun c => c.before a st) := by
  induction ts with
  | nil => rfl
  | cons c t ih =>
    show (Jvm.Cond.and c (allAtoms t)).before a st = _
    rw [Jvm.Cond.before_and, ih, List.all_cons]
def words1 : List Jvm.Cond := Jvm.Cond.code x code maxLocals ret :: tables_1
/-- a 'code' word, met by the world's own term for the bytes: nothing is compared byte by byte -/
theorem code_word {y : MethodName} {bytes : ByteArray} {mx : Nat} {rt : Option FieldType} {a : Array Value} {s : State} {m : MethodId} {meth : Method} {c : Code} (h1 : s.methodNamed? y = some m) (h2 : s.vm.method? m = some meth) (h3 : meth.code = some c) (h4 : c.code = bytes)
    (h5 : (c.maxLocals == mx && c.exceptionTable.isEmpty && decide (c.maxStack ≤ mostOperands) && decide (meth.sig.returnType = rt) && !meth.locks && decide (parseMethodDescriptor y.desc = some meth.sig)) = true) : (Jvm.Cond.code y bytes mx rt).before a s = true := by
  simp only [Bool.and_eq_true, beq_iff_eq, Bool.not_eq_true', decide_eq_true_eq] at h5
  obtain ⟨⟨⟨⟨⟨g1, g2⟩, g3⟩, g4⟩, g5⟩, g6⟩ := h5
  simp [Cond.before, Cond.holds, Cond.value, h1, h2, h3, h4, g1, g2, g3, g4, g5, g6]
def isCode : Jvm.Cond → Bool
  | .code _ _ _ _ => true
  | _ => false
theorem all_split {L : List Jvm.Cond} {P : Jvm.Cond → Bool} (h1 : L.all (fun c => isCode c || P c) = true) (h2 : ∀ c ∈ L.filter isCode, P c = true) : L.all P = true := by
  refine List.all_eq_true.mpr fun c hc => ?_
  have h := List.all_eq_true.mp h1 c hc
  rcases Bool.eq_false_or_eq_true (isCode c) with hi | hi
  · exact h2 c (List.mem_filter.mpr ⟨hc, hi⟩)
  · simpa [hi] using h
set_option maxRecDepth 65536 in
theorem w_c0 : (Jvm.Cond.code x code maxLocals ret).before args0 about1 = true := code_word (m := ⟨1, 1⟩) (meth := k1m1) (c := k1c1) (by decide +kernel) rfl rfl rfl (by decide +kernel)
set_option maxRecDepth 65536 in
theorem w_c1 : (Jvm.Cond.code ({ cls := "com/example/updatable_views/updatableviews/SqlTokenIsKeywordPinLaw", name := "up", desc := "(C)C" } : Jvm.MethodName) method_3_code (1 : Nat) (Option.some Jvm.ClassFile.FieldType.char)).before args0 about1 = true := code_word (m := ⟨1, 2⟩) (meth := k1m2) (c := k1c2) (by decide +kernel) rfl rfl rfl (by decide +kernel)
set_option maxRecDepth 65536 in
theorem w_c2 : (Jvm.Cond.code ({ cls := "com/example/updatable_views/updatableviews/SqlTokenIsKeywordPinLaw", name := "place", desc := "(CCI)C" } : Jvm.MethodName) method_4_code (3 : Nat) (Option.some Jvm.ClassFile.FieldType.char)).before args0 about1 = true := code_word (m := ⟨1, 3⟩) (meth := k1m3) (c := k1c3) (by decide +kernel) rfl rfl rfl (by decide +kernel)
set_option maxRecDepth 65536 in
theorem w_c3 : (Jvm.Cond.code ({ cls := "java/lang/String", name := "<init>", desc := "([C)V" } : Jvm.MethodName) jdk_42_method_3_code (2 : Nat) (Option.none : Option Jvm.ClassFile.FieldType)).before args0 about1 = true := code_word (m := ⟨9, 1⟩) (meth := k9m1) (c := k9c1) (by decide +kernel) rfl rfl rfl (by decide +kernel)
set_option maxRecDepth 65536 in
theorem w_c4 : (Jvm.Cond.code ({ cls := "java/lang/String", name := "<init>", desc := "([CIILjava/lang/Void;)V" } : Jvm.MethodName) jdk_42_method_149_code (6 : Nat) (Option.none : Option Jvm.ClassFile.FieldType)).before args0 about1 = true := code_word (m := ⟨9, 4⟩) (meth := k9m4) (c := k9c4) (by decide +kernel) rfl rfl rfl (by decide +kernel)
set_option maxRecDepth 65536 in
theorem w_c5 : (Jvm.Cond.code ({ cls := "java/lang/Object", name := "<init>", desc := "()V" } : Jvm.MethodName) object_method_1_code (1 : Nat) (Option.none : Option Jvm.ClassFile.FieldType)).before args0 about1 = true := code_word (m := ⟨0, 0⟩) (meth := k0m0) (c := k0c0) (by decide +kernel) rfl rfl rfl (by decide +kernel)
set_option maxRecDepth 65536 in
theorem w_c6 : (Jvm.Cond.code ({ cls := "java/lang/StringUTF16", name := "compress", desc := "([CII)[B" } : Jvm.MethodName) jdk_52_method_16_code (6 : Nat) (Option.some (Jvm.ClassFile.FieldType.array Jvm.ClassFile.FieldType.byte))).before args0 about1 = true := code_word (m := ⟨10, 8⟩) (meth := k10m8) (c := k10c8) (by decide +kernel) rfl rfl rfl (by decide +kernel)
set_option maxRecDepth 65536 in
theorem w_c7 : (Jvm.Cond.code ({ cls := "java/lang/StringUTF16", name := "compress", desc := "([CI[BII)I" } : Jvm.MethodName) jdk_52_method_21_code (7 : Nat) (Option.some Jvm.ClassFile.FieldType.int)).before args0 about1 = true := code_word (m := ⟨10, 9⟩) (meth := k10m9) (c := k10c9) (by decide +kernel) rfl rfl rfl (by decide +kernel)
set_option maxRecDepth 65536 in
theorem w_c8 : (Jvm.Cond.code ({ cls := "java/lang/StringUTF16", name := "toBytes", desc := "([CII)[B" } : Jvm.MethodName) jdk_52_method_14_code (5 : Nat) (Option.some (Jvm.ClassFile.FieldType.array Jvm.ClassFile.FieldType.byte))).before args0 about1 = true := code_word (m := ⟨10, 6⟩) (meth := k10m6) (c := k10c6) (by decide +kernel) rfl rfl rfl (by decide +kernel)
set_option maxRecDepth 65536 in
theorem w_c9 : (Jvm.Cond.code ({ cls := "java/lang/StringUTF16", name := "newBytesFor", desc := "(I)[B" } : Jvm.MethodName) jdk_52_method_2_code (1 : Nat) (Option.some (Jvm.ClassFile.FieldType.array Jvm.ClassFile.FieldType.byte))).before args0 about1 = true := code_word (m := ⟨10, 1⟩) (meth := k10m1) (c := k10c1) (by decide +kernel) rfl rfl rfl (by decide +kernel)
set_option maxRecDepth 65536 in
theorem w_c10 : (Jvm.Cond.code ({ cls := "java/lang/StringUTF16", name := "newBytesLength", desc := "(I)I" } : Jvm.MethodName) jdk_52_method_3_code (1 : Nat) (Option.some Jvm.ClassFile.FieldType.int)).before args0 about1 = true := code_word (m := ⟨10, 2⟩) (meth := k10m2) (c := k10c2) (by decide +kernel) rfl rfl rfl (by decide +kernel)
set_option maxRecDepth 65536 in
theorem w_c11 : (Jvm.Cond.code ({ cls := "java/lang/StringUTF16", name := "putChar", desc := "([BII)V" } : Jvm.MethodName) jdk_52_method_4_code (3 : Nat) (Option.none : Option Jvm.ClassFile.FieldType)).before args0 about1 = true := code_word (m := ⟨10, 3⟩) (meth := k10m3) (c := k10c3) (by decide +kernel) rfl rfl rfl (by decide +kernel)
set_option maxRecDepth 65536 in
theorem w_c12 : (Jvm.Cond.code ({ cls := "java/lang/StringUTF16", name := "getChar", desc := "([BI)C" } : Jvm.MethodName) jdk_52_method_5_code (2 : Nat) (Option.some Jvm.ClassFile.FieldType.char)).before args0 about1 = true := code_word (m := ⟨10, 4⟩) (meth := k10m4) (c := k10c4) (by decide +kernel) rfl rfl rfl (by decide +kernel)
set_option maxRecDepth 65536 in
theorem w_c13 : (Jvm.Cond.code ({ cls := "java/lang/StringUTF16", name := "coderFromArrayLen", desc := "([BI)B" } : Jvm.MethodName) jdk_52_method_15_code (2 : Nat) (Option.some Jvm.ClassFile.FieldType.byte)).before args0 about1 = true := code_word (m := ⟨10, 7⟩) (meth := k10m7) (c := k10c7) (by decide +kernel) rfl rfl rfl (by decide +kernel)
set_option maxRecDepth 65536 in
theorem w_c14 : (Jvm.Cond.code ({ cls := "com/example/updatable_views/updatableviews/SqlToken", name := "<init>", desc := "(Lcom/example/updatable_views/updatableviews/SqlToken$Kind;II)V" } : Jvm.MethodName) prog_10_method_1_code (4 : Nat) (Option.none : Option Jvm.ClassFile.FieldType)).before args0 about1 = true := code_word (m := ⟨11, 0⟩) (meth := k11m0) (c := k11c0) (by decide +kernel) rfl rfl rfl (by decide +kernel)
set_option maxRecDepth 65536 in
theorem w_c15 : (Jvm.Cond.code ({ cls := "com/example/updatable_views/updatableviews/SqlToken", name := "isKeyword", desc := "(Ljava/lang/CharSequence;Ljava/lang/String;)Z" } : Jvm.MethodName) prog_10_method_5_code (6 : Nat) (Option.some Jvm.ClassFile.FieldType.boolean)).before args0 about1 = true := code_word (m := ⟨11, 1⟩) (meth := k11m1) (c := k11c1) (by decide +kernel) rfl rfl rfl (by decide +kernel)
set_option maxRecDepth 65536 in
theorem w_c16 : (Jvm.Cond.code ({ cls := "java/lang/String", name := "length", desc := "()I" } : Jvm.MethodName) jdk_42_method_54_code (1 : Nat) (Option.some Jvm.ClassFile.FieldType.int)).before args0 about1 = true := code_word (m := ⟨9, 2⟩) (meth := k9m2) (c := k9c2) (by decide +kernel) rfl rfl rfl (by decide +kernel)
set_option maxRecDepth 65536 in
theorem w_c17 : (Jvm.Cond.code ({ cls := "java/lang/String", name := "coder", desc := "()B" } : Jvm.MethodName) jdk_42_method_152_code (1 : Nat) (Option.some Jvm.ClassFile.FieldType.byte)).before args0 about1 = true := code_word (m := ⟨9, 5⟩) (meth := k9m5) (c := k9c5) (by decide +kernel) rfl rfl rfl (by decide +kernel)
set_option maxRecDepth 65536 in
theorem w_c18 : (Jvm.Cond.code ({ cls := "java/lang/String", name := "charAt", desc := "(I)C" } : Jvm.MethodName) jdk_42_method_56_code (2 : Nat) (Option.some Jvm.ClassFile.FieldType.char)).before args0 about1 = true := code_word (m := ⟨9, 3⟩) (meth := k9m3) (c := k9c3) (by decide +kernel) rfl rfl rfl (by decide +kernel)
set_option maxRecDepth 65536 in
theorem w_c19 : (Jvm.Cond.code ({ cls := "java/lang/String", name := "isLatin1", desc := "()Z" } : Jvm.MethodName) jdk_42_method_154_code (1 : Nat) (Option.some Jvm.ClassFile.FieldType.boolean)).before args0 about1 = true := code_word (m := ⟨9, 6⟩) (meth := k9m6) (c := k9c6) (by decide +kernel) rfl rfl rfl (by decide +kernel)
set_option maxRecDepth 65536 in
theorem w_c20 : (Jvm.Cond.code ({ cls := "java/lang/StringLatin1", name := "charAt", desc := "([BI)C" } : Jvm.MethodName) jdk_43_method_2_code (2 : Nat) (Option.some Jvm.ClassFile.FieldType.char)).before args0 about1 = true := code_word (m := ⟨12, 1⟩) (meth := k12m1) (c := k12c1) (by decide +kernel) rfl rfl rfl (by decide +kernel)
set_option maxRecDepth 65536 in
theorem w_c21 : (Jvm.Cond.code ({ cls := "java/lang/String", name := "checkIndex", desc := "(II)V" } : Jvm.MethodName) jdk_42_method_155_code (2 : Nat) (Option.none : Option Jvm.ClassFile.FieldType)).before args0 about1 = true := code_word (m := ⟨9, 7⟩) (meth := k9m7) (c := k9c7) (by decide +kernel) rfl rfl rfl (by decide +kernel)
set_option maxRecDepth 65536 in
theorem w_c22 : (Jvm.Cond.code ({ cls := "jdk/internal/util/Preconditions", name := "checkIndex", desc := "(IILjava/util/function/BiFunction;)I" } : Jvm.MethodName) jdk_41_method_11_code (3 : Nat) (Option.some Jvm.ClassFile.FieldType.int)).before args0 about1 = true := code_word (m := ⟨13, 1⟩) (meth := k13m1) (c := k13c1) (by decide +kernel) rfl rfl rfl (by decide +kernel)
set_option maxRecDepth 65536 in
theorem w_c23 : (Jvm.Cond.code ({ cls := "com/example/updatable_views/updatableviews/SqlTokenIsKeywordPinLaw", name := "same", desc := "(CC)Z" } : Jvm.MethodName) method_5_code (2 : Nat) (Option.some Jvm.ClassFile.FieldType.boolean)).before args0 about1 = true := code_word (m := ⟨1, 4⟩) (meth := k1m4) (c := k1c4) (by decide +kernel) rfl rfl rfl (by decide +kernel)
set_option maxRecDepth 65536 in
theorem w_c24 : (Jvm.Cond.code ({ cls := "java/lang/StringUTF16", name := "charAt", desc := "([BI)C" } : Jvm.MethodName) jdk_52_method_83_code (2 : Nat) (Option.some Jvm.ClassFile.FieldType.char)).before args0 about1 = true := code_word (m := ⟨10, 10⟩) (meth := k10m10) (c := k10c10) (by decide +kernel) rfl rfl rfl (by decide +kernel)
set_option maxRecDepth 65536 in
theorem w_c25 : (Jvm.Cond.code ({ cls := "java/lang/StringUTF16", name := "checkIndex", desc := "(I[B)V" } : Jvm.MethodName) jdk_52_method_91_code (2 : Nat) (Option.none : Option Jvm.ClassFile.FieldType)).before args0 about1 = true := code_word (m := ⟨10, 11⟩) (meth := k10m11) (c := k10c11) (by decide +kernel) rfl rfl rfl (by decide +kernel)
set_option maxRecDepth 65536 in
theorem w_c26 : (Jvm.Cond.code ({ cls := "java/lang/StringUTF16", name := "length", desc := "([B)I" } : Jvm.MethodName) jdk_52_method_6_code (1 : Nat) (Option.some Jvm.ClassFile.FieldType.int)).before args0 about1 = true := code_word (m := ⟨10, 5⟩) (meth := k10m5) (c := k10c5) (by decide +kernel) rfl rfl rfl (by decide +kernel)
def codes1 : List Jvm.Cond := [Jvm.Cond.code x code maxLocals ret, Jvm.Cond.code ({ cls := "com/example/updatable_views/updatableviews/SqlTokenIsKeywordPinLaw", name := "up", desc := "(C)C" } : Jvm.MethodName) method_3_code (1 : Nat) (Option.some Jvm.ClassFile.FieldType.char), Jvm.Cond.code ({ cls := "com/example/updatable_views/updatableviews/SqlTokenIsKeywordPinLaw", name := "place", desc := "(CCI)C" } : Jvm.MethodName) method_4_code (3 : Nat) (Option.some Jvm.ClassFile.FieldType.char), Jvm.Cond.code ({ cls := "java/lang/String", name := "<init>", desc := "([C)V" } : Jvm.MethodName) jdk_42_method_3_code (2 : Nat) (Option.none : Option Jvm.ClassFile.FieldType), Jvm.Cond.code ({ cls := "java/lang/String", name := "<init>", desc := "([CIILjava/lang/Void;)V" } : Jvm.MethodName) jdk_42_method_149_code (6 : Nat) (Option.none : Option Jvm.ClassFile.FieldType), Jvm.Cond.code ({ cls := "java/lang/Object", name := "<init>", desc := "()V" } : Jvm.MethodName) object_method_1_code (1 : Nat) (Option.none : Option Jvm.ClassFile.FieldType), Jvm.Cond.code ({ cls := "java/lang/StringUTF16", name := "compress", desc := "([CII)[B" } : Jvm.MethodName) jdk_52_method_16_code (6 : Nat) (Option.some (Jvm.ClassFile.FieldType.array Jvm.ClassFile.FieldType.byte)), Jvm.Cond.code ({ cls := "java/lang/StringUTF16", name := "compress", desc := "([CI[BII)I" } : Jvm.MethodName) jdk_52_method_21_code (7 : Nat) (Option.some Jvm.ClassFile.FieldType.int), Jvm.Cond.code ({ cls := "java/lang/StringUTF16", name := "toBytes", desc := "([CII)[B" } : Jvm.MethodName) jdk_52_method_14_code (5 : Nat) (Option.some (Jvm.ClassFile.FieldType.array Jvm.ClassFile.FieldType.byte)), Jvm.Cond.code ({ cls := "java/lang/StringUTF16", name := "newBytesFor", desc := "(I)[B" } : Jvm.MethodName) jdk_52_method_2_code (1 : Nat) (Option.some (Jvm.ClassFile.FieldType.array Jvm.ClassFile.FieldType.byte)), Jvm.Cond.code ({ cls := "java/lang/StringUTF16", name := "newBytesLength", desc := "(I)I" } : Jvm.MethodName) jdk_52_method_3_code (1 : Nat) (Option.some Jvm.ClassFile.FieldType.int), Jvm.Cond.code ({ cls := "java/lang/StringUTF16", name := "putChar", desc := "([BII)V" } : Jvm.MethodName) jdk_52_method_4_code (3 : Nat) (Option.none : Option Jvm.ClassFile.FieldType), Jvm.Cond.code ({ cls := "java/lang/StringUTF16", name := "getChar", desc := "([BI)C" } : Jvm.MethodName) jdk_52_method_5_code (2 : Nat) (Option.some Jvm.ClassFile.FieldType.char), Jvm.Cond.code ({ cls := "java/lang/StringUTF16", name := "coderFromArrayLen", desc := "([BI)B" } : Jvm.MethodName) jdk_52_method_15_code (2 : Nat) (Option.some Jvm.ClassFile.FieldType.byte), Jvm.Cond.code ({ cls := "com/example/updatable_views/updatableviews/SqlToken", name := "<init>", desc := "(Lcom/example/updatable_views/updatableviews/SqlToken$Kind;II)V" } : Jvm.MethodName) prog_10_method_1_code (4 : Nat) (Option.none : Option Jvm.ClassFile.FieldType), Jvm.Cond.code ({ cls := "com/example/updatable_views/updatableviews/SqlToken", name := "isKeyword", desc := "(Ljava/lang/CharSequence;Ljava/lang/String;)Z" } : Jvm.MethodName) prog_10_method_5_code (6 : Nat) (Option.some Jvm.ClassFile.FieldType.boolean), Jvm.Cond.code ({ cls := "java/lang/String", name := "length", desc := "()I" } : Jvm.MethodName) jdk_42_method_54_code (1 : Nat) (Option.some Jvm.ClassFile.FieldType.int), Jvm.Cond.code ({ cls := "java/lang/String", name := "coder", desc := "()B" } : Jvm.MethodName) jdk_42_method_152_code (1 : Nat) (Option.some Jvm.ClassFile.FieldType.byte), Jvm.Cond.code ({ cls := "java/lang/String", name := "charAt", desc := "(I)C" } : Jvm.MethodName) jdk_42_method_56_code (2 : Nat) (Option.some Jvm.ClassFile.FieldType.char), Jvm.Cond.code ({ cls := "java/lang/String", name := "isLatin1", desc := "()Z" } : Jvm.MethodName) jdk_42_method_154_code (1 : Nat) (Option.some Jvm.ClassFile.FieldType.boolean), Jvm.Cond.code ({ cls := "java/lang/StringLatin1", name := "charAt", desc := "([BI)C" } : Jvm.MethodName) jdk_43_method_2_code (2 : Nat) (Option.some Jvm.ClassFile.FieldType.char), Jvm.Cond.code ({ cls := "java/lang/String", name := "checkIndex", desc := "(II)V" } : Jvm.MethodName) jdk_42_method_155_code (2 : Nat) (Option.none : Option Jvm.ClassFile.FieldType), Jvm.Cond.code ({ cls := "jdk/internal/util/Preconditions", name := "checkIndex", desc := "(IILjava/util/function/BiFunction;)I" } : Jvm.MethodName) jdk_41_method_11_code (3 : Nat) (Option.some Jvm.ClassFile.FieldType.int), Jvm.Cond.code ({ cls := "com/example/updatable_views/updatableviews/SqlTokenIsKeywordPinLaw", name := "same", desc := "(CC)Z" } : Jvm.MethodName) method_5_code (2 : Nat) (Option.some Jvm.ClassFile.FieldType.boolean), Jvm.Cond.code ({ cls := "java/lang/StringUTF16", name := "charAt", desc := "([BI)C" } : Jvm.MethodName) jdk_52_method_83_code (2 : Nat) (Option.some Jvm.ClassFile.FieldType.char), Jvm.Cond.code ({ cls := "java/lang/StringUTF16", name := "checkIndex", desc := "(I[B)V" } : Jvm.MethodName) jdk_52_method_91_code (2 : Nat) (Option.none : Option Jvm.ClassFile.FieldType), Jvm.Cond.code ({ cls := "java/lang/StringUTF16", name := "length", desc := "([B)I" } : Jvm.MethodName) jdk_52_method_6_code (1 : Nat) (Option.some Jvm.ClassFile.FieldType.int)]
set_option maxRecDepth 65536 in
theorem codes_eq : words1.filter isCode = codes1 := rfl
theorem w_codes : ∀ c ∈ words1.filter isCode, c.before args0 about1 = true := by
  rw [codes_eq]
  intro c hc
  simp only [codes1, List.mem_cons, List.not_mem_nil, or_false] at hc
  rcases hc with rfl | rfl | rfl | rfl | rfl | rfl | rfl | rfl | rfl | rfl | rfl | rfl | rfl | rfl | rfl | rfl | rfl | rfl | rfl | rfl | rfl | rfl | rfl | rfl | rfl | rfl | rfl
  · exact w_c0
  · exact w_c1
  · exact w_c2
  · exact w_c3
  · exact w_c4
  · exact w_c5
  · exact w_c6
  · exact w_c7
  · exact w_c8
  · exact w_c9
  · exact w_c10
  · exact w_c11
  · exact w_c12
  · exact w_c13
  · exact w_c14
  · exact w_c15
  · exact w_c16
  · exact w_c17
  · exact w_c18
  · exact w_c19
  · exact w_c20
  · exact w_c21
  · exact w_c22
  · exact w_c23
  · exact w_c24
  · exact w_c25
  · exact w_c26
set_option maxRecDepth 65536 in
theorem w_t1 : (words1.take 24).all (fun c => isCode c || c.before args0 about1) = true := by decide +kernel
set_option maxRecDepth 65536 in
theorem w_t2 : ((words1.drop 24).take 24).all (fun c => isCode c || c.before args0 about1) = true := by decide +kernel
set_option maxRecDepth 65536 in
theorem w_t3 : (((words1.drop 24).drop 24).take 24).all (fun c => isCode c || c.before args0 about1) = true := by decide +kernel
set_option maxRecDepth 65536 in
theorem w_t4 : ((((words1.drop 24).drop 24).drop 24).take 24).all (fun c => isCode c || c.before args0 about1) = true := by decide +kernel
set_option maxRecDepth 65536 in
theorem w_t5 : (((((words1.drop 24).drop 24).drop 24).drop 24).take 24).all (fun c => isCode c || c.before args0 about1) = true := by decide +kernel
set_option maxRecDepth 65536 in
theorem w_t6 : ((((((words1.drop 24).drop 24).drop 24).drop 24).drop 24).take 24).all (fun c => isCode c || c.before args0 about1) = true := by decide +kernel
set_option maxRecDepth 65536 in
theorem w_t7 : ((((((words1.drop 24).drop 24).drop 24).drop 24).drop 24).drop 24).all (fun c => isCode c || c.before args0 about1) = true := by decide +kernel
theorem w_tables : (allAtoms (Jvm.Cond.code x code maxLocals ret :: tables_1)).before args0 about1 = true := by
  rw [allAtoms_all]
  show words1.all (fun c => c.before args0 about1) = true
  refine all_split ?_ w_codes
  rw [← List.take_append_drop 24 words1, List.all_append, w_t1, ← List.take_append_drop 24 (words1.drop 24), List.all_append, w_t2, ← List.take_append_drop 24 ((words1.drop 24).drop 24), List.all_append, w_t3, ← List.take_append_drop 24 (((words1.drop 24).drop 24).drop 24), List.all_append, w_t4, ← List.take_append_drop 24 ((((words1.drop 24).drop 24).drop 24).drop 24), List.all_append, w_t5, ← List.take_append_drop 24 (((((words1.drop 24).drop 24).drop 24).drop 24).drop 24), List.all_append, w_t6, w_t7]
  rfl
set_option maxRecDepth 65536 in
theorem w_rest : rest_1_c.before args0 about1 = true := by decide +kernel
set_option maxRecDepth 65536 in
theorem w_case : (Jvm.Cond.and given_1 narrow_1).before args0 about1 = true := by decide +kernel
set_option maxRecDepth 65536 in
theorem w_consts : constsHeld consts_1 about1 := Jvm.Lit.constsHeldB_iff.mp (by decide +kernel)
theorem w_applies : (headSpec (Jvm.Cond.code x code maxLocals ret :: tables_1) room_1).applies x e0.platform about1 = true :=
  (Spec.applies_iff w_frames).mpr ⟨w_running, w_runnable, w_alone, w_named, w_hears, w_ripe, w_room, w_tables⟩
theorem atStart : AtStart classFile x code maxLocals ret World_1 tables_1 room_1 Calls_1 rest_1 Pre_1 launch0 p0 e0 about1 theMethod args0 below0 :=
  ⟨lists_1, trivial, launch0.admits_env _ _ _, launch0.least_env, fairChoices_fair.cas, fairChoices_fair.clock, w_frames, w_args, w_heap, w_applies, ⟨w_consts, trivial⟩, w_rest, w_case⟩
end start1
theorem witness_1 : WitnessClaimed_1 := ⟨start1.p0, start1.e0, start1.about1, start1.theMethod, start1.args0, start1.below0, start1.atStart⟩
end Jvm.Pilot.@@N@@
