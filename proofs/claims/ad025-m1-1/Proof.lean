import JvmDerived
import JvmDerived.Pilot.@@N@@Statement
import JvmDerived.Pilot.@@N@@Code
set_option linter.unusedVariables false
set_option linter.unusedSimpArgs false
namespace Jvm.Pilot.@@N@@
open Jvm Jvm.ClassFile Sem Op Lib Jvm.Free Jvm.Stand Jvm.LawKit Jvm.RoadKit Bundle Jvm.Pilot.@@N@@.Jvm.D
section OwnBase
def Gets (tb : Tables) (e : Env) (below : List Frame) (P : Outcome → State → Prop) (T : State) (g : JFrame) : Prop := ∃ t o, Steps tb e below (T.setTop g) t ∧ t.status = .running ∧ Ended t below o ∧ P o t
theorem Gets.by {tb : Tables} {e : Env} {below : List Frame} {P : Outcome → State → Prop} {T T' : State} {g g' : JFrame} (h : Gets tb e below P T' g') (k : ∀ t, Steps tb e below (T'.setTop g') t → Steps tb e below (T.setTop g) t) : Gets tb e below P T g := by
  obtain ⟨t, o, h1, h2⟩ := h
  exact ⟨t, o, k t h1, h2⟩
theorem g_iloadN {tb : Tables} [Ours tb] {e : Env} {below : List Frame} {T : State} {m : MethodId} {c : Code} {P : Outcome → State → Prop} {pc pc' : Nat} {Ls : Array Slot} {st : List Value} {j : Fin 4} {v : Int32} (H : At T m c below) (hx : tb.exec = Jvm.exec) (hd : decode c.code pc = .ok (.iload_n j, 1)) (hl : Ls[j.val]? = some (.val (.int v))) (hp : pc + 1 = pc')
    (k : Gets tb e below P T (mkF m pc' Ls (.int v :: st))) : Gets tb e below P T (mkF m pc Ls (st)) := by
  subst hp; refine k.by fun t qq => ?_; exact XS.iloadN H hx rfl hd hl qq
theorem g_iload {tb : Tables} [Ours tb] {e : Env} {below : List Frame} {T : State} {m : MethodId} {c : Code} {P : Outcome → State → Prop} {pc pc' : Nat} {Ls : Array Slot} {st : List Value} {j : Nat} {v : Int32} (H : At T m c below) (hx : tb.exec = Jvm.exec) (hd : decode c.code pc = .ok (.iload j, 2)) (hl : Ls[j]? = some (.val (.int v))) (hp : pc + 2 = pc')
    (k : Gets tb e below P T (mkF m pc' Ls (.int v :: st))) : Gets tb e below P T (mkF m pc Ls (st)) := by
  subst hp; refine k.by fun t qq => ?_; exact XS.iload H hx rfl hd hl qq
theorem g_istoreN {tb : Tables} [Ours tb] {e : Env} {below : List Frame} {T : State} {m : MethodId} {c : Code} {P : Outcome → State → Prop} {pc pc' : Nat} {Ls : Array Slot} {st : List Value} {j : Fin 4} {v : Int32} {Ls' : Array Slot} (H : At T m c below) (hx : tb.exec = Jvm.exec) (hd : decode c.code pc = .ok (.istore_n j, 1)) (hl : storeLocals Ls j.val (.int v) = some Ls') (hp : pc + 1 = pc')
    (k : Gets tb e below P T (mkF m pc' Ls' (st))) : Gets tb e below P T (mkF m pc Ls (.int v :: st)) := by
  subst hp; refine k.by fun t qq => ?_; exact XS.istoreN H hx rfl hd rfl hl qq
theorem g_istore {tb : Tables} [Ours tb] {e : Env} {below : List Frame} {T : State} {m : MethodId} {c : Code} {P : Outcome → State → Prop} {pc pc' : Nat} {Ls : Array Slot} {st : List Value} {j : Nat} {v : Int32} {Ls' : Array Slot} (H : At T m c below) (hx : tb.exec = Jvm.exec) (hd : decode c.code pc = .ok (.istore j, 2)) (hl : storeLocals Ls j (.int v) = some Ls') (hp : pc + 2 = pc')
    (k : Gets tb e below P T (mkF m pc' Ls' (st))) : Gets tb e below P T (mkF m pc Ls (.int v :: st)) := by
  subst hp; refine k.by fun t qq => ?_; exact XS.istore H hx rfl hd rfl hl qq
theorem g_lloadN {tb : Tables} [Ours tb] {e : Env} {below : List Frame} {T : State} {m : MethodId} {c : Code} {P : Outcome → State → Prop} {pc pc' : Nat} {Ls : Array Slot} {st : List Value} {j : Fin 4} {v : Int64} (H : At T m c below) (hx : tb.exec = Jvm.exec) (hd : decode c.code pc = .ok (.lload_n j, 1)) (hl : Ls[j.val]? = some (.val (.long v))) (hp : pc + 1 = pc')
    (k : Gets tb e below P T (mkF m pc' Ls (.long v :: st))) : Gets tb e below P T (mkF m pc Ls (st)) := by
  subst hp; refine k.by fun t qq => ?_; exact XS.lloadN H hx rfl hd hl qq
theorem g_lload {tb : Tables} [Ours tb] {e : Env} {below : List Frame} {T : State} {m : MethodId} {c : Code} {P : Outcome → State → Prop} {pc pc' : Nat} {Ls : Array Slot} {st : List Value} {j : Nat} {v : Int64} (H : At T m c below) (hx : tb.exec = Jvm.exec) (hd : decode c.code pc = .ok (.lload j, 2)) (hl : Ls[j]? = some (.val (.long v))) (hp : pc + 2 = pc')
    (k : Gets tb e below P T (mkF m pc' Ls (.long v :: st))) : Gets tb e below P T (mkF m pc Ls (st)) := by
  subst hp; refine k.by fun t qq => ?_; exact XS.lload H hx rfl hd hl qq
theorem g_lstoreN {tb : Tables} [Ours tb] {e : Env} {below : List Frame} {T : State} {m : MethodId} {c : Code} {P : Outcome → State → Prop} {pc pc' : Nat} {Ls : Array Slot} {st : List Value} {j : Fin 4} {v : Int64} {Ls' : Array Slot} (H : At T m c below) (hx : tb.exec = Jvm.exec) (hd : decode c.code pc = .ok (.lstore_n j, 1)) (hl : storeLocals Ls j.val (.long v) = some Ls') (hp : pc + 1 = pc')
    (k : Gets tb e below P T (mkF m pc' Ls' (st))) : Gets tb e below P T (mkF m pc Ls (.long v :: st)) := by
  subst hp; refine k.by fun t qq => ?_; exact XS.lstoreN H hx rfl hd rfl hl qq
theorem g_lstore {tb : Tables} [Ours tb] {e : Env} {below : List Frame} {T : State} {m : MethodId} {c : Code} {P : Outcome → State → Prop} {pc pc' : Nat} {Ls : Array Slot} {st : List Value} {j : Nat} {v : Int64} {Ls' : Array Slot} (H : At T m c below) (hx : tb.exec = Jvm.exec) (hd : decode c.code pc = .ok (.lstore j, 2)) (hl : storeLocals Ls j (.long v) = some Ls') (hp : pc + 2 = pc')
    (k : Gets tb e below P T (mkF m pc' Ls' (st))) : Gets tb e below P T (mkF m pc Ls (.long v :: st)) := by
  subst hp; refine k.by fun t qq => ?_; exact XS.lstore H hx rfl hd rfl hl qq
theorem g_aloadN {tb : Tables} [Ours tb] {e : Env} {below : List Frame} {T : State} {m : MethodId} {c : Code} {P : Outcome → State → Prop} {pc pc' : Nat} {Ls : Array Slot} {st : List Value} {j : Fin 4} {v : Value} (H : At T m c below) (hx : tb.exec = Jvm.exec) (hd : decode c.code pc = .ok (.aload_n j, 1)) (hl : Ls[j.val]? = some (.val v)) (hv : v.isRef = true) (hp : pc + 1 = pc')
    (k : Gets tb e below P T (mkF m pc' Ls (v :: st))) : Gets tb e below P T (mkF m pc Ls (st)) := by
  subst hp; refine k.by fun t qq => ?_; exact XS.aloadN H hx rfl hd hl hv qq
theorem g_aload {tb : Tables} [Ours tb] {e : Env} {below : List Frame} {T : State} {m : MethodId} {c : Code} {P : Outcome → State → Prop} {pc pc' : Nat} {Ls : Array Slot} {st : List Value} {j : Nat} {v : Value} (H : At T m c below) (hx : tb.exec = Jvm.exec) (hd : decode c.code pc = .ok (.aload j, 2)) (hl : Ls[j]? = some (.val v)) (hv : v.isRef = true) (hp : pc + 2 = pc')
    (k : Gets tb e below P T (mkF m pc' Ls (v :: st))) : Gets tb e below P T (mkF m pc Ls (st)) := by
  subst hp; refine k.by fun t qq => ?_; exact XS.aload H hx rfl hd hl hv qq
theorem g_astoreN {tb : Tables} [Ours tb] {e : Env} {below : List Frame} {T : State} {m : MethodId} {c : Code} {P : Outcome → State → Prop} {pc pc' : Nat} {Ls : Array Slot} {st : List Value} {j : Fin 4} {v : Value} {Ls' : Array Slot} (H : At T m c below) (hx : tb.exec = Jvm.exec) (hd : decode c.code pc = .ok (.astore_n j, 1)) (hv : v.isRef = true) (hl : storeLocals Ls j.val v = some Ls') (hp : pc + 1 = pc')
    (k : Gets tb e below P T (mkF m pc' Ls' (st))) : Gets tb e below P T (mkF m pc Ls (v :: st)) := by
  subst hp; refine k.by fun t qq => ?_; exact XS.astoreN H hx rfl hd rfl hv hl qq
theorem g_astore {tb : Tables} [Ours tb] {e : Env} {below : List Frame} {T : State} {m : MethodId} {c : Code} {P : Outcome → State → Prop} {pc pc' : Nat} {Ls : Array Slot} {st : List Value} {j : Nat} {v : Value} {Ls' : Array Slot} (H : At T m c below) (hx : tb.exec = Jvm.exec) (hd : decode c.code pc = .ok (.astore j, 2)) (hv : v.isRef = true) (hl : storeLocals Ls j v = some Ls') (hp : pc + 2 = pc')
    (k : Gets tb e below P T (mkF m pc' Ls' (st))) : Gets tb e below P T (mkF m pc Ls (v :: st)) := by
  subst hp; refine k.by fun t qq => ?_; exact XS.astore H hx rfl hd rfl hv hl qq
theorem g_iconst {tb : Tables} [Ours tb] {e : Env} {below : List Frame} {T : State} {m : MethodId} {c : Code} {P : Outcome → State → Prop} {pc pc' : Nat} {Ls : Array Slot} {st : List Value} {i : Int} (v : Int32) (H : At T m c below) (hx : tb.exec = Jvm.exec) (hd : decode c.code pc = .ok (.iconst i, 1)) (hv : Int32.ofInt i = v) (hp : pc + 1 = pc')
    (k : Gets tb e below P T (mkF m pc' Ls (.int v :: st))) : Gets tb e below P T (mkF m pc Ls st) := by
  subst hp; subst hv; refine k.by fun t qq => ?_; exact XS.iconst H hx rfl hd qq
theorem g_bipush {tb : Tables} [Ours tb] {e : Env} {below : List Frame} {T : State} {m : MethodId} {c : Code} {P : Outcome → State → Prop} {pc pc' : Nat} {Ls : Array Slot} {st : List Value} {i : Int} (v : Int32) (H : At T m c below) (hx : tb.exec = Jvm.exec) (hd : decode c.code pc = .ok (.bipush i, 2)) (hv : (Int8.ofInt i).toInt32 = v) (hp : pc + 2 = pc')
    (k : Gets tb e below P T (mkF m pc' Ls (.int v :: st))) : Gets tb e below P T (mkF m pc Ls st) := by
  subst hp; subst hv; refine k.by fun t qq => ?_; exact XS.bipush H hx rfl hd qq
theorem g_sipush {tb : Tables} [Ours tb] {e : Env} {below : List Frame} {T : State} {m : MethodId} {c : Code} {P : Outcome → State → Prop} {pc pc' : Nat} {Ls : Array Slot} {st : List Value} {i : Int} (v : Int32) (H : At T m c below) (hx : tb.exec = Jvm.exec) (hd : decode c.code pc = .ok (.sipush i, 3)) (hv : (Int16.ofInt i).toInt32 = v) (hp : pc + 3 = pc')
    (k : Gets tb e below P T (mkF m pc' Ls (.int v :: st))) : Gets tb e below P T (mkF m pc Ls st) := by
  subst hp; subst hv; refine k.by fun t qq => ?_; exact XS.sipush H hx rfl hd qq
theorem g_aconstNull {tb : Tables} [Ours tb] {e : Env} {below : List Frame} {T : State} {m : MethodId} {c : Code} {P : Outcome → State → Prop} {pc pc' : Nat} {Ls : Array Slot} {st : List Value}  (H : At T m c below) (hx : tb.exec = Jvm.exec) (hd : decode c.code pc = .ok (.aconst_null, 1))  (hp : pc + 1 = pc')
    (k : Gets tb e below P T (mkF m pc' Ls (.null :: st))) : Gets tb e below P T (mkF m pc Ls (st)) := by
  subst hp; refine k.by fun t qq => ?_; exact XS.aconstNull H hx rfl hd  qq
theorem g_iadd {tb : Tables} [Ours tb] {e : Env} {below : List Frame} {T : State} {m : MethodId} {c : Code} {P : Outcome → State → Prop} {pc pc' : Nat} {Ls : Array Slot} {st : List Value} {x y : Int32} (H : At T m c below) (hx : tb.exec = Jvm.exec) (hd : decode c.code pc = .ok (.iadd, 1))  (hp : pc + 1 = pc')
    (k : Gets tb e below P T (mkF m pc' Ls (.int (x + y) :: st))) : Gets tb e below P T (mkF m pc Ls (.int y :: .int x :: st)) := by
  subst hp; refine k.by fun t qq => ?_; exact XS.iadd H hx rfl hd rfl qq
theorem g_isub {tb : Tables} [Ours tb] {e : Env} {below : List Frame} {T : State} {m : MethodId} {c : Code} {P : Outcome → State → Prop} {pc pc' : Nat} {Ls : Array Slot} {st : List Value} {x y : Int32} (H : At T m c below) (hx : tb.exec = Jvm.exec) (hd : decode c.code pc = .ok (.isub, 1))  (hp : pc + 1 = pc')
    (k : Gets tb e below P T (mkF m pc' Ls (.int (x - y) :: st))) : Gets tb e below P T (mkF m pc Ls (.int y :: .int x :: st)) := by
  subst hp; refine k.by fun t qq => ?_; exact XS.isub H hx rfl hd rfl qq
theorem g_imul {tb : Tables} [Ours tb] {e : Env} {below : List Frame} {T : State} {m : MethodId} {c : Code} {P : Outcome → State → Prop} {pc pc' : Nat} {Ls : Array Slot} {st : List Value} {x y : Int32} (H : At T m c below) (hx : tb.exec = Jvm.exec) (hd : decode c.code pc = .ok (.imul, 1))  (hp : pc + 1 = pc')
    (k : Gets tb e below P T (mkF m pc' Ls (.int (x * y) :: st))) : Gets tb e below P T (mkF m pc Ls (.int y :: .int x :: st)) := by
  subst hp; refine k.by fun t qq => ?_; exact XS.imul H hx rfl hd rfl qq
theorem g_iand {tb : Tables} [Ours tb] {e : Env} {below : List Frame} {T : State} {m : MethodId} {c : Code} {P : Outcome → State → Prop} {pc pc' : Nat} {Ls : Array Slot} {st : List Value} {x y : Int32} (H : At T m c below) (hx : tb.exec = Jvm.exec) (hd : decode c.code pc = .ok (.iand, 1))  (hp : pc + 1 = pc')
    (k : Gets tb e below P T (mkF m pc' Ls (.int (x &&& y) :: st))) : Gets tb e below P T (mkF m pc Ls (.int y :: .int x :: st)) := by
  subst hp; refine k.by fun t qq => ?_; exact XS.iand H hx rfl hd rfl qq
theorem g_ior {tb : Tables} [Ours tb] {e : Env} {below : List Frame} {T : State} {m : MethodId} {c : Code} {P : Outcome → State → Prop} {pc pc' : Nat} {Ls : Array Slot} {st : List Value} {x y : Int32} (H : At T m c below) (hx : tb.exec = Jvm.exec) (hd : decode c.code pc = .ok (.ior, 1))  (hp : pc + 1 = pc')
    (k : Gets tb e below P T (mkF m pc' Ls (.int (x ||| y) :: st))) : Gets tb e below P T (mkF m pc Ls (.int y :: .int x :: st)) := by
  subst hp; refine k.by fun t qq => ?_; exact XS.ior H hx rfl hd rfl qq
theorem g_ixor {tb : Tables} [Ours tb] {e : Env} {below : List Frame} {T : State} {m : MethodId} {c : Code} {P : Outcome → State → Prop} {pc pc' : Nat} {Ls : Array Slot} {st : List Value} {x y : Int32} (H : At T m c below) (hx : tb.exec = Jvm.exec) (hd : decode c.code pc = .ok (.ixor, 1))  (hp : pc + 1 = pc')
    (k : Gets tb e below P T (mkF m pc' Ls (.int (x ^^^ y) :: st))) : Gets tb e below P T (mkF m pc Ls (.int y :: .int x :: st)) := by
  subst hp; refine k.by fun t qq => ?_; exact XS.ixor H hx rfl hd rfl qq
theorem g_ishl {tb : Tables} [Ours tb] {e : Env} {below : List Frame} {T : State} {m : MethodId} {c : Code} {P : Outcome → State → Prop} {pc pc' : Nat} {Ls : Array Slot} {st : List Value} {x y : Int32} (H : At T m c below) (hx : tb.exec = Jvm.exec) (hd : decode c.code pc = .ok (.ishl, 1))  (hp : pc + 1 = pc')
    (k : Gets tb e below P T (mkF m pc' Ls (.int (x <<< (y &&& 31)) :: st))) : Gets tb e below P T (mkF m pc Ls (.int y :: .int x :: st)) := by
  subst hp; refine k.by fun t qq => ?_; exact XS.ishl H hx rfl hd rfl qq
theorem g_ishr {tb : Tables} [Ours tb] {e : Env} {below : List Frame} {T : State} {m : MethodId} {c : Code} {P : Outcome → State → Prop} {pc pc' : Nat} {Ls : Array Slot} {st : List Value} {x y : Int32} (H : At T m c below) (hx : tb.exec = Jvm.exec) (hd : decode c.code pc = .ok (.ishr, 1))  (hp : pc + 1 = pc')
    (k : Gets tb e below P T (mkF m pc' Ls (.int (x >>> (y &&& 31)) :: st))) : Gets tb e below P T (mkF m pc Ls (.int y :: .int x :: st)) := by
  subst hp; refine k.by fun t qq => ?_; exact XS.ishr H hx rfl hd rfl qq
theorem g_iushr {tb : Tables} [Ours tb] {e : Env} {below : List Frame} {T : State} {m : MethodId} {c : Code} {P : Outcome → State → Prop} {pc pc' : Nat} {Ls : Array Slot} {st : List Value} {x y : Int32} (H : At T m c below) (hx : tb.exec = Jvm.exec) (hd : decode c.code pc = .ok (.iushr, 1))  (hp : pc + 1 = pc')
    (k : Gets tb e below P T (mkF m pc' Ls (.int ((x.toUInt32 >>> (y &&& 31).toUInt32).toInt32) :: st))) : Gets tb e below P T (mkF m pc Ls (.int y :: .int x :: st)) := by
  subst hp; refine k.by fun t qq => ?_; exact XS.iushr H hx rfl hd rfl qq
theorem g_ladd {tb : Tables} [Ours tb] {e : Env} {below : List Frame} {T : State} {m : MethodId} {c : Code} {P : Outcome → State → Prop} {pc pc' : Nat} {Ls : Array Slot} {st : List Value} {x y : Int64} (H : At T m c below) (hx : tb.exec = Jvm.exec) (hd : decode c.code pc = .ok (.ladd, 1))  (hp : pc + 1 = pc')
    (k : Gets tb e below P T (mkF m pc' Ls (.long (x + y) :: st))) : Gets tb e below P T (mkF m pc Ls (.long y :: .long x :: st)) := by
  subst hp; refine k.by fun t qq => ?_; exact XS.ladd H hx rfl hd rfl qq
theorem g_lsub {tb : Tables} [Ours tb] {e : Env} {below : List Frame} {T : State} {m : MethodId} {c : Code} {P : Outcome → State → Prop} {pc pc' : Nat} {Ls : Array Slot} {st : List Value} {x y : Int64} (H : At T m c below) (hx : tb.exec = Jvm.exec) (hd : decode c.code pc = .ok (.lsub, 1))  (hp : pc + 1 = pc')
    (k : Gets tb e below P T (mkF m pc' Ls (.long (x - y) :: st))) : Gets tb e below P T (mkF m pc Ls (.long y :: .long x :: st)) := by
  subst hp; refine k.by fun t qq => ?_; exact XS.lsub H hx rfl hd rfl qq
theorem g_lmul {tb : Tables} [Ours tb] {e : Env} {below : List Frame} {T : State} {m : MethodId} {c : Code} {P : Outcome → State → Prop} {pc pc' : Nat} {Ls : Array Slot} {st : List Value} {x y : Int64} (H : At T m c below) (hx : tb.exec = Jvm.exec) (hd : decode c.code pc = .ok (.lmul, 1))  (hp : pc + 1 = pc')
    (k : Gets tb e below P T (mkF m pc' Ls (.long (x * y) :: st))) : Gets tb e below P T (mkF m pc Ls (.long y :: .long x :: st)) := by
  subst hp; refine k.by fun t qq => ?_; exact XS.lmul H hx rfl hd rfl qq
theorem g_land {tb : Tables} [Ours tb] {e : Env} {below : List Frame} {T : State} {m : MethodId} {c : Code} {P : Outcome → State → Prop} {pc pc' : Nat} {Ls : Array Slot} {st : List Value} {x y : Int64} (H : At T m c below) (hx : tb.exec = Jvm.exec) (hd : decode c.code pc = .ok (.land, 1))  (hp : pc + 1 = pc')
    (k : Gets tb e below P T (mkF m pc' Ls (.long (x &&& y) :: st))) : Gets tb e below P T (mkF m pc Ls (.long y :: .long x :: st)) := by
  subst hp; refine k.by fun t qq => ?_; exact XS.land H hx rfl hd rfl qq
theorem g_lor {tb : Tables} [Ours tb] {e : Env} {below : List Frame} {T : State} {m : MethodId} {c : Code} {P : Outcome → State → Prop} {pc pc' : Nat} {Ls : Array Slot} {st : List Value} {x y : Int64} (H : At T m c below) (hx : tb.exec = Jvm.exec) (hd : decode c.code pc = .ok (.lor, 1))  (hp : pc + 1 = pc')
    (k : Gets tb e below P T (mkF m pc' Ls (.long (x ||| y) :: st))) : Gets tb e below P T (mkF m pc Ls (.long y :: .long x :: st)) := by
  subst hp; refine k.by fun t qq => ?_; exact XS.lor H hx rfl hd rfl qq
theorem g_lxor {tb : Tables} [Ours tb] {e : Env} {below : List Frame} {T : State} {m : MethodId} {c : Code} {P : Outcome → State → Prop} {pc pc' : Nat} {Ls : Array Slot} {st : List Value} {x y : Int64} (H : At T m c below) (hx : tb.exec = Jvm.exec) (hd : decode c.code pc = .ok (.lxor, 1))  (hp : pc + 1 = pc')
    (k : Gets tb e below P T (mkF m pc' Ls (.long (x ^^^ y) :: st))) : Gets tb e below P T (mkF m pc Ls (.long y :: .long x :: st)) := by
  subst hp; refine k.by fun t qq => ?_; exact XS.lxor H hx rfl hd rfl qq
theorem g_lshl {tb : Tables} [Ours tb] {e : Env} {below : List Frame} {T : State} {m : MethodId} {c : Code} {P : Outcome → State → Prop} {pc pc' : Nat} {Ls : Array Slot} {st : List Value} {x : Int64} {y : Int32} (H : At T m c below) (hx : tb.exec = Jvm.exec) (hd : decode c.code pc = .ok (.lshl, 1))  (hp : pc + 1 = pc')
    (k : Gets tb e below P T (mkF m pc' Ls (.long (x <<< (y &&& 0x3f).toInt64) :: st))) : Gets tb e below P T (mkF m pc Ls (.int y :: .long x :: st)) := by
  subst hp; refine k.by fun t qq => ?_; exact XS.lshl H hx rfl hd rfl qq
theorem g_lshr {tb : Tables} [Ours tb] {e : Env} {below : List Frame} {T : State} {m : MethodId} {c : Code} {P : Outcome → State → Prop} {pc pc' : Nat} {Ls : Array Slot} {st : List Value} {x : Int64} {y : Int32} (H : At T m c below) (hx : tb.exec = Jvm.exec) (hd : decode c.code pc = .ok (.lshr, 1))  (hp : pc + 1 = pc')
    (k : Gets tb e below P T (mkF m pc' Ls (.long (x >>> (y &&& 0x3f).toInt64) :: st))) : Gets tb e below P T (mkF m pc Ls (.int y :: .long x :: st)) := by
  subst hp; refine k.by fun t qq => ?_; exact XS.lshr H hx rfl hd rfl qq
theorem g_lushr {tb : Tables} [Ours tb] {e : Env} {below : List Frame} {T : State} {m : MethodId} {c : Code} {P : Outcome → State → Prop} {pc pc' : Nat} {Ls : Array Slot} {st : List Value} {x : Int64} {y : Int32} (H : At T m c below) (hx : tb.exec = Jvm.exec) (hd : decode c.code pc = .ok (.lushr, 1))  (hp : pc + 1 = pc')
    (k : Gets tb e below P T (mkF m pc' Ls (.long ((x.toUInt64 >>> (y &&& 0x3f).toInt64.toUInt64).toInt64) :: st))) : Gets tb e below P T (mkF m pc Ls (.int y :: .long x :: st)) := by
  subst hp; refine k.by fun t qq => ?_; exact XS.lushr H hx rfl hd rfl qq
theorem g_lcmp {tb : Tables} [Ours tb] {e : Env} {below : List Frame} {T : State} {m : MethodId} {c : Code} {P : Outcome → State → Prop} {pc pc' : Nat} {Ls : Array Slot} {st : List Value} {x y : Int64} (H : At T m c below) (hx : tb.exec = Jvm.exec) (hd : decode c.code pc = .ok (.lcmp, 1))  (hp : pc + 1 = pc')
    (k : Gets tb e below P T (mkF m pc' Ls (.int (lcmpW x y) :: st))) : Gets tb e below P T (mkF m pc Ls (.long y :: .long x :: st)) := by
  subst hp; refine k.by fun t qq => ?_; exact XS.lcmp H hx rfl hd rfl qq
theorem g_ineg {tb : Tables} [Ours tb] {e : Env} {below : List Frame} {T : State} {m : MethodId} {c : Code} {P : Outcome → State → Prop} {pc pc' : Nat} {Ls : Array Slot} {st : List Value} {x : Int32} (H : At T m c below) (hx : tb.exec = Jvm.exec) (hd : decode c.code pc = .ok (.ineg, 1))  (hp : pc + 1 = pc')
    (k : Gets tb e below P T (mkF m pc' Ls (.int (-x) :: st))) : Gets tb e below P T (mkF m pc Ls (.int x :: st)) := by
  subst hp; refine k.by fun t qq => ?_; exact XS.ineg H hx rfl hd rfl qq
theorem g_i2b {tb : Tables} [Ours tb] {e : Env} {below : List Frame} {T : State} {m : MethodId} {c : Code} {P : Outcome → State → Prop} {pc pc' : Nat} {Ls : Array Slot} {st : List Value} {x : Int32} (H : At T m c below) (hx : tb.exec = Jvm.exec) (hd : decode c.code pc = .ok (.i2b, 1))  (hp : pc + 1 = pc')
    (k : Gets tb e below P T (mkF m pc' Ls (.int (x.toInt8.toInt32) :: st))) : Gets tb e below P T (mkF m pc Ls (.int x :: st)) := by
  subst hp; refine k.by fun t qq => ?_; exact XS.i2b H hx rfl hd rfl qq
theorem g_i2s {tb : Tables} [Ours tb] {e : Env} {below : List Frame} {T : State} {m : MethodId} {c : Code} {P : Outcome → State → Prop} {pc pc' : Nat} {Ls : Array Slot} {st : List Value} {x : Int32} (H : At T m c below) (hx : tb.exec = Jvm.exec) (hd : decode c.code pc = .ok (.i2s, 1))  (hp : pc + 1 = pc')
    (k : Gets tb e below P T (mkF m pc' Ls (.int (x.toInt16.toInt32) :: st))) : Gets tb e below P T (mkF m pc Ls (.int x :: st)) := by
  subst hp; refine k.by fun t qq => ?_; exact XS.i2s H hx rfl hd rfl qq
theorem g_i2c {tb : Tables} [Ours tb] {e : Env} {below : List Frame} {T : State} {m : MethodId} {c : Code} {P : Outcome → State → Prop} {pc pc' : Nat} {Ls : Array Slot} {st : List Value} {x : Int32} (H : At T m c below) (hx : tb.exec = Jvm.exec) (hd : decode c.code pc = .ok (.i2c, 1))  (hp : pc + 1 = pc')
    (k : Gets tb e below P T (mkF m pc' Ls (.int (x.toUInt32.toUInt16.toUInt32.toInt32) :: st))) : Gets tb e below P T (mkF m pc Ls (.int x :: st)) := by
  subst hp; refine k.by fun t qq => ?_; exact XS.i2c H hx rfl hd rfl qq
theorem g_i2l {tb : Tables} [Ours tb] {e : Env} {below : List Frame} {T : State} {m : MethodId} {c : Code} {P : Outcome → State → Prop} {pc pc' : Nat} {Ls : Array Slot} {st : List Value} {x : Int32} (H : At T m c below) (hx : tb.exec = Jvm.exec) (hd : decode c.code pc = .ok (.i2l, 1))  (hp : pc + 1 = pc')
    (k : Gets tb e below P T (mkF m pc' Ls (.long x.toInt64 :: st))) : Gets tb e below P T (mkF m pc Ls (.int x :: st)) := by
  subst hp; refine k.by fun t qq => ?_; exact XS.i2l H hx rfl hd rfl qq
theorem g_l2i {tb : Tables} [Ours tb] {e : Env} {below : List Frame} {T : State} {m : MethodId} {c : Code} {P : Outcome → State → Prop} {pc pc' : Nat} {Ls : Array Slot} {st : List Value} {x : Int64} (H : At T m c below) (hx : tb.exec = Jvm.exec) (hd : decode c.code pc = .ok (.l2i, 1))  (hp : pc + 1 = pc')
    (k : Gets tb e below P T (mkF m pc' Ls (.int x.toInt32 :: st))) : Gets tb e below P T (mkF m pc Ls (.long x :: st)) := by
  subst hp; refine k.by fun t qq => ?_; exact XS.l2i H hx rfl hd rfl qq
theorem g_lneg {tb : Tables} [Ours tb] {e : Env} {below : List Frame} {T : State} {m : MethodId} {c : Code} {P : Outcome → State → Prop} {pc pc' : Nat} {Ls : Array Slot} {st : List Value} {x : Int64} (H : At T m c below) (hx : tb.exec = Jvm.exec) (hd : decode c.code pc = .ok (.lneg, 1))  (hp : pc + 1 = pc')
    (k : Gets tb e below P T (mkF m pc' Ls (.long (-x) :: st))) : Gets tb e below P T (mkF m pc Ls (.long x :: st)) := by
  subst hp; refine k.by fun t qq => ?_; exact XS.lneg H hx rfl hd rfl qq
theorem g_idiv {tb : Tables} [Ours tb] {e : Env} {below : List Frame} {T : State} {m : MethodId} {c : Code} {P : Outcome → State → Prop} {pc pc' : Nat} {Ls : Array Slot} {st : List Value} {x y : Int32} (H : At T m c below) (hx : tb.exec = Jvm.exec) (hd : decode c.code pc = .ok (.idiv, 1)) (hy : y ≠ 0) (hp : pc + 1 = pc')
    (k : Gets tb e below P T (mkF m pc' Ls (.int (x / y) :: st))) : Gets tb e below P T (mkF m pc Ls (.int y :: .int x :: st)) := by
  subst hp; refine k.by fun t qq => ?_; exact XS.idiv H hx rfl hd rfl hy qq
theorem g_dup {tb : Tables} [Ours tb] {e : Env} {below : List Frame} {T : State} {m : MethodId} {c : Code} {P : Outcome → State → Prop} {pc pc' : Nat} {Ls : Array Slot} {st : List Value} {v : Value} (H : At T m c below) (hx : tb.exec = Jvm.exec) (hd : decode c.code pc = .ok (.dup, 1)) (hv : v.category = 1) (hp : pc + 1 = pc')
    (k : Gets tb e below P T (mkF m pc' Ls (v :: v :: st))) : Gets tb e below P T (mkF m pc Ls (v :: st)) := by
  subst hp; refine k.by fun t qq => ?_; exact XS.dup H hx rfl hd rfl hv qq
theorem g_pop {tb : Tables} [Ours tb] {e : Env} {below : List Frame} {T : State} {m : MethodId} {c : Code} {P : Outcome → State → Prop} {pc pc' : Nat} {Ls : Array Slot} {st : List Value} {v : Value} (H : At T m c below) (hx : tb.exec = Jvm.exec) (hd : decode c.code pc = .ok (.pop, 1)) (hv : v.category = 1) (hp : pc + 1 = pc')
    (k : Gets tb e below P T (mkF m pc' Ls (st))) : Gets tb e below P T (mkF m pc Ls (v :: st)) := by
  subst hp; refine k.by fun t qq => ?_; exact XS.pop H hx rfl hd rfl hv qq
theorem g_dupX1 {tb : Tables} [Ours tb] {e : Env} {below : List Frame} {T : State} {m : MethodId} {c : Code} {P : Outcome → State → Prop} {pc pc' : Nat} {Ls : Array Slot} {st : List Value} {v w : Value} (H : At T m c below) (hx : tb.exec = Jvm.exec) (hd : decode c.code pc = .ok (.dup_x1, 1)) (hv : v.category = 1) (hw : w.category = 1) (hp : pc + 1 = pc')
    (k : Gets tb e below P T (mkF m pc' Ls (v :: w :: v :: st))) : Gets tb e below P T (mkF m pc Ls (v :: w :: st)) := by
  subst hp; refine k.by fun t qq => ?_; exact XS.dupX1 H hx rfl hd rfl hv hw qq
theorem g_iinc {tb : Tables} [Ours tb] {e : Env} {below : List Frame} {T : State} {m : MethodId} {c : Code} {P : Outcome → State → Prop} {pc pc' : Nat} {Ls : Array Slot} {st : List Value} {j : Nat} {cst : Int} {x : Int32} {Ls' : Array Slot} (H : At T m c below) (hx : tb.exec = Jvm.exec) (hd : decode c.code pc = .ok (.iinc j cst, 3)) (hl : Ls[j]? = some (.val (.int x))) (hs : storeLocals Ls j (.int (x + Int32.ofInt cst)) = some Ls') (hp : pc + 3 = pc')
    (k : Gets tb e below P T (mkF m pc' Ls' (st))) : Gets tb e below P T (mkF m pc Ls (st)) := by
  subst hp; refine k.by fun t qq => ?_; exact XS.iinc H hx rfl hd hl hs qq
theorem g_lconst {tb : Tables} [Ours tb] {e : Env} {below : List Frame} {T : State} {m : MethodId} {c : Code} {P : Outcome → State → Prop} {pc pc' : Nat} {Ls : Array Slot} {st : List Value} {j : Fin 2} (v : Int64) (H : At T m c below) (hx : tb.exec = Jvm.exec) (hd : decode c.code pc = .ok (.lconst j, 1)) (hv : Int64.ofNat j = v) (hp : pc + 1 = pc')
    (k : Gets tb e below P T (mkF m pc' Ls (.long v :: st))) : Gets tb e below P T (mkF m pc Ls st) := by
  subst hp; subst hv; refine k.by fun t qq => ?_; exact XS.lconst H hx rfl hd qq
theorem g_irem {tb : Tables} [Ours tb] {e : Env} {below : List Frame} {T : State} {m : MethodId} {c : Code} {P : Outcome → State → Prop} {pc pc' : Nat} {Ls : Array Slot} {st : List Value} {x y : Int32} (H : At T m c below) (hx : tb.exec = Jvm.exec) (hd : decode c.code pc = .ok (.irem, 1)) (hy : y ≠ 0) (hp : pc + 1 = pc')
    (k : Gets tb e below P T (mkF m pc' Ls (.int (x % y) :: st))) : Gets tb e below P T (mkF m pc Ls (.int y :: .int x :: st)) := by
  subst hp
  have q : x - x / y * y = x % y := irem_eq_mod x y
  rw [← q] at k
  refine k.by fun t qq => ?_; exact XS.irem H hx rfl hd rfl hy qq
theorem g_goto {tb : Tables} [Ours tb] {e : Env} {below : List Frame} {T : State} {m : MethodId} {c : Code} {P : Outcome → State → Prop} {pc pc' : Nat} {Ls : Array Slot} {st : List Value} {o : Int} (H : At T m c below) (hx : tb.exec = Jvm.exec) (hd : decode c.code pc = .ok (.goto o, 3)) (hp : (pc : Int) + o = (pc' : Int))
    (k : Gets tb e below P T (mkF m pc' Ls st)) : Gets tb e below P T (mkF m pc Ls st) := by
  refine k.by fun t qq => ?_
  exact XS.goto H hx rfl (pc0 := pc) (pc' := pc') rfl hd (by rw [hp]; exact Int.natCast_nonneg _) (by rw [hp]; rfl) qq
theorem g_ifY {tb : Tables} [Ours tb] {e : Env} {below : List Frame} {T : State} {m : MethodId} {c : Code} {P : Outcome → State → Prop} {pc pc' : Nat} {Ls : Array Slot} {st : List Value} {o : Int} {cd : ClassFile.Cond} {x : Int32} (H : At T m c below) (hx : tb.exec = Jvm.exec) (hd : decode c.code pc = .ok (.ifCond cd o, 3)) (hp : (pc : Int) + o = (pc' : Int)) (q : if_icmp.holds cd x 0 = true)
    (k : Gets tb e below P T (mkF m pc' Ls st)) : Gets tb e below P T (mkF m pc Ls (.int x :: st)) := by
  refine k.by fun t qq => ?_
  exact XS.ifYes H hx rfl (pc0 := pc) (pc' := pc') rfl hd rfl ((if0 _ _).trans q) (by rw [hp]; exact Int.natCast_nonneg _) (by rw [hp]; rfl) qq
theorem g_ifN {tb : Tables} [Ours tb] {e : Env} {below : List Frame} {T : State} {m : MethodId} {c : Code} {P : Outcome → State → Prop} {pc pc' : Nat} {Ls : Array Slot} {st : List Value} {o : Int} {cd : ClassFile.Cond} {x : Int32} (H : At T m c below) (hx : tb.exec = Jvm.exec) (hd : decode c.code pc = .ok (.ifCond cd o, 3)) (hp : pc + 3 = pc') (q : if_icmp.holds cd x 0 = false)
    (k : Gets tb e below P T (mkF m pc' Ls st)) : Gets tb e below P T (mkF m pc Ls (.int x :: st)) := by
  subst hp; refine k.by fun t qq => ?_; exact XS.ifNo H hx rfl hd rfl ((if0 _ _).trans q) qq
theorem g_icmpY {tb : Tables} [Ours tb] {e : Env} {below : List Frame} {T : State} {m : MethodId} {c : Code} {P : Outcome → State → Prop} {pc pc' : Nat} {Ls : Array Slot} {st : List Value} {o : Int} {cd : ClassFile.Cond} {x y : Int32} (H : At T m c below) (hx : tb.exec = Jvm.exec) (hd : decode c.code pc = .ok (.if_icmp cd o, 3)) (hp : (pc : Int) + o = (pc' : Int)) (q : if_icmp.holds cd x y = true)
    (k : Gets tb e below P T (mkF m pc' Ls st)) : Gets tb e below P T (mkF m pc Ls (.int y :: .int x :: st)) := by
  refine k.by fun t qq => ?_
  exact XS.icmpYes H hx rfl (pc0 := pc) (pc' := pc') rfl hd rfl q (by rw [hp]; exact Int.natCast_nonneg _) (by rw [hp]; rfl) qq
theorem g_icmpN {tb : Tables} [Ours tb] {e : Env} {below : List Frame} {T : State} {m : MethodId} {c : Code} {P : Outcome → State → Prop} {pc pc' : Nat} {Ls : Array Slot} {st : List Value} {o : Int} {cd : ClassFile.Cond} {x y : Int32} (H : At T m c below) (hx : tb.exec = Jvm.exec) (hd : decode c.code pc = .ok (.if_icmp cd o, 3)) (hp : pc + 3 = pc') (q : if_icmp.holds cd x y = false)
    (k : Gets tb e below P T (mkF m pc' Ls st)) : Gets tb e below P T (mkF m pc Ls (.int y :: .int x :: st)) := by
  subst hp; refine k.by fun t qq => ?_; exact XS.icmpNo H hx rfl hd rfl q qq
theorem g_nullY {tb : Tables} [Ours tb] {e : Env} {below : List Frame} {T : State} {m : MethodId} {c : Code} {P : Outcome → State → Prop} {pc pc' : Nat} {Ls : Array Slot} {st : List Value} {o : Int} (H : At T m c below) (hx : tb.exec = Jvm.exec) (hd : decode c.code pc = .ok (.ifnull o, 3)) (hp : (pc : Int) + o = (pc' : Int))
    (k : Gets tb e below P T (mkF m pc' Ls st)) : Gets tb e below P T (mkF m pc Ls (.null :: st)) := by
  refine k.by fun t qq => ?_
  exact XS.ifnullYes H hx rfl (pc0 := pc) (pc' := pc') rfl hd rfl (by rw [hp]; exact Int.natCast_nonneg _) (by rw [hp]; rfl) qq
theorem g_nullN {tb : Tables} [Ours tb] {e : Env} {below : List Frame} {T : State} {m : MethodId} {c : Code} {P : Outcome → State → Prop} {pc pc' : Nat} {Ls : Array Slot} {st : List Value} {o : Int} {b : Addr} (H : At T m c below) (hx : tb.exec = Jvm.exec) (hd : decode c.code pc = .ok (.ifnull o, 3)) (hp : pc + 3 = pc')
    (k : Gets tb e below P T (mkF m pc' Ls st)) : Gets tb e below P T (mkF m pc Ls (.ref b :: st)) := by
  subst hp; refine k.by fun t qq => ?_; exact XS.ifnullNo H hx rfl hd rfl qq
theorem g_nonnullY {tb : Tables} [Ours tb] {e : Env} {below : List Frame} {T : State} {m : MethodId} {c : Code} {P : Outcome → State → Prop} {pc pc' : Nat} {Ls : Array Slot} {st : List Value} {o : Int} {b : Addr} (H : At T m c below) (hx : tb.exec = Jvm.exec) (hd : decode c.code pc = .ok (.ifnonnull o, 3)) (hp : (pc : Int) + o = (pc' : Int))
    (k : Gets tb e below P T (mkF m pc' Ls st)) : Gets tb e below P T (mkF m pc Ls (.ref b :: st)) := by
  refine k.by fun t qq => ?_
  exact XS.ifnonnullYes H hx rfl (pc0 := pc) (pc' := pc') rfl hd rfl (by rw [hp]; exact Int.natCast_nonneg _) (by rw [hp]; rfl) qq
theorem g_nonnullN {tb : Tables} [Ours tb] {e : Env} {below : List Frame} {T : State} {m : MethodId} {c : Code} {P : Outcome → State → Prop} {pc pc' : Nat} {Ls : Array Slot} {st : List Value} {o : Int} (H : At T m c below) (hx : tb.exec = Jvm.exec) (hd : decode c.code pc = .ok (.ifnonnull o, 3)) (hp : pc + 3 = pc')
    (k : Gets tb e below P T (mkF m pc' Ls st)) : Gets tb e below P T (mkF m pc Ls (.null :: st)) := by
  subst hp; refine k.by fun t qq => ?_; exact XS.ifnonnullNo H hx rfl hd rfl qq
theorem g_tsw {tb : Tables} [Ours tb] {e : Env} {below : List Frame} {T : State} {m : MethodId} {c : Code} {P : Outcome → State → Prop} {pc pc' : Nat} {Ls : Array Slot} {st : List Value} {dflt low high : Int} {offs : Array Int} {len : Nat} {o : Int} {i : Int32} (H : At T m c below) (hx : tb.exec = Jvm.exec) (hd : decode c.code pc = .ok (.tableswitch dflt low high offs, len)) (hin : ¬ (i.toInt < low ∨ i.toInt > high)) (hoff : offs[(i.toInt - low).toNat]? = some o) (hp : (pc : Int) + o = (pc' : Int))
    (k : Gets tb e below P T (mkF m pc' Ls st)) : Gets tb e below P T (mkF m pc Ls (.int i :: st)) := by
  refine k.by fun t qq => ?_
  exact XS.tswIn H hx rfl (pc0 := pc) (pc' := pc') rfl hd rfl hin hoff (by rw [hp]; exact Int.natCast_nonneg _) (by rw [hp]; rfl) qq
theorem g_iincV {tb : Tables} [Ours tb] {e : Env} {below : List Frame} {T : State} {m : MethodId} {c : Code} {P : Outcome → State → Prop} {pc pc' : Nat} {Ls Ls' : Array Slot} {st : List Value} {j : Nat} {cst : Int} {x : Int32} (v : Int32) (H : At T m c below) (hx : tb.exec = Jvm.exec) (hd : decode c.code pc = .ok (.iinc j cst, 3)) (hv : x + Int32.ofInt cst = v) (hl : Ls[j]? = some (.val (.int x))) (hs : storeLocals Ls j (.int v) = some Ls') (hp : pc + 3 = pc')
    (k : Gets tb e below P T (mkF m pc' Ls' st)) : Gets tb e below P T (mkF m pc Ls st) := by
  subst hp; subst hv; refine k.by fun t qq => ?_; exact XS.iinc H hx rfl hd hl hs qq
/-- an array's exact content -/
def Ary (Z : State) (h : Heap) (a : Addr) (ty : FieldType) (vs : List Value) : Prop := ∃ cl : Cell, Arr Z h a cl ty ∧ cl.slots.toList = vs ∧ vs.length < 2 ^ 31 ∧ ∀ v ∈ vs, fits ty v = true
theorem Ary.lt {Z : State} {h : Heap} {a : Addr} {ty : FieldType} {vs : List Value} (F : Ary Z h a ty vs) : a < h.size := by obtain ⟨c, A, -⟩ := F; exact A.lt
theorem Ary.len {Z : State} {h : Heap} {a : Addr} {ty : FieldType} {vs : List Value} (F : Ary Z h a ty vs) : vs.length < 2 ^ 31 := by obtain ⟨c, A, -, q, -⟩ := F; exact q
theorem Ary.keep {Z : State} {h h' : Heap} {a : Addr} {ty : FieldType} {vs : List Value} {ws : List Addr} (F : Ary Z h a ty vs) (K : Keep h h' ws) (q : a ∉ ws) : Ary Z h' a ty vs := by obtain ⟨c, A, r⟩ := F; exact ⟨c, ⟨K.2.1 a c A.1 q, A.2⟩, r⟩
theorem Ary.ext {Z : State} {h h' : Heap} {a : Addr} {ty : FieldType} {vs : List Value} (F : Ary Z h a ty vs) (E : Ext h h') : Ary Z h' a ty vs := by obtain ⟨c, A, r⟩ := F; exact ⟨c, A.ext E, r⟩
theorem Ary.made {Z : State} {h : Heap} {a : Addr} {ty : FieldType} {k : ClassId} {n : Int32} (A : Arr Z h a (newA k ty n) ty) (hn : ¬ n < 0) (hf : fits ty (defaultValue ty) = true) : Ary Z h a ty (List.replicate n.toNatClampNeg (defaultValue ty)) :=
  ⟨_, A, by simp [newA], by rw [List.length_replicate]; exact (back32 hn).2, fun v hv => by rw [(List.mem_replicate.mp hv).2]; exact hf⟩
theorem Ary.of_arv {Z : State} {h : Heap} {a : Addr} {ty : FieldType} {k : ClassId} {z : Int32} {vs : List Value} {d : Value} (F : Arv Z h a k ty z vs d) (hl : z.toNatClampNeg = vs.length) : Ary Z h a ty vs := by
  obtain ⟨c, A, -, sz, hz, H, G⟩ := F
  have e : c.slots.toList = vs := by
    apply List.ext_getElem?
    intro i
    by_cases hi : i < c.slots.size
    · have q := H i hi
      have hi' : i < vs.length := by omega
      rw [Array.getElem?_toList, q]
      simp [List.getD_eq_getElem?_getD, hi']
    · have hi' : vs.length ≤ i := by omega
      rw [Array.getElem?_toList, Array.getElem?_eq_none (by omega), List.getElem?_eq_none hi']
  refine ⟨c, A, e, by rw [← hl]; exact (back32 hz).2, fun v hv => ?_⟩
  obtain ⟨i, hi, rfl⟩ := List.mem_iff_getElem.mp hv
  have q := G i (by omega)
  rwa [List.getD_eq_getElem?_getD, List.getElem?_eq_getElem hi] at q
theorem Ary.wrote {Z : State} {h h' : Heap} {a : Addr} {ty : FieldType} {vs : List Value} {cl : Cell} {v : Value} {i : Nat} (A : Arr Z h a cl ty) (e : cl.slots.toList = vs) (hl : vs.length < 2 ^ 31) (hf : ∀ w ∈ vs, fits ty w = true) (hv : fits ty v = true) (W : Wr h h' a i v) : Ary Z h' a ty (vs.set i v) := by
  refine ⟨cl.setSlot i v, A.same W, ?_, by rw [List.length_set]; exact hl, fun w hw => ?_⟩
  · rw [← e]; simp [Cell.setSlot]
  · rcases List.mem_or_eq_of_mem_set hw with q | q
    · exact hf w q
    · rw [q]; exact hv
theorem size_of_list {cl : Cell} {vs : List Value} (e : cl.slots.toList = vs) : cl.slots.size = vs.length := by rw [← e]; simp
theorem at_of_list {cl : Cell} {vs : List Value} (e : cl.slots.toList = vs) (i : Nat) : cl.slots[i]? = vs[i]? := by rw [← e]; simp
theorem i32_nat {n : Nat} (h : n < 2 ^ 31) : n.toInt32.toNatClampNeg = n := by simp only [Int32.toNatClampNeg, len_toInt h]; rfl
end OwnBase
section OwnWalk
variable {p : Program} {l : Launch} {e : Env} {R : Room} {s : State} {m : MethodId} {args : Array Value} {below : List Frame} {meth : Method} {c : Code} {T : State} {Z : State} {a0 : Array Value} {h : Heap} {EL : List (String × Nat)} {own : String} {cells slots : Nat} {ws nw : List Addr} {P : Outcome → State → Prop} {pc pc' : Nat} {Ls : Array Slot} {st : List Value}
/-- where a walk stands -/
def Wk (p : Program) (l : Launch) (e : Env) (R : Room) (s : State) (m : MethodId) (args : Array Value) (below : List Frame) (meth : Method) (c : Code) (Z : State) (EL : List (String × Nat)) (own : String) (ws nw : List Addr) (T : State) (h : Heap) (cells slots : Nat) : Prop :=
  ∃ (vm0 : Vm) (k0 : Nat) (locs : List Loc) (b0 : Array Value), Stand p l e R (s.setVm vm0) m args below meth c T locs cells slots ∧ T.heap = h ∧ s.Since vm0 k0 ∧ k0 ≤ h.size ∧ Z.Warmed39 vm0 ∧ vm0.findClass own = some m.cls ∧ EW Z b0 EL ∧ CHr Z EL s.vm s.heap vm0 h ∧ Fr Z.heap.size locs ∧ Ext Z.heap h ∧ Keep s.heap h ws ∧
    (∀ x : Nat, x ∈ ws → Z.heap.size ≤ x ∧ x < h.size ∧ Safe Z EL vm0 h x) ∧ (∀ x : Nat, x ∈ nw → s.heap.size ≤ x ∧ Z.heap.size ≤ x ∧ x < h.size ∧ Safe Z EL vm0 h x)
theorem Wk.here (W : Wk p l e R s m args below meth c Z EL own ws nw T h cells slots) : At T m c below := by obtain ⟨_, _, _, _, X, -⟩ := W; exact X.here
theorem Wk.old (W : Wk p l e R s m args below meth c Z EL own ws nw T h cells slots) : Ext Z.heap h := by obtain ⟨_, _, _, _, -, -, -, -, -, -, -, -, -, E, -⟩ := W; exact E
theorem Wk.lt (W : Wk p l e R s m args below meth c Z EL own ws nw T h cells slots) {x : Nat} (q : x ∈ nw) : x < h.size := by obtain ⟨_, _, _, _, -, -, -, -, -, -, -, -, -, -, -, -, n⟩ := W; exact (n x q).2.2.1
theorem Wk.kept (W : Wk p l e R s m args below meth c Z EL own ws nw T h cells slots) : Keep s.heap h ws := by obtain ⟨_, _, _, _, -, -, -, -, -, -, -, -, -, -, K, -⟩ := W; exact K
/-- a callee's contract: from the arguments as' and the heap h0 it returns a value v and a heap h' with Q v h'; of the cells of h0 at the most those at ws are written -/
def ConL (wl : List Cond) (l : Launch) (Z : State) (EL : List (String × Nat)) (y : MethodName) (bytes : ByteArray) (maxL : Nat) (ret : Option FieldType) (rm : Room) (as' : Array Value) (h0 : Heap) (ws : List Addr) (Q : Option Value → Heap → Prop) : Prop :=
  MetFree l y (head1 (Cond.code y bytes maxL ret :: wl) rm) (fun a U => a = as' ∧ Z.Warmed39 U.vm ∧ U.heap = h0 ∧ CHv Z EL U.vm h0 ∧ ∀ x ∈ ws, Safe Z EL U.vm h0 x) (fun _ _ _ _ _ => True)
    (fun _ U o U' => ∃ v L, o = .returned v ∧ (Q v U'.heap ∧ Fr Z.heap.size L ∧ Keep h0 U'.heap ws ∧ Ext Z.heap U'.heap) ∧ CHr Z EL U.vm U.heap U'.vm U'.heap ∧ ReturnedEndW U o U' L rm.cells rm.slots)
abbrev Con := ConL []
/-- what a contract's body is to come to -/
def Post (s : State) (Z : State) (EL : List (String × Nat)) (rm : Room) (h0 : Heap) (ws : List Addr) (Q : Option Value → Heap → Prop) (o : Outcome) (t : State) : Prop :=
  ∃ v L, o = .returned v ∧ (Q v t.heap ∧ Fr Z.heap.size L ∧ Keep h0 t.heap ws ∧ Ext Z.heap t.heap) ∧ CHr Z EL s.vm s.heap t.vm t.heap ∧ ReturnedEndW s o t L rm.cells rm.slots
theorem Con.of {wl : List Cond} {y : MethodName} {bytes : ByteArray} {maxL : Nat} {ret : Option FieldType} {rm : Room} {as' : Array Value} {h0 : Heap} {Q : Option Value → Heap → Prop} (Ls : Array Slot)
    (hy : plainFor y = true) (hE : EW Z a0 EL) (O : Ext Z.heap h0) (hws : ∀ x : Nat, x ∈ ws → Z.heap.size ≤ x ∧ x < h0.size) (hent : ∀ m, entryFrame m as' maxL = mkF m 0 Ls [])
    (body : ∀ (p : Program) (e : Env) (s : State) (m : MethodId) (below : List Frame) (meth : Method) (c : Code) (T : State), p.tables.exec = Jvm.exec → c.code = bytes → c.maxLocals = maxL → meth.name = y.name → meth.sig.returnType = ret → meth.locks = false → s.heap = h0 →
      Wk p l e rm s m as' below meth c Z EL y.cls ws [] T h0 0 0 → Gets p.tables e below (Post s Z EL rm h0 ws Q) T (mkF m 0 Ls [])) :
    ConL wl l Z EL y bytes maxL ret rm as' h0 ws Q := by
  refine MetFree.of_bodySF hy hisR ?_
  intro p e s m args below meth c s₁ Bd hml0 hP hK
  obtain ⟨rfl, hZ, hh, hC, hS⟩ := hP
  have hh' : s.heap = h0 := hh
  have hl : meth.locks = false := Bd.notSynchronized
  have e0 : s₁.heap = h0 := by rw [← hh, Bd.state]; rfl
  have X0 : Stand p l e rm s m args below meth c s₁ [] 0 0 := Stand.of_body Bd
  have W : Wk p l e rm s m args below meth c Z EL y.cls ws [] s₁ h0 0 0 :=
    ⟨s.vm, h0.size, [], a0, X0, e0, (State.WarmedH.refl s).since _, Nat.le_refl _, hZ, findClass_of_methodNamed Bd.named, hE, by rw [hh']; exact CHr.refl hC, Fr.nil _, O, by rw [hh']; exact Keep.refl _ _, fun x hx => ⟨(hws x hx).1, (hws x hx).2, hS x hx⟩, fun x hx => (nomatch hx)⟩
  obtain ⟨t, o, h1, h2, h3, h4⟩ := body p e s m below meth c s₁ Bd.exec Bd.bytes hml0 (name_of_methodNamed Bd.named Bd.method).1 Bd.returns hl hh' W
  exact ⟨t, o, by rw [hent m]; exact h1, h2, h3, h4⟩
/-! ends -/
theorem w_end {rm : Room} {h0 : Heap} {Q : Option Value → Heap → Prop} (W : Wk p l e R s m args below meth c Z EL own ws nw T h cells slots) (hh : s.heap = h0) {v : Option Value} {g : JFrame} (hl : meth.locks = false) (hv : meth.sig.returnType = none → v = none)
    (st : ∀ {vm0 : Vm} {locs : List Loc} {fs : List Frame}, Stand p l e R (s.setVm vm0) m args below meth c T locs cells slots → (∀ (f : JFrame) (acts : List Action), f.method = m → f.locked = none → f.entered = [] → (doReturn e (T.setTop f) acts v).1 = T.setFrames fs) → Steps p.tables e below (T.setTop g) (T.setFrames fs))
    (hc : cells ≤ rm.cells) (hs : slots ≤ rm.slots) (q : Q v h) : Gets p.tables e below (Post s Z EL rm h0 ws Q) T g := by
  obtain ⟨vm0, k0, locs, b0, X, eT, hS, hk, hZ, hown, hE, hC, hF, hO, hK, -, -⟩ := W
  obtain ⟨fs, h1, h2, h3, r1, r2, r3, r4⟩ := X.leaveW hS (by rw [eT]; exact hk) hv hl
  subst hh
  have hA := CHv.at X hZ hE hC.1
  refine ⟨_, _, st X h1, h2, h3, v, locs, rfl, ⟨?_, hF, ?_, ?_⟩, ?_, r1, r2, r3, r4.mono hc hs⟩
  · show Q v T.heap; rw [eT]; exact q
  · show Keep _ T.heap _; rw [eT]; exact hK
  · show Ext _ T.heap; rw [eT]; exact hO
  · show CHr Z EL s.vm s.heap T.vm T.heap
    rw [eT]
    exact hC.trans hA
theorem w_retI {rm : Room} {h0 : Heap} {Q : Option Value → Heap → Prop} {z : Int32} (W : Wk p l e R s m args below meth c Z EL own ws nw T h cells slots) (hx : p.tables.exec = Jvm.exec) (hh : s.heap = h0) (hl : meth.locks = false) (hret : meth.sig.returnType = some .int) (hd : decode c.code pc = .ok (.ireturn, 1)) (hc : cells ≤ rm.cells) (hs : slots ≤ rm.slots) (q : Q (some (.int z)) h) :
    Gets p.tables e below (Post s Z EL rm h0 ws Q) T (mkF m pc Ls (.int z :: st)) :=
  w_end W hh hl (fun q => by rw [hret] at q; cases q) (fun X hr => retOut X hx hret rfl (Or.inl ⟨rfl, Or.inl rfl, z, rfl⟩) hd hr) hc hs q
theorem w_retN {rm : Room} {h0 : Heap} {Q : Option Value → Heap → Prop} {z : Int32} {t : FieldType} (W : Wk p l e R s m args below meth c Z EL own ws nw T h cells slots) (hx : p.tables.exec = Jvm.exec) (hh : s.heap = h0) (hl : meth.locks = false) (hret : meth.sig.returnType = some t) (ht : t = .boolean ∨ t = .byte ∨ t = .char ∨ t = .short) (hd : decode c.code pc = .ok (.ireturn, 1)) (hc : cells ≤ rm.cells) (hs : slots ≤ rm.slots) (q : Q (some (.int (nar t z))) h) :
    Gets p.tables e below (Post s Z EL rm h0 ws Q) T (mkF m pc Ls (.int z :: st)) :=
  w_end W hh hl (fun q => by rw [hret] at q; cases q) (fun X hr => retN X hx hret ht hd hr) hc hs q
theorem w_retJ {rm : Room} {h0 : Heap} {Q : Option Value → Heap → Prop} {z : Int64} (W : Wk p l e R s m args below meth c Z EL own ws nw T h cells slots) (hx : p.tables.exec = Jvm.exec) (hh : s.heap = h0) (hl : meth.locks = false) (hret : meth.sig.returnType = some .long) (hd : decode c.code pc = .ok (.lreturn, 1)) (hc : cells ≤ rm.cells) (hs : slots ≤ rm.slots) (q : Q (some (.long z)) h) :
    Gets p.tables e below (Post s Z EL rm h0 ws Q) T (mkF m pc Ls (.long z :: st)) :=
  w_end W hh hl (fun q => by rw [hret] at q; cases q) (fun X hr => retOut X hx hret rfl (Or.inr (Or.inl ⟨rfl, rfl, z, rfl⟩)) hd hr) hc hs q
theorem w_retA {rm : Room} {h0 : Heap} {Q : Option Value → Heap → Prop} {w : Value} {t : FieldType} (W : Wk p l e R s m args below meth c Z EL own ws nw T h cells slots) (hx : p.tables.exec = Jvm.exec) (hh : s.heap = h0) (hl : meth.locks = false) (hret : meth.sig.returnType = some t) (ht : t.isReference = true) (hw : w.isRef = true) (hd : decode c.code pc = .ok (.areturn, 1)) (hc : cells ≤ rm.cells) (hs : slots ≤ rm.slots) (q : Q (some w) h) :
    Gets p.tables e below (Post s Z EL rm h0 ws Q) T (mkF m pc Ls (w :: st)) :=
  w_end W hh hl (fun q => by rw [hret] at q; cases q) (fun X hr => retOut X hx hret (by cases t <;> cases w <;> simp [FieldType.isReference, Value.isRef, narrow] at ht hw ⊢) (Or.inr (Or.inr (Or.inr (Or.inr ⟨rfl, ht, hw⟩)))) hd hr) hc hs q
theorem w_retV {rm : Room} {h0 : Heap} {Q : Option Value → Heap → Prop} (W : Wk p l e R s m args below meth c Z EL own ws nw T h cells slots) (hx : p.tables.exec = Jvm.exec) (hh : s.heap = h0) (hl : meth.locks = false) (hret : meth.sig.returnType = none) (hd : decode c.code pc = .ok (.return_, 1)) (hc : cells ≤ rm.cells) (hs : slots ≤ rm.slots) (q : Q none h) :
    Gets p.tables e below (Post s Z EL rm h0 ws Q) T (mkF m pc Ls []) :=
  w_end W hh hl (fun _ => rfl) (fun X hr => X.returnOut hx hret hd hr) hc hs q
/-! steps that leave the heap as it is -/
theorem w_get (W : Wk p l e R s m args below meth c Z EL own ws nw T h cells slots) (hx : p.tables.exec = Jvm.exec) {R0 O n d : String} {index : Nat} (w : (Cond.fieldLink own index R0 n d).before a0 Z = true) (via : Via Z R0 O n d) {a : Nat} {v : Value} (F : Fld Z h a O n d v) (hd : decode c.code pc = .ok (.getfield index, 3)) (hp : pc + 3 = pc')
    (k : ∀ T', Wk p l e R s m args below meth c Z EL own ws nw T' h cells slots → Gets p.tables e below P T' (mkF m pc' Ls (v :: st))) : Gets p.tables e below P T (mkF m pc Ls (.ref a :: st)) := by
  subst hp
  obtain ⟨vm0, k0, locs, b0, X, eT, hS, hk, hZ, hown, r⟩ := W
  obtain ⟨T', X', e', stp⟩ := getF X hx hZ hown (host := "") (Or.inl w) via eT F (g := mkF m pc Ls (.ref a :: st)) rfl rfl hd
  exact (k T' ⟨vm0, k0, locs, b0, X', e', hS, hk, hZ, hown, r⟩).by stp
theorem w_getS (W : Wk p l e R s m args below meth c Z EL own ws nw T h cells slots) (hx : p.tables.exec = Jvm.exec) {R0 O n d : String} {index : Nat} (w : (Cond.fieldLink own index R0 n d).before a0 Z = true) (via : Via Z R0 O n d) {v : Value} (F : Sta Z Z.heap O n d v) (hd : decode c.code pc = .ok (.getstatic index, 3)) (hp : pc + 3 = pc')
    (k : ∀ T', Wk p l e R s m args below meth c Z EL own ws nw T' h cells slots → Gets p.tables e below P T' (mkF m pc' Ls (v :: st))) : Gets p.tables e below P T (mkF m pc Ls st) := by
  subst hp
  have O := W.old
  obtain ⟨vm0, k0, locs, b0, X, eT, hS, hk, hZ, hown, r⟩ := W
  obtain ⟨T', X', e', stp⟩ := getS X hx hZ hown (host := "") w via eT (F.ext O) (g := mkF m pc Ls st) rfl hd
  exact (k T' ⟨vm0, k0, locs, b0, X', e', hS, hk, hZ, hown, r⟩).by stp
theorem w_ldcI (W : Wk p l e R s m args below meth c Z EL own ws nw T h cells slots) (hx : p.tables.exec = Jvm.exec) {index : Nat} {v : Int32} (w : (Cond.constant own index v).before a0 Z = true) (hd : decode c.code pc = .ok (.ldc index, 2)) (hp : pc + 2 = pc')
    (k : Gets p.tables e below P T (mkF m pc' Ls (.int v :: st))) : Gets p.tables e below P T (mkF m pc Ls st) := by
  subst hp
  obtain ⟨vm0, k0, locs, b0, X, eT, hS, hk, hZ, hown, r⟩ := W
  exact k.by fun t q => Jvm.Stand.ldcI X hx hown (mv (s := s.setVm vm0) hZ w) (g := mkF m pc Ls st) rfl hd q
theorem w_ldc2J (W : Wk p l e R s m args below meth c Z EL own ws nw T h cells slots) (hx : p.tables.exec = Jvm.exec) {index : Nat} {v : Int64} (w : (Cond.constantLong own index v).before a0 Z = true) (hd : decode c.code pc = .ok (.ldc2_w index, 3)) (hp : pc + 3 = pc')
    (k : Gets p.tables e below P T (mkF m pc' Ls (.long v :: st))) : Gets p.tables e below P T (mkF m pc Ls st) := by
  subst hp
  obtain ⟨vm0, k0, locs, b0, X, eT, hS, hk, hZ, hown, r⟩ := W
  exact k.by fun t q => Jvm.Stand.ldc2J X hx hown (mv (s := s.setVm vm0) hZ w) (g := mkF m pc Ls st) rfl hd q
theorem w_acmp (W : Wk p l e R s m args below meth c Z EL own ws nw T h cells slots) (hx : p.tables.exec = Jvm.exec) {cd : ACond} {x y : Value} {o : Int} (h1 : x.isRef = true) (h2 : y.isRef = true) (same : Bool) (hd : decode c.code pc = .ok (.if_acmp cd o, 3)) (hq : decide (x = y) = same) (ho : 0 ≤ (pc : Int) + o) (hp : pc' = if acV cd same = true then ((pc : Int) + o).toNat else pc + 3)
    (k : Gets p.tables e below P T (mkF m pc' Ls st)) : Gets p.tables e below P T (mkF m pc Ls (y :: x :: st)) := by
  obtain ⟨vm0, k0, locs, b0, X, r⟩ := W
  exact k.by fun t q => Jvm.RoadKit.acmp (g := mkF m pc Ls (y :: x :: st)) X hx rfl h1 h2 (pc0 := pc) (pc' := pc') rfl hd rfl hq ho hp q
theorem w_cast (W : Wk p l e R s m args below meth c Z EL own ws nw T h cells slots) (hx : p.tables.exec = Jvm.exec) {K : String} {index : Nat} (w : (Cond.classLink own index K).before a0 Z = true) {a : Nat} (F : Ins Z h a K true) (hd : decode c.code pc = .ok (.checkcast index, 3)) (hp : pc + 3 = pc')
    (k : ∀ T', Wk p l e R s m args below meth c Z EL own ws nw T' h cells slots → Gets p.tables e below P T' (mkF m pc' Ls (.ref a :: st))) : Gets p.tables e below P T (mkF m pc Ls (.ref a :: st)) := by
  subst hp
  obtain ⟨vm0, k0, locs, b0, X, eT, hS, hk, hZ, hown, r⟩ := W
  obtain ⟨T', X', e', stp⟩ := castY X hx hZ hown w eT F (g := mkF m pc Ls (.ref a :: st)) rfl rfl hd
  exact (k T' ⟨vm0, k0, locs, b0, X', e', hS, hk, hZ, hown, r⟩).by stp
theorem w_inst (W : Wk p l e R s m args below meth c Z EL own ws nw T h cells slots) (hx : p.tables.exec = Jvm.exec) {K : String} {index : Nat} (w : (Cond.classLink own index K).before a0 Z = true) {a : Nat} (F : Ins Z h a K true) (hd : decode c.code pc = .ok (.instanceof index, 3)) (hp : pc + 3 = pc')
    (k : ∀ T', Wk p l e R s m args below meth c Z EL own ws nw T' h cells slots → Gets p.tables e below P T' (mkF m pc' Ls (.int 1 :: st))) : Gets p.tables e below P T (mkF m pc Ls (.ref a :: st)) := by
  subst hp
  obtain ⟨vm0, k0, locs, b0, X, eT, hS, hk, hZ, hown, r⟩ := W
  obtain ⟨T', X', e', stp⟩ := instY X hx hZ hown w eT F (g := mkF m pc Ls (.ref a :: st)) rfl rfl hd
  exact (k T' ⟨vm0, k0, locs, b0, X', e', hS, hk, hZ, hown, r⟩).by stp
theorem w_len (W : Wk p l e R s m args below meth c Z EL own ws nw T h cells slots) (hx : p.tables.exec = Jvm.exec) {a : Nat} {ty : FieldType} {vs : List Value} (F : Ary Z h a ty vs) (hd : decode c.code pc = .ok (.arraylength, 1)) (hp : pc + 1 = pc')
    (k : Gets p.tables e below P T (mkF m pc' Ls (.int vs.length.toInt32 :: st))) : Gets p.tables e below P T (mkF m pc Ls (.ref a :: st)) := by
  subst hp
  obtain ⟨vm0, k0, locs, b0, X, eT, hS, hk, hZ, hown, r⟩ := W
  obtain ⟨cl, A, e1, -, -⟩ := F
  refine k.by fun t q => X.arraylength hx (by rw [eT]; exact A.1) (State.isArrayOf_alike hZ.alike A.2.1) (g := mkF m pc Ls (.ref a :: st)) rfl rfl hd t ?_
  rw [size_of_list e1]; exact q
theorem in_of {cl : Cell} {vs : List Value} {j : Int32} {v : Value} (e : cl.slots.toList = vs) (hj : ¬ j < 0) (hv : vs[j.toNatClampNeg]? = some v) : ¬ (j < 0 ∨ cl.slots.size ≤ j.toNatClampNeg) ∧ cl.slots[j.toNatClampNeg]? = some v := by
  refine ⟨fun q => q.elim hj fun q => ?_, by rw [at_of_list e]; exact hv⟩
  have := (List.getElem?_eq_some_iff.mp hv).1
  rw [size_of_list e] at q; omega
theorem w_caload (W : Wk p l e R s m args below meth c Z EL own ws nw T h cells slots) (hx : p.tables.exec = Jvm.exec) {a : Nat} {vs : List Value} {j : Int32} {v : Value} (F : Ary Z h a .char vs) (hj : ¬ j < 0) (hv : vs[j.toNatClampNeg]? = some v) (hd : decode c.code pc = .ok (.caload, 1)) (hp : pc + 1 = pc')
    (k : Gets p.tables e below P T (mkF m pc' Ls (v :: st))) : Gets p.tables e below P T (mkF m pc Ls (.int j :: .ref a :: st)) := by
  subst hp
  obtain ⟨vm0, k0, locs, b0, X, eT, hS, hk, hZ, hown, r⟩ := W
  obtain ⟨cl, A, e1, -, -⟩ := F
  obtain ⟨q1, q2⟩ := in_of e1 hj hv
  exact k.by fun t q => X.caload hx (by rw [eT]; exact A.1) (State.isArrayOf_alike hZ.alike A.2.1) A.2.2 q1 q2 (g := mkF m pc Ls (.int j :: .ref a :: st)) rfl rfl hd t q
theorem w_baload (W : Wk p l e R s m args below meth c Z EL own ws nw T h cells slots) (hx : p.tables.exec = Jvm.exec) {a : Nat} {vs : List Value} {j : Int32} {v : Value} (F : Ary Z h a .byte vs) (hj : ¬ j < 0) (hv : vs[j.toNatClampNeg]? = some v) (hd : decode c.code pc = .ok (.baload, 1)) (hp : pc + 1 = pc')
    (k : Gets p.tables e below P T (mkF m pc' Ls (v :: st))) : Gets p.tables e below P T (mkF m pc Ls (.int j :: .ref a :: st)) := by
  subst hp
  obtain ⟨vm0, k0, locs, b0, X, eT, hS, hk, hZ, hown, r⟩ := W
  obtain ⟨cl, A, e1, -, -⟩ := F
  obtain ⟨q1, q2⟩ := in_of e1 hj hv
  exact k.by fun t q => X.baloadBytes hx (by rw [eT]; exact A.1) (State.isArrayOf_alike hZ.alike A.2.1) A.2.2 q1 q2 (g := mkF m pc Ls (.int j :: .ref a :: st)) rfl rfl hd t q
theorem w_iaload (W : Wk p l e R s m args below meth c Z EL own ws nw T h cells slots) (hx : p.tables.exec = Jvm.exec) {a : Nat} {vs : List Value} {j : Int32} {v : Value} (F : Ary Z h a .int vs) (hj : ¬ j < 0) (hv : vs[j.toNatClampNeg]? = some v) (hd : decode c.code pc = .ok (.iaload, 1)) (hp : pc + 1 = pc')
    (k : Gets p.tables e below P T (mkF m pc' Ls (v :: st))) : Gets p.tables e below P T (mkF m pc Ls (.int j :: .ref a :: st)) := by
  subst hp
  obtain ⟨vm0, k0, locs, b0, X, eT, hS, hk, hZ, hown, r⟩ := W
  obtain ⟨cl, A, e1, -, -⟩ := F
  obtain ⟨q1, q2⟩ := in_of e1 hj hv
  exact k.by fun t q => X.iaload hx (by rw [eT]; exact A.1) (State.isArrayOf_alike hZ.alike A.2.1) A.2.2 q1 q2 (g := mkF m pc Ls (.int j :: .ref a :: st)) rfl rfl hd t q
theorem w_aaload (W : Wk p l e R s m args below meth c Z EL own ws nw T h cells slots) (hx : p.tables.exec = Jvm.exec) {a : Nat} {ty : FieldType} {vs : List Value} {j : Int32} {v : Value} (F : Ary Z h a ty vs) (hty : ty.isReference = true) (hj : ¬ j < 0) (hv : vs[j.toNatClampNeg]? = some v) (hd : decode c.code pc = .ok (.aaload, 1)) (hp : pc + 1 = pc')
    (k : Gets p.tables e below P T (mkF m pc' Ls (v :: st))) : Gets p.tables e below P T (mkF m pc Ls (.int j :: .ref a :: st)) := by
  subst hp
  obtain ⟨vm0, k0, locs, b0, X, eT, hS, hk, hZ, hown, r⟩ := W
  obtain ⟨cl, A, e1, -, -⟩ := F
  obtain ⟨q1, q2⟩ := in_of e1 hj hv
  exact k.by fun t q => X.aaload hx (by rw [eT]; exact A.1) (State.isArrayOf_alike hZ.alike A.2.1) hty A.2.2 q1 q2 (g := mkF m pc Ls (.int j :: .ref a :: st)) rfl rfl hd t q
theorem w_aaloadA (W : Wk p l e R s m args below meth c Z EL own ws nw T h cells slots) (hx : p.tables.exec = Jvm.exec) {a : Nat} {ty : FieldType} {cl : Cell} {j : Int32} {v : Value} (A : Arr Z h a cl ty) (hty : ty.isReference = true) (hin : ¬ (j < 0 ∨ cl.slots.size ≤ j.toNatClampNeg)) (hv : cl.slots[j.toNatClampNeg]? = some v) (hd : decode c.code pc = .ok (.aaload, 1)) (hp : pc + 1 = pc')
    (k : Gets p.tables e below P T (mkF m pc' Ls (v :: st))) : Gets p.tables e below P T (mkF m pc Ls (.int j :: .ref a :: st)) := by
  subst hp
  obtain ⟨vm0, k0, locs, b0, X, eT, hS, hk, hZ, hown, r⟩ := W
  exact k.by fun t q => X.aaload hx (by rw [eT]; exact A.1) (State.isArrayOf_alike hZ.alike A.2.1) hty A.2.2 hin hv (g := mkF m pc Ls (.int j :: .ref a :: st)) rfl rfl hd t q
theorem w_initO (W : Wk p l e R s m args below meth c Z EL own ws nw T h cells slots) (hx : p.tables.exec = Jvm.exec) {idx : Nat} (w1 : (Cond.methodLink own idx Lib.objectInit).before a0 Z = true) (w2 : (Cond.instanceMethod Lib.objectInit).before a0 Z = true) (w3 : (Cond.code Lib.objectInit ⟨#[0xb1]⟩ 1 none).before a0 Z = true) {a : Nat} (hsz : Ls.size = c.maxLocals) (hd : decode c.code pc = .ok (.invokespecial idx, 3)) (hf : 1 ≤ R.frames) (hW : (st.map fun v => v.category).sum + 12 ≤ R.locals) (hp : pc + 3 = pc')
    (k : ∀ T', Wk p l e R s m args below meth c Z EL own ws nw T' h cells slots → Gets p.tables e below P T' (mkF m pc' Ls st)) : Gets p.tables e below P T (mkF m pc Ls (.ref a :: st)) := by
  subst hp
  obtain ⟨vm0, k0, locs, b0, X, eT, hS, hk, hZ, hown, r⟩ := W
  obtain ⟨T', X', e', stp⟩ := initO X hx hZ hown w1 w2 w3 eT (g := mkF m pc Ls (.ref a :: st)) rfl hsz rfl hd hf (W := (st.map fun v => v.category).sum) (by show 2 * 0 + _ ≤ _; omega) hW
  exact (k T' ⟨vm0, k0, locs, b0, X', e', hS, hk, hZ, hown, r⟩).by stp
/-! steps that move the heap -/
theorem w_new (W : Wk p l e R s m args below meth c Z EL own ws nw T h cells slots) (hx : p.tables.exec = Jvm.exec) {C : String} {index n : Nat} (w : (Cond.classLink own index C).before a0 Z = true) (wi : (Cond.instantiable C n).before a0 Z = true) (wz : (Cond.initialized C).before a0 Z = true) (hd : decode c.code pc = .ok (.new index, 3)) (hc : cells + 1 ≤ R.cells) (hl : slots + n ≤ R.slots) (hp : pc + 3 = pc')
    (k : ∀ (T' : State) (h' : Heap) (b : Nat), b = h.size → Wk p l e R s m args below meth c Z EL own ws (b :: nw) T' h' (cells + 1) (slots + n) → Keep h h' [] → Exa Z h' b C → (∀ {O nm d : String} {ty : FieldType}, Laid Z a0 C O nm d → parseFieldDescriptor d = some ty → Fld Z h' b O nm d (defaultValue ty)) → Gets p.tables e below P T' (mkF m pc' Ls (.ref b :: st))) : Gets p.tables e below P T (mkF m pc Ls st) := by
  subst hp
  obtain ⟨vm0, k0, locs, b0, X, eT, hS, hk, hZ, hown, hE, hC, hF, hO, hK, n1, n2⟩ := W
  obtain ⟨T', h', X', e', E, A, D, -, stp⟩ := newO X hx hZ hown w wi wz eT (g := mkF m pc Ls st) rfl hd hc hl
  have hn : h.size < h'.size := A.lt
  have hs : s.heap.size ≤ h.size := hK.1
  refine (k T' h' h.size rfl ⟨vm0, k0, locs, b0, X', e', hS, Nat.le_trans hk E.1, hZ, hown, hE, hC.trans (CHr.ext E hC.1), hF, ⟨Nat.le_trans hO.1 E.1, fun a c q => E.2 a c (hO.2 a c q)⟩, hK.ext E, fun x hx => ?_, fun x hx => ?_⟩ ((Keep.refl h []).ext E) A D).by stp
  · obtain ⟨a, b, c⟩ := n1 x hx
    exact ⟨a, Nat.lt_of_lt_of_le b E.1, c.ext E hC.1⟩
  · rcases List.mem_cons.mp hx with rfl | hx
    · exact ⟨hs, hO.1, hn, Safe.ext E hC.1 (Safe.new (Nat.le_refl _))⟩
    · obtain ⟨a, b, c, d⟩ := n2 x hx
      exact ⟨a, b, Nat.lt_of_lt_of_le c E.1, d.ext E hC.1⟩
theorem w_newarr (W : Wk p l e R s m args below meth c Z EL own ws nw T h cells slots) (hx : p.tables.exec = Jvm.exec) {aty : ArrayType} (w : (Cond.arrayClass (newarray.typeOf aty)).before a0 Z = true) {n : Int32} (hd : decode c.code pc = .ok (.newarray aty, 2)) (hn : ¬ n < 0) {cap : Nat} (hcap : n.toNatClampNeg ≤ cap) (hb : cap * 8 ≤ 536870912) (hc : cells + 1 ≤ R.cells) (hl : slots + cap ≤ R.slots) (hf : fits (newarray.typeOf aty) (defaultValue (newarray.typeOf aty)) = true) (hp : pc + 2 = pc')
    (k : ∀ (T' : State) (h' : Heap) (b : Nat), b = h.size → Wk p l e R s m args below meth c Z EL own ws (b :: nw) T' h' (cells + 1) (slots + cap) → Keep h h' [] → Ary Z h' b (newarray.typeOf aty) (List.replicate n.toNatClampNeg (defaultValue (newarray.typeOf aty))) → Gets p.tables e below P T' (mkF m pc' Ls (.ref b :: st))) : Gets p.tables e below P T (mkF m pc Ls (.int n :: st)) := by
  subst hp
  obtain ⟨vm0, k0, locs, b0, X, eT, hS, hk, hZ, hown, hE, hC, hF, hO, hK, n1, n2⟩ := W
  obtain ⟨T', h', cA, X', e', E, A, stp⟩ := newP X hx hZ w eT (g := mkF m pc Ls (.int n :: st)) rfl hd rfl hn hcap hb hc hl
  have hn' : h.size < h'.size := A.lt
  have hs : s.heap.size ≤ h.size := hK.1
  refine (k T' h' h.size rfl ⟨vm0, k0, locs, b0, X', e', hS, Nat.le_trans hk E.1, hZ, hown, hE, hC.trans (CHr.ext E hC.1), hF, ⟨Nat.le_trans hO.1 E.1, fun a c q => E.2 a c (hO.2 a c q)⟩, hK.ext E, fun x hx => ?_, fun x hx => ?_⟩ ((Keep.refl h []).ext E) (Ary.made A hn hf)).by stp
  · obtain ⟨a, b, c⟩ := n1 x hx
    exact ⟨a, Nat.lt_of_lt_of_le b E.1, c.ext E hC.1⟩
  · rcases List.mem_cons.mp hx with rfl | hx
    · exact ⟨hs, hO.1, hn', Safe.ext E hC.1 (Safe.new (Nat.le_refl _))⟩
    · obtain ⟨a, b, c, d⟩ := n2 x hx
      exact ⟨a, b, Nat.lt_of_lt_of_le c E.1, d.ext E hC.1⟩
theorem Wk.wrote {vm0 : Vm} {k0 : Nat} {locs : List Loc} {b0 : Array Value} {T' : State} {h' : Heap} {a : Nat} {sl : Nat} {v : Value} (ha : a ∈ ws ++ nw) (WW : Wr h h' a sl v) (X' : Stand p l e R (s.setVm vm0) m args below meth c T' (locs ++ [⟨a, sl⟩]) cells slots) (e' : T'.heap = h')
    (r : s.Since vm0 k0 ∧ k0 ≤ h.size ∧ Z.Warmed39 vm0 ∧ vm0.findClass own = some m.cls ∧ EW Z b0 EL ∧ CHr Z EL s.vm s.heap vm0 h ∧ Fr Z.heap.size locs ∧ Ext Z.heap h ∧ Keep s.heap h ws ∧ (∀ x : Nat, x ∈ ws → Z.heap.size ≤ x ∧ x < h.size ∧ Safe Z EL vm0 h x) ∧ (∀ x : Nat, x ∈ nw → s.heap.size ≤ x ∧ Z.heap.size ≤ x ∧ x < h.size ∧ Safe Z EL vm0 h x)) :
    Wk p l e R s m args below meth c Z EL own ws nw T' h' cells slots := by
  obtain ⟨hS, hk, hZ, hown, hE, hC, hF, hO, hK, n1, n2⟩ := r
  have sz := WW.size
  have key : Z.heap.size ≤ a ∧ Safe Z EL vm0 h a ∧ (a ∈ ws ∨ s.heap.size ≤ a) := by
    rcases List.mem_append.mp ha with q | q
    · exact ⟨(n1 a q).1, (n1 a q).2.2, Or.inl q⟩
    · exact ⟨(n2 a q).2.1, (n2 a q).2.2.2, Or.inr (n2 a q).1⟩
  have K1 : Keep h h' [a] := Keep.of_wr WW
  refine ⟨vm0, k0, locs ++ [⟨a, sl⟩], b0, X', e', hS, by omega, hZ, hown, hE, hC.trans (CHr.wr WW key.2.1 hC.1), Fr.snoc X' hF key.1, ⟨by have := hO.1; omega, fun x cc q => K1.2.1 x cc (hO.2 x cc q) fun z => ?_⟩, hK.wr WW key.2.2, fun x hx => ?_, fun x hx => ?_⟩
  · cases List.mem_singleton.mp z
    have := (Array.getElem?_eq_some_iff.mp q).1
    omega
  · obtain ⟨q1, q2, q3⟩ := n1 x hx
    exact ⟨q1, by omega, Safe.wr WW key.2.1 hC.1 q3⟩
  · obtain ⟨q1, q2, q3, q4⟩ := n2 x hx
    exact ⟨q1, q2, by omega, Safe.wr WW key.2.1 hC.1 q4⟩
theorem w_put (W : Wk p l e R s m args below meth c Z EL own ws nw T h cells slots) (hx : p.tables.exec = Jvm.exec) {R0 O n d C : String} {index kk : Nat} {ty : FieldType} (w : (Cond.fieldLink own index R0 n d).before a0 Z = true) (via : Via Z R0 O n d) {a : Nat} {v old : Value} (F : Fld Z h a O n d old) (E : Exa Z h a C) (L : (Cond.lays C O n d).before a0 Z = true ∨ ((Cond.laysFinal C O n d).before a0 Z = true ∧ own = O ∧ meth.name = "<init>")) (wi : (Cond.instantiable C kk).before a0 Z = true)
    (hty : parseFieldDescriptor d = some ty) (hn : narrow ty v = v) (hf : fits ty v = true) (ha : a ∈ ws ++ nw) (hd : decode c.code pc = .ok (.putfield index, 3)) (hp : pc + 3 = pc')
    (k : ∀ T' h', Wk p l e R s m args below meth c Z EL own ws nw T' h' cells slots → Keep h h' [a] → Wr h h' a (Jvm.RoadKit.slotOf Z O n d) v → Fld Z h' a O n d v → Exa Z h' a C → Gets p.tables e below P T' (mkF m pc' Ls st)) : Gets p.tables e below P T (mkF m pc Ls (v :: .ref a :: st)) := by
  subst hp
  obtain ⟨vm0, k0, locs, b0, X, eT, r⟩ := W
  obtain ⟨T', h', X', e', WW, stp⟩ := putF X hx r.2.2.1 r.2.2.2.1 (host := "") (Or.inl w) via eT F E L wi hty hn hf (g := mkF m pc Ls (v :: .ref a :: st)) rfl rfl hd
  exact (k T' h' (Wk.wrote ha WW X' e' r) (Keep.of_wr WW) WW (F.same WW) (E.wr WW)).by stp
theorem w_putN (W : Wk p l e R s m args below meth c Z EL own ws nw T h cells slots) (hx : p.tables.exec = Jvm.exec) {R0 O n d C : String} {index kk : Nat} {ty : FieldType} (w : (Cond.fieldLink own index R0 n d).before a0 Z = true) (via : Via Z R0 O n d) {a : Nat} {v v' old : Value} (F : Fld Z h a O n d old) (E : Exa Z h a C) (L : (Cond.lays C O n d).before a0 Z = true ∨ ((Cond.laysFinal C O n d).before a0 Z = true ∧ own = O ∧ meth.name = "<init>")) (wi : (Cond.instantiable C kk).before a0 Z = true)
    (hty : parseFieldDescriptor d = some ty) (hn : narrow ty v = v') (hf : fits ty v' = true) (ha : a ∈ ws ++ nw) (hd : decode c.code pc = .ok (.putfield index, 3)) (hp : pc + 3 = pc')
    (k : ∀ T' h', Wk p l e R s m args below meth c Z EL own ws nw T' h' cells slots → Keep h h' [a] → Wr h h' a (Jvm.RoadKit.slotOf Z O n d) v' → Fld Z h' a O n d v' → Exa Z h' a C → Gets p.tables e below P T' (mkF m pc' Ls st)) : Gets p.tables e below P T (mkF m pc Ls (v :: .ref a :: st)) := by
  subst hp
  obtain ⟨vm0, k0, locs, b0, X, eT, r⟩ := W
  obtain ⟨T', h', X', e', WW, stp⟩ := putFN X hx r.2.2.1 r.2.2.2.1 w via eT F E L wi hty hn hf (g := mkF m pc Ls (v :: .ref a :: st)) rfl rfl hd
  exact (k T' h' (Wk.wrote ha WW X' e' r) (Keep.of_wr WW) WW (F.same WW) (E.wr WW)).by stp
theorem w_castore (W : Wk p l e R s m args below meth c Z EL own ws nw T h cells slots) (hx : p.tables.exec = Jvm.exec) {a : Nat} {vs : List Value} {j x : Int32} (F : Ary Z h a .char vs) (hj : ¬ j < 0) (hi : j.toNatClampNeg < vs.length) (ha : a ∈ ws ++ nw) {x' : Int32} (hq : nar .char x = x') (hd : decode c.code pc = .ok (.castore, 1)) (hp : pc + 1 = pc')
    (k : ∀ T' h', Wk p l e R s m args below meth c Z EL own ws nw T' h' cells slots → Keep h h' [a] → Ary Z h' a .char (vs.set j.toNatClampNeg (.int x')) → Gets p.tables e below P T' (mkF m pc' Ls st)) : Gets p.tables e below P T (mkF m pc Ls (.int x :: .int j :: .ref a :: st)) := by
  subst hp; subst hq
  obtain ⟨vm0, k0, locs, b0, X, eT, r⟩ := W
  obtain ⟨cl, A, e1, e2, e3⟩ := F
  obtain ⟨T', h', X', e', WW, stp⟩ := stC X hx r.2.2.1 eT A (j := j) (x := x) (fun q => q.elim hj fun q => by rw [size_of_list e1] at q; omega) (g := mkF m pc Ls (.int x :: .int j :: .ref a :: st)) rfl rfl hd
  exact (k T' h' (Wk.wrote ha WW X' e' r) (Keep.of_wr WW) (Ary.wrote A e1 e2 e3 (fits_nar_char x) WW)).by stp
theorem w_bastore (W : Wk p l e R s m args below meth c Z EL own ws nw T h cells slots) (hx : p.tables.exec = Jvm.exec) {a : Nat} {vs : List Value} {j x : Int32} (F : Ary Z h a .byte vs) (hj : ¬ j < 0) (hi : j.toNatClampNeg < vs.length) (ha : a ∈ ws ++ nw) {x' : Int32} (hq : x.toInt8.toInt32 = x') (hd : decode c.code pc = .ok (.bastore, 1)) (hp : pc + 1 = pc')
    (k : ∀ T' h', Wk p l e R s m args below meth c Z EL own ws nw T' h' cells slots → Keep h h' [a] → Ary Z h' a .byte (vs.set j.toNatClampNeg (.int x')) → Gets p.tables e below P T' (mkF m pc' Ls st)) : Gets p.tables e below P T (mkF m pc Ls (.int x :: .int j :: .ref a :: st)) := by
  subst hp; subst hq
  obtain ⟨vm0, k0, locs, b0, X, eT, r⟩ := W
  obtain ⟨cl, A, e1, e2, e3⟩ := F
  obtain ⟨T', h', X', e', WW, stp⟩ := stB X hx r.2.2.1 eT A (j := j) (x := x) (fun q => q.elim hj fun q => by rw [size_of_list e1] at q; omega) (g := mkF m pc Ls (.int x :: .int j :: .ref a :: st)) rfl rfl hd
  exact (k T' h' (Wk.wrote ha WW X' e' r) (Keep.of_wr WW) (Ary.wrote A e1 e2 e3 (fits_nar_byte x) WW)).by stp
theorem w_iastore (W : Wk p l e R s m args below meth c Z EL own ws nw T h cells slots) (hx : p.tables.exec = Jvm.exec) {a : Nat} {vs : List Value} {j x : Int32} (F : Ary Z h a .int vs) (hj : ¬ j < 0) (hi : j.toNatClampNeg < vs.length) (ha : a ∈ ws ++ nw) (hd : decode c.code pc = .ok (.iastore, 1)) (hp : pc + 1 = pc')
    (k : ∀ T' h', Wk p l e R s m args below meth c Z EL own ws nw T' h' cells slots → Keep h h' [a] → Ary Z h' a .int (vs.set j.toNatClampNeg (.int x)) → Gets p.tables e below P T' (mkF m pc' Ls st)) : Gets p.tables e below P T (mkF m pc Ls (.int x :: .int j :: .ref a :: st)) := by
  subst hp
  obtain ⟨vm0, k0, locs, b0, X, eT, r⟩ := W
  obtain ⟨cl, A, e1, e2, e3⟩ := F
  obtain ⟨T', h', X', e', WW, stp⟩ := stI X hx r.2.2.1 eT A (j := j) (x := x) (fun q => q.elim hj fun q => by rw [size_of_list e1] at q; omega) (g := mkF m pc Ls (.int x :: .int j :: .ref a :: st)) rfl rfl hd
  exact (k T' h' (Wk.wrote ha WW X' e' r) (Keep.of_wr WW) (Ary.wrote A e1 e2 e3 rfl WW)).by stp
/-! calls -/
theorem backC {y : MethodName} {bytes : ByteArray} {maxL : Nat} {ret : Option FieldType} {rm : Room} {len W : Nat} {as' : Array Value} {Q : Option Value → Heap → Prop} {vm0 : Vm} {wsc : List Addr}
    (hM : Con l Z EL y bytes maxL ret rm as' h wsc Q) (hZ : Z.Warmed39 vm0) (wc : (Cond.code y bytes maxL ret).before a0 Z = true) (wz : (Cond.initialized y.cls).before a0 Z = true) (hf : rm.frames + 1 ≤ R.frames) (hl : W + (maxL + 11) + rm.locals ≤ R.locals) {b0 : Array Value} (hEL : EW Z b0 EL) (H : CHv Z EL vm0 h) (hs : ∀ x : Nat, x ∈ wsc → x < h.size ∧ Safe Z EL vm0 h x) :
    BackS l R p e below (s.setVm vm0) args y len W (fun A a => a = as' ∧ A.U.heap = h ∧ A.cells + rm.cells ≤ R.cells ∧ A.slots + rm.slots ≤ R.slots)
      (fun A _ v B => ∃ L, (Q v B.U.heap ∧ Fr Z.heap.size L ∧ Keep h B.U.heap wsc ∧ Ext Z.heap B.U.heap) ∧ B.locs = A.locs ++ L ∧ B.cells = A.cells + rm.cells ∧ B.slots = A.slots + rm.slots ∧ CHr Z EL vm0 h B.U.vm B.U.heap) :=
  BackS.of_freeW (bytes := bytes) (maxL := maxL) (ret := ret) (E := fun _ first o t L k n => k = rm.cells ∧ n = rm.slots ∧ (∃ v, o = .returned v ∧ (Q v t.heap ∧ Fr Z.heap.size L ∧ Keep h t.heap wsc ∧ Ext Z.heap t.heap)) ∧ CHr Z EL first.vm first.heap t.vm t.heap) hM hf hl
    (fun m meth c A a Y hp => have hU : Z.Warmed39 A.U.vm := wtrans (s := s.setVm vm0) hZ Y.warmed
      ⟨by show (Cond.and _ .tt).before a A.U = true; rw [Cond.before_and, mv hU wc]; rfl, mv hU wc, mv hU wz, hp.2.2.1, hp.2.2.2⟩)
    (fun m meth c A a g mk Y hp => ⟨hp.1, wtrans (s := s.setVm vm0) hZ Y.warmed, hp.2.1, (CHv.at Y hZ hEL H).1, fun x hx => (CHv.at Y hZ hEL H).safe (hs x hx).1 (hs x hx).2⟩) (fun _ _ _ _ _ _ _ _ _ => trivial)
    (fun _ _ _ _ ⟨v, L, h1, h2, h3, h4⟩ => ⟨L, _, _, h4, rfl, rfl, ⟨v, h1, h2⟩, h3⟩)
    (fun m meth c A a g mk v t L k n Y hp _ _ ⟨e1, e2, ⟨v', e3, e4⟩, e5⟩ => by
      cases e3; subst e1 e2
      refine ⟨L, e4, rfl, rfl, rfl, (CHv.at Y hZ hEL H).trans ?_⟩
      rw [← hp.2.1]; exact e5)
theorem Wk.called {vm0 : Vm} {k0 : Nat} {locs L : List Loc} {b0 : Array Value} {T' : State} {h' : Heap} {wsc : List Addr} {n c' s' : Nat} (hw : ∀ x ∈ wsc, x ∈ ws ++ nw) (X' : Stand p l e R ((s.setVm vm0).setVm T'.vm) m args below meth c T' (locs ++ L) c' s') (e' : T'.heap = h') (h2 : (s.setVm vm0).Since T'.vm n) (hn : n ≤ h'.size) (hln : h.size ≤ n) (F : Fr Z.heap.size L) (K : Keep h h' wsc) (O' : Ext Z.heap h') (C' : CHr Z EL vm0 h T'.vm h')
    (r : s.Since vm0 k0 ∧ k0 ≤ h.size ∧ Z.Warmed39 vm0 ∧ vm0.findClass own = some m.cls ∧ EW Z b0 EL ∧ CHr Z EL s.vm s.heap vm0 h ∧ Fr Z.heap.size locs ∧ Ext Z.heap h ∧ Keep s.heap h ws ∧ (∀ x : Nat, x ∈ ws → Z.heap.size ≤ x ∧ x < h.size ∧ Safe Z EL vm0 h x) ∧ (∀ x : Nat, x ∈ nw → s.heap.size ≤ x ∧ Z.heap.size ≤ x ∧ x < h.size ∧ Safe Z EL vm0 h x)) :
    Wk p l e R s m args below meth c Z EL own ws nw T' h' c' s' := by
  obtain ⟨hS, hk, hZ, hown, hE, hC, hF, hO, hK, n1, n2⟩ := r
  have sz := K.1
  refine ⟨T'.vm, n, locs ++ L, b0, X', e', hS.trans h2 (by omega), hn, State.Warmed39.trans (t := s.setVm vm0) hZ h2.1, (h2.1.alike.findClass _ _).trans hown, hE, hC.trans C', Fr.app hF F, O', hK.trans K (fun x hx => ?_), fun x hx => ?_, fun x hx => ?_⟩
  · rcases List.mem_append.mp (hw x hx) with q | q
    · exact Or.inl q
    · exact Or.inr (n2 x q).1
  · obtain ⟨q1, q2, q3⟩ := n1 x hx
    exact ⟨q1, by omega, C'.safe q2 q3⟩
  · obtain ⟨q1, q2, q3, q4⟩ := n2 x hx
    exact ⟨q1, q2, by omega, C'.safe q3 q4⟩
theorem w_callS (W : Wk p l e R s m args below meth c Z EL own ws nw T h cells slots) (hx : p.tables.exec = Jvm.exec) {index : Nat} {y : MethodName} {bytes : ByteArray} {maxL : Nat} {ret : Option FieldType} {rm : Room} {Q : Option Value → Heap → Prop} {wsc : List Addr} (argsL : List Value)
    (w1 : (Cond.methodLink own index y).before a0 Z = true) (w2 : (Cond.static y).before a0 Z = true) (w3 : (Cond.initialized y.cls).before a0 Z = true) (w4 : (Cond.code y bytes maxL ret).before a0 Z = true) (hy : y.cls ≠ "java/lang/invoke/MethodHandle" ∧ y.cls ≠ "java/lang/invoke/VarHandle")
    (H : Con l Z EL y bytes maxL ret rm argsL.toArray h wsc Q) (hwc : ∀ x ∈ wsc, x ∈ ws ++ nw) (hsz : Ls.size = c.maxLocals) (hlen : ∀ sig, parseMethodDescriptor y.desc = some sig → argsL.length = sig.parameters.length) {stk : List Value} (hstk : stk = argsL.reverse ++ st) (hd : decode c.code pc = .ok (.invokestatic index, 3))
    (hf : rm.frames + 1 ≤ R.frames) (hl : (st.map fun v => v.category).sum + (maxL + 11) + rm.locals ≤ R.locals) (hc : cells + rm.cells ≤ R.cells) (hs : slots + rm.slots ≤ R.slots) (hp : pc + 3 = pc')
    (k : ∀ v T' h', Wk p l e R s m args below meth c Z EL own ws nw T' h' (cells + rm.cells) (slots + rm.slots) → Keep h h' wsc → Q v h' → Gets p.tables e below P T' (mkF m pc' Ls (v.toList ++ st))) : Gets p.tables e below P T (mkF m pc Ls stk) := by
  subst hp
  obtain ⟨vm0, k0, locs, b0, X, eT, r⟩ := W
  obtain ⟨hS, hk, hZ, hown, hE, hC, hF, hO, hK, n1, n2⟩ := id r
  have sf : ∀ x : Nat, x ∈ wsc → x < h.size ∧ Safe Z EL vm0 h x := fun x hx => by
    rcases List.mem_append.mp (hwc x hx) with q | q
    · exact (n1 x q).2
    · exact (n2 x q).2.2
  obtain ⟨v, vm1, ⟨T', L', c', s'⟩, -, X', hS2, hg2, ⟨L, ⟨q1, q2, q3, q4⟩, l1, l2, l3, C'⟩, stp⟩ := callSS X hx (y := y) hown (mv (s := s.setVm vm0) hZ w1) (mv (s := s.setVm vm0) hZ w2) (mv (s := s.setVm vm0) hZ w3) (mv (s := s.setVm vm0) hZ w4) hy (backC (W := (st.map fun v => v.category).sum) H hZ w4 w3 hf hl hE hC.1 sf) (g := mkF m pc Ls stk) rfl hsz (argsL := argsL) (rest := st) hlen hstk (by show 2 * 0 + _ ≤ _; omega) hd (fun _ _ => ⟨rfl, eT, hc, hs⟩)
  dsimp only [Pt.U, Pt.locs, Pt.cells, Pt.slots] at X' hS2 hg2 q1 q3 q4 l1 l2 l3 C' stp
  subst l1 l2 l3
  exact (k v T' _ (Wk.called (h' := T'.heap) hwc X' rfl hS2 (Nat.le_refl _) (by rw [← eT]; exact hg2) q2 q3 q4 C' r) q3 q1).by fun t q => stp.trans q
theorem w_special (W : Wk p l e R s m args below meth c Z EL own ws nw T h cells slots) (hx : p.tables.exec = Jvm.exec) {index : Nat} {y : MethodName} {bytes : ByteArray} {maxL : Nat} {rm : Room} {Q : Option Value → Heap → Prop} {wsc : List Addr} {a : Nat} (argsL : List Value) (hy1 : y.name = "<init>")
    (w1 : (Cond.methodLink own index y).before a0 Z = true) (w2 : (Cond.instanceMethod y).before a0 Z = true) (w3 : (Cond.initialized y.cls).before a0 Z = true) (w4 : (Cond.code y bytes maxL none).before a0 Z = true) (hy : y.cls ≠ "java/lang/invoke/MethodHandle" ∧ y.cls ≠ "java/lang/invoke/VarHandle")
    (H : Con l Z EL y bytes maxL none rm (.ref a :: argsL).toArray h wsc Q) (hwc : ∀ x ∈ wsc, x ∈ ws ++ nw) (hsz : Ls.size = c.maxLocals) (hlen : ∀ sig, parseMethodDescriptor y.desc = some sig → argsL.length = sig.parameters.length) {stk : List Value} (hstk : stk = argsL.reverse ++ .ref a :: st) (hd : decode c.code pc = .ok (.invokespecial index, 3))
    (hf : rm.frames + 1 ≤ R.frames) (hl : (st.map fun v => v.category).sum + (maxL + 11) + rm.locals ≤ R.locals) (hc : cells + rm.cells ≤ R.cells) (hs : slots + rm.slots ≤ R.slots) (hp : pc + 3 = pc')
    (k : ∀ v T' h', Wk p l e R s m args below meth c Z EL own ws nw T' h' (cells + rm.cells) (slots + rm.slots) → Keep h h' wsc → Q v h' → Gets p.tables e below P T' (mkF m pc' Ls (v.toList ++ st))) : Gets p.tables e below P T (mkF m pc Ls stk) := by
  subst hp
  obtain ⟨vm0, k0, locs, b0, X, eT, r⟩ := W
  obtain ⟨hS, hk, hZ, hown, hE, hC, hF, hO, hK, n1, n2⟩ := id r
  have sf : ∀ x : Nat, x ∈ wsc → x < h.size ∧ Safe Z EL vm0 h x := fun x hx => by
    rcases List.mem_append.mp (hwc x hx) with q | q
    · exact (n1 x q).2
    · exact (n2 x q).2.2
  obtain ⟨v, vm1, ⟨T', L', c', s'⟩, -, X', hS2, hg2, ⟨L, ⟨q1, q2, q3, q4⟩, l1, l2, l3, C'⟩, stp⟩ := X.specialBackS hx (y := y) hy1 hown (mv (s := s.setVm vm0) hZ w1) (mv (s := s.setVm vm0) hZ w2) (mv (s := s.setVm vm0) hZ w4) hy (backC (W := (st.map fun v => v.category).sum) H hZ w4 w3 hf hl hE hC.1 sf) (g := mkF m pc Ls stk) rfl hsz (Steps.refl _) (a := a) (argsL := argsL) (rest := st) hlen hstk (by show 2 * 0 + _ ≤ _; omega) hd (fun _ _ => ⟨rfl, eT, hc, hs⟩)
  dsimp only [Pt.U, Pt.locs, Pt.cells, Pt.slots] at X' hS2 hg2 q1 q3 q4 l1 l2 l3 C' stp
  subst l1 l2 l3
  exact (k v T' _ (Wk.called (h' := T'.heap) hwc X' rfl hS2 (Nat.le_refl _) (by rw [← eT]; exact hg2) q2 q3 q4 C' r) q3 q1).by fun t q => stp.trans q
theorem w_virtual (W : Wk p l e R s m args below meth c Z EL own ws nw T h cells slots) (hx : p.tables.exec = Jvm.exec) {index : Nat} {y z : MethodName} {C : String} {bytes : ByteArray} {maxL : Nat} {ret : Option FieldType} {rm : Room} {Q : Option Value → Heap → Prop} {wsc : List Addr} {a : Nat} (argsL : List Value)
    (w1 : (Cond.methodLink own index y).before a0 Z = true) (w2 : (Cond.declares y).before a0 Z = true) (hnf : ∀ {U : State}, Z.Warmed39 U.vm → NotFace U y) (w3 : (Cond.selects C y z).before a0 Z = true) (w5 : (Cond.instanceMethod z).before a0 Z = true) (w6 : (Cond.initialized z.cls).before a0 Z = true) (w4 : (Cond.code z bytes maxL ret).before a0 Z = true) (hy : y.cls ≠ "java/lang/invoke/MethodHandle" ∧ y.cls ≠ "java/lang/invoke/VarHandle")
    (H : Con l Z EL z bytes maxL ret rm (.ref a :: argsL).toArray h wsc Q) (E : Exa Z h a C) (hwc : ∀ x ∈ wsc, x ∈ ws ++ nw) (hsz : Ls.size = c.maxLocals) (hlen : ∀ sig, parseMethodDescriptor y.desc = some sig → argsL.length = sig.parameters.length) {stk : List Value} (hstk : stk = argsL.reverse ++ .ref a :: st) (hd : decode c.code pc = .ok (.invokevirtual index, 3))
    (hf : rm.frames + 1 ≤ R.frames) (hl : (st.map fun v => v.category).sum + (maxL + 11) + rm.locals ≤ R.locals) (hc : cells + rm.cells ≤ R.cells) (hs : slots + rm.slots ≤ R.slots) (hp : pc + 3 = pc')
    (k : ∀ v T' h', Wk p l e R s m args below meth c Z EL own ws nw T' h' (cells + rm.cells) (slots + rm.slots) → Keep h h' wsc → Q v h' → Gets p.tables e below P T' (mkF m pc' Ls (v.toList ++ st))) : Gets p.tables e below P T (mkF m pc Ls stk) := by
  subst hp
  obtain ⟨vm0, k0, locs, b0, X, eT, r⟩ := W
  obtain ⟨hS, hk, hZ, hown, hE, hC, hF, hO, hK, n1, n2⟩ := id r
  have sf : ∀ x : Nat, x ∈ wsc → x < h.size ∧ Safe Z EL vm0 h x := fun x hx => by
    rcases List.mem_append.mp (hwc x hx) with q | q
    · exact (n1 x q).2
    · exact (n2 x q).2.2
  obtain ⟨cq, kq, qa, qb, qc⟩ := isOf (s := s.setVm vm0) hZ eT E
  obtain ⟨v, vm1, ⟨T', L', c', s'⟩, -, X', hS2, hg2, ⟨L, ⟨q1, q2, q3, q4⟩, l1, l2, l3, C'⟩, stp⟩ := X.virtualBackS hx (y := y) (z := z) hown (mv (s := s.setVm vm0) hZ w1) (mv (s := s.setVm vm0) hZ w2) (hnf (U := s.setVm vm0) hZ) (mv (s := s.setVm vm0) hZ w3) (mv (s := s.setVm vm0) hZ w5) hy (backC (W := (st.map fun v => v.category).sum) H hZ w4 w6 hf hl hE hC.1 sf) qa qc (g := mkF m pc Ls stk) rfl hsz (Steps.refl _) (argsL := argsL) (rest := st) hlen hstk (by show 2 * 0 + _ ≤ _; omega) hd (fun _ _ => ⟨rfl, eT, hc, hs⟩)
  dsimp only [Pt.U, Pt.locs, Pt.cells, Pt.slots] at X' hS2 hg2 q1 q3 q4 l1 l2 l3 C' stp
  subst l1 l2 l3
  exact (k v T' _ (Wk.called (h' := T'.heap) hwc X' rfl hS2 (Nat.le_refl _) (by rw [← eT]; exact hg2) q2 q3 q4 C' r) q3 q1).by fun t q => stp.trans q
theorem w_virtualUp (W : Wk p l e R s m args below meth c Z EL own ws nw T h cells slots) (hx : p.tables.exec = Jvm.exec) {index : Nat} {y z : MethodName} {C owner : String} {bytes : ByteArray} {maxL : Nat} {ret : Option FieldType} {rm : Room} {Q : Option Value → Heap → Prop} {wsc : List Addr} {a : Nat} (argsL : List Value)
    (w1 : (Cond.methodLink own index y).before a0 Z = true) (w7 : (Cond.sameMethod y.cls owner y.name y.desc).before a0 Z = true) (w2 : (Cond.declares ⟨owner, y.name, y.desc⟩).before a0 Z = true) (w3 : (Cond.selects C y z).before a0 Z = true) (w5 : (Cond.instanceMethod z).before a0 Z = true) (w6 : (Cond.initialized z.cls).before a0 Z = true) (w4 : (Cond.code z bytes maxL ret).before a0 Z = true) (hy : owner ≠ "java/lang/invoke/MethodHandle" ∧ owner ≠ "java/lang/invoke/VarHandle")
    (H : Con l Z EL z bytes maxL ret rm (.ref a :: argsL).toArray h wsc Q) (E : Exa Z h a C) (hwc : ∀ x ∈ wsc, x ∈ ws ++ nw) (hsz : Ls.size = c.maxLocals) (hlen : ∀ sig, parseMethodDescriptor y.desc = some sig → argsL.length = sig.parameters.length) {stk : List Value} (hstk : stk = argsL.reverse ++ .ref a :: st) (hd : decode c.code pc = .ok (.invokevirtual index, 3))
    (hf : rm.frames + 1 ≤ R.frames) (hl : (st.map fun v => v.category).sum + (maxL + 11) + rm.locals ≤ R.locals) (hc : cells + rm.cells ≤ R.cells) (hs : slots + rm.slots ≤ R.slots) (hp : pc + 3 = pc')
    (k : ∀ v T' h', Wk p l e R s m args below meth c Z EL own ws nw T' h' (cells + rm.cells) (slots + rm.slots) → Keep h h' wsc → Q v h' → Gets p.tables e below P T' (mkF m pc' Ls (v.toList ++ st))) : Gets p.tables e below P T (mkF m pc Ls stk) := by
  subst hp
  obtain ⟨vm0, k0, locs, b0, X, eT, r⟩ := W
  obtain ⟨hS, hk, hZ, hown, hE, hC, hF, hO, hK, n1, n2⟩ := id r
  have sf : ∀ x : Nat, x ∈ wsc → x < h.size ∧ Safe Z EL vm0 h x := fun x hx => by
    rcases List.mem_append.mp (hwc x hx) with q | q
    · exact (n1 x q).2
    · exact (n2 x q).2.2
  obtain ⟨cq, kq, qa, qb, qc⟩ := isOf (s := s.setVm vm0) hZ eT E
  obtain ⟨v, vm1, ⟨T', L', c', s'⟩, -, X', hS2, hg2, ⟨L, ⟨q1, q2, q3, q4⟩, l1, l2, l3, C'⟩, stp⟩ := X.virtualBackUpS hx (x := y) (y := z) hown (mv (s := s.setVm vm0) hZ w1) (mv (s := s.setVm vm0) hZ w7) (mv (s := s.setVm vm0) hZ w2) hy (mv (s := s.setVm vm0) hZ w3) (mv (s := s.setVm vm0) hZ w5) (backC (W := (st.map fun v => v.category).sum) H hZ w4 w6 hf hl hE hC.1 sf) qa qc (g := mkF m pc Ls stk) rfl hsz (Steps.refl _) (argsL := argsL) (rest := st) hlen hstk (by show 2 * 0 + _ ≤ _; omega) hd (fun _ _ => ⟨rfl, eT, hc, hs⟩)
  dsimp only [Pt.U, Pt.locs, Pt.cells, Pt.slots] at X' hS2 hg2 q1 q3 q4 l1 l2 l3 C' stp
  subst l1 l2 l3
  exact (k v T' _ (Wk.called (h' := T'.heap) hwc X' rfl hS2 (Nat.le_refl _) (by rw [← eT]; exact hg2) q2 q3 q4 C' r) q3 q1).by fun t q => stp.trans q
theorem nfS {y z : MethodName} {C : String} (w : (Cond.selects C y y).before a0 Z = true) {U : State} (hZ : Z.Warmed39 U.vm) : NotFace U y := notFace_of_selects (args := #[]) (mv hZ w)
theorem w_iface (W : Wk p l e R s m args below meth c Z EL own ws nw T h cells slots) (hx : p.tables.exec = Jvm.exec) {index count : Nat} {y z : MethodName} {C : String} {bytes : ByteArray} {maxL : Nat} {ret : Option FieldType} {rm : Room} {Q : Option Value → Heap → Prop} {wsc : List Addr} {a : Nat} (argsL : List Value)
    (w1 : (Cond.methodLink own index y).before a0 Z = true) (w2 : (Cond.declares y).before a0 Z = true) (w7 : (Cond.interfaceMethod y.cls y.cls y.name y.desc).before a0 Z = true) (w3 : (Cond.selects C y z).before a0 Z = true) (w5 : (Cond.instanceMethod z).before a0 Z = true) (w8 : (Cond.publicMethod z).before a0 Z = true) (w9 : (Cond.unhidden C y.name y.desc).before a0 Z = true) (w10 : (Cond.castable C y.cls).before a0 Z = true) (w6 : (Cond.initialized z.cls).before a0 Z = true) (w4 : (Cond.code z bytes maxL ret).before a0 Z = true) (hy : y.cls ≠ "java/lang/invoke/MethodHandle" ∧ y.cls ≠ "java/lang/invoke/VarHandle")
    (H : Con l Z EL z bytes maxL ret rm (.ref a :: argsL).toArray h wsc Q) (E : Exa Z h a C) (hwc : ∀ x ∈ wsc, x ∈ ws ++ nw) (hsz : Ls.size = c.maxLocals) (hlen : ∀ sig, parseMethodDescriptor y.desc = some sig → argsL.length = sig.parameters.length) {stk : List Value} (hstk : stk = argsL.reverse ++ .ref a :: st) (hd : decode c.code pc = .ok (.invokeinterface index count, 5))
    (hf : rm.frames + 1 ≤ R.frames) (hl : (st.map fun v => v.category).sum + (maxL + 11) + rm.locals ≤ R.locals) (hc : cells + rm.cells ≤ R.cells) (hs : slots + rm.slots ≤ R.slots) (hp : pc + 5 = pc')
    (k : ∀ v T' h', Wk p l e R s m args below meth c Z EL own ws nw T' h' (cells + rm.cells) (slots + rm.slots) → Keep h h' wsc → Q v h' → Gets p.tables e below P T' (mkF m pc' Ls (v.toList ++ st))) : Gets p.tables e below P T (mkF m pc Ls stk) := by
  subst hp
  obtain ⟨vm0, k0, locs, b0, X, eT, r⟩ := W
  obtain ⟨hS, hk, hZ, hown, hE, hC, hF, hO, hK, n1, n2⟩ := id r
  have sf : ∀ x : Nat, x ∈ wsc → x < h.size ∧ Safe Z EL vm0 h x := fun x hx => by
    rcases List.mem_append.mp (hwc x hx) with q | q
    · exact (n1 x q).2
    · exact (n2 x q).2.2
  obtain ⟨cq, kq, qa, qb, qc⟩ := isOf (s := s.setVm vm0) hZ eT E
  obtain ⟨v, vm1, ⟨T', L', c', s'⟩, -, X', hS2, hg2, ⟨L, ⟨q1, q2, q3, q4⟩, l1, l2, l3, C'⟩, stp⟩ := X.interfaceBackS hx (xi := y) (y := z) hown (mv (s := s.setVm vm0) hZ w1) (mv (s := s.setVm vm0) hZ w2) (mv (s := s.setVm vm0) hZ w7 (by simp [Cond.onTables, Cond.keepsFace, Cond.keeps, Cond.steady, Cond.faceAtom, hy.1, hy.2])) (mv (s := s.setVm vm0) hZ w3) (mv (s := s.setVm vm0) hZ w5) (mv (s := s.setVm vm0) hZ w8) (mv (s := s.setVm vm0) hZ w9) (mv (s := s.setVm vm0) hZ w10) hy (backC (W := (st.map fun v => v.category).sum) H hZ w4 w6 hf hl hE hC.1 sf) qa qb qc (g := mkF m pc Ls stk) rfl hsz (Steps.refl _) (argsL := argsL) (rest := st) hlen hstk (by show 2 * 0 + _ ≤ _; omega) hd (fun _ _ => ⟨rfl, eT, hc, hs⟩)
  dsimp only [Pt.U, Pt.locs, Pt.cells, Pt.slots] at X' hS2 hg2 q1 q3 q4 l1 l2 l3 C' stp
  subst l1 l2 l3
  exact (k v T' _ (Wk.called (h' := T'.heap) hwc X' rfl hS2 (Nat.le_refl _) (by rw [← eT]; exact hg2) q2 q3 q4 C' r) q3 q1).by fun t q => stp.trans q
/-! String constants -/
theorem w_ldcS (W : Wk p l e R s m args below meth c Z EL own ws nw T h cells slots) (hx : p.tables.exec = Jvm.exec) {index : Nat} {text : String} (w : (Cond.stringLink own index text).before a0 Z = true) (wS : ∀ a ∈ Bundle.stringAtoms, a.before a0 Z = true) (hmem : (own, index) ∈ EL) {vs : List Value} {z : Int32} (ht : (∀ c ∈ text.toList, c.toNat < 256) ∧ text.toList.map (fun c => Value.int (Jvm.Lit.byteI c.toNat.toUInt16)) = vs) (hz : ¬ z < 0) (hzl : z.toNatClampNeg = vs.length)
    (hd : decode c.code pc = .ok (.ldc index, 2)) (n : Nat) (hn : 4 * text.toList.length ≤ n) (hbig : n ≤ 536870912) (hc : cells + 2 ≤ R.cells) (hl : slots + (n + 4) ≤ R.slots) (hp : pc + 2 = pc')
    (k : ∀ (T' : State) (h' : Heap) (a b : Nat), Wk p l e R s m args below meth c Z EL own ws nw T' h' (cells + 2) (slots + (n + 4)) → Keep h h' [] → Exa Z h' a "java/lang/String" → Fld Z h' a "java/lang/String" "coder" "B" (.int 0) → Fld Z h' a "java/lang/String" "value" "[B" (.ref b) → Ary Z h' b .byte vs → (∀ x ∈ ws ++ nw, x ≠ a ∧ x ≠ b) → Gets p.tables e below P T' (mkF m pc' Ls (.ref a :: st))) : Gets p.tables e below P T (mkF m pc Ls st) := by
  subst hp
  obtain ⟨vm0, k0, locs, b0, X, eT, hS, hk, hZ, hown, hE, hC, hF, hO, hK, n1, n2⟩ := W
  obtain ⟨a, T', h', k1, b, cb, X', e', E, hS2, hk2, hZ2, hown2, A, F1, F2, V, la, lb, C', -, hne, stp⟩ := ldcCH X hx hZ hown w wS eT hS hk hE hmem hC.1 ht hz hzl (g := mkF m pc Ls st) rfl hd hn hbig hc hl
  have sz := E.1
  have N1 : ∀ x : Nat, x ∈ ws → Z.heap.size ≤ x ∧ x < h'.size ∧ Safe Z EL T'.vm h' x := fun x hx => by
    obtain ⟨q1, q2, q3⟩ := n1 x hx
    exact ⟨q1, by omega, C'.safe q2 q3⟩
  have N2 : ∀ x : Nat, x ∈ nw → s.heap.size ≤ x ∧ Z.heap.size ≤ x ∧ x < h'.size ∧ Safe Z EL T'.vm h' x := fun x hx => by
    obtain ⟨q1, q2, q3, q4⟩ := n2 x hx
    exact ⟨q1, q2, by omega, C'.safe q3 q4⟩
  refine (k T' h' a b ⟨T'.vm, k1, locs, b0, X', e', hS2, hk2, hZ2, hown2, hE, hC.trans C', hF, ⟨Nat.le_trans hO.1 E.1, fun x cc q => E.2 x cc (hO.2 x cc q)⟩, hK.ext E, N1, N2⟩ ((Keep.refl h []).ext E) A F1 F2 (Ary.of_arv V hzl) fun x hx => ?_).by stp
  rcases List.mem_append.mp hx with q | q
  · exact hne x (N1 x q).2.2
  · exact hne x (N2 x q).2.2.2
theorem w_ldcO (W : Wk p l e R s m args below meth c Z EL own ws nw T h cells slots) (hx : p.tables.exec = Jvm.exec) {index : Nat} {text : String} (w : (Cond.stringLink own index text).before a0 Z = true) (wS : ∀ a ∈ Bundle.stringAtoms, a.before a0 Z = true)
    (hd : decode c.code pc = .ok (.ldc index, 2)) (n : Nat) (hn : 4 * text.toList.length ≤ n) (hbig : n ≤ 536870912) (hc : cells + 2 ≤ R.cells) (hl : slots + (n + 4) ≤ R.slots) (hp : pc + 2 = pc')
    (k : ∀ (T' : State) (h' : Heap) (a : Nat), Wk p l e R s m args below meth c Z EL own ws nw T' h' (cells + 2) (slots + (n + 4)) → Keep h h' [] → Gets p.tables e below P T' (mkF m pc' Ls (.ref a :: st))) : Gets p.tables e below P T (mkF m pc Ls st) := by
  subst hp
  obtain ⟨vm0, k0, locs, b0, X, eT, hS, hk, hZ, hown, hE, hC, hF, hO, hK, n1, n2⟩ := W
  obtain ⟨a, T', h', k1, X', e', E, hS2, hk2, hZ2, hown2, C', -, stp⟩ := ldcOH X hx hZ hown w wS eT hS hk hE hC.1 (g := mkF m pc Ls st) rfl hd hn hbig hc hl
  have sz := E.1
  refine (k T' h' a ⟨T'.vm, k1, locs, b0, X', e', hS2, hk2, hZ2, hown2, hE, hC.trans C', hF, ⟨Nat.le_trans hO.1 E.1, fun x cc q => E.2 x cc (hO.2 x cc q)⟩, hK.ext E, fun x hx => ?_, fun x hx => ?_⟩ ((Keep.refl h []).ext E)).by stp
  · obtain ⟨q1, q2, q3⟩ := n1 x hx
    exact ⟨q1, by omega, C'.safe q2 q3⟩
  · obtain ⟨q1, q2, q3, q4⟩ := n2 x hx
    exact ⟨q1, q2, by omega, C'.safe q3 q4⟩
end OwnWalk
section OwnPure
variable {p : Program} {l : Launch} {e : Env} {R : Room} {s : State} {m : MethodId} {args : Array Value} {below : List Frame} {meth : Method} {c : Code} {T : State} {Z : State} {a0 : Array Value} {h : Heap} {EL : List (String × Nat)} {own : String} {cells slots : Nat} {ws nw : List Addr} {P : Outcome → State → Prop} {pc pc' : Nat} {Ls : Array Slot} {st : List Value}
/-- it returns r and leaves the heap as it was -/
def pureQ (r : Option Value) (h : Heap) : Option Value → Heap → Prop := fun v h' => v = r ∧ h' = h
theorem w_callSp (W : Wk p l e R s m args below meth c Z EL own ws nw T h cells slots) (hx : p.tables.exec = Jvm.exec) {index : Nat} {y : MethodName} {bytes : ByteArray} {maxL : Nat} {ret : Option FieldType} {rm : Room} {r : Option Value} (argsL : List Value)
    (w1 : (Cond.methodLink own index y).before a0 Z = true) (w2 : (Cond.static y).before a0 Z = true) (w3 : (Cond.initialized y.cls).before a0 Z = true) (w4 : (Cond.code y bytes maxL ret).before a0 Z = true) (hy : y.cls ≠ "java/lang/invoke/MethodHandle" ∧ y.cls ≠ "java/lang/invoke/VarHandle")
    (H : Con l Z EL y bytes maxL ret rm argsL.toArray h [] (pureQ r h)) (hsz : Ls.size = c.maxLocals) (hlen : ∀ sig, parseMethodDescriptor y.desc = some sig → argsL.length = sig.parameters.length) {stk : List Value} (hstk : stk = argsL.reverse ++ st) (hd : decode c.code pc = .ok (.invokestatic index, 3))
    (hf : rm.frames + 1 ≤ R.frames) (hl : (st.map fun v => v.category).sum + (maxL + 11) + rm.locals ≤ R.locals) (hc : rm.cells = 0) (hs : rm.slots = 0) (hc' : cells ≤ R.cells) (hs' : slots ≤ R.slots) (hp : pc + 3 = pc')
    (k : ∀ T', Wk p l e R s m args below meth c Z EL own ws nw T' h cells slots → Gets p.tables e below P T' (mkF m pc' Ls (r.toList ++ st))) : Gets p.tables e below P T (mkF m pc Ls stk) :=
  w_callS W hx argsL w1 w2 w3 w4 hy H all0 hsz hlen hstk hd hf hl (by rw [hc]; exact hc') (by rw [hs]; exact hs') hp fun v T' h' W' K q => by
    obtain ⟨e1, e2⟩ := q
    subst e1; rw [e2] at W'; rw [hc, hs] at W'; exact k T' W'
theorem w_virtualp (W : Wk p l e R s m args below meth c Z EL own ws nw T h cells slots) (hx : p.tables.exec = Jvm.exec) {index : Nat} {y z : MethodName} {C : String} {bytes : ByteArray} {maxL : Nat} {ret : Option FieldType} {rm : Room} {r : Option Value} {a : Nat} (argsL : List Value)
    (w1 : (Cond.methodLink own index y).before a0 Z = true) (w2 : (Cond.declares y).before a0 Z = true) (hnf : ∀ {U : State}, Z.Warmed39 U.vm → NotFace U y) (w3 : (Cond.selects C y z).before a0 Z = true) (w5 : (Cond.instanceMethod z).before a0 Z = true) (w6 : (Cond.initialized z.cls).before a0 Z = true) (w4 : (Cond.code z bytes maxL ret).before a0 Z = true) (hy : y.cls ≠ "java/lang/invoke/MethodHandle" ∧ y.cls ≠ "java/lang/invoke/VarHandle")
    (H : Con l Z EL z bytes maxL ret rm (.ref a :: argsL).toArray h [] (pureQ r h)) (E : Exa Z h a C) (hsz : Ls.size = c.maxLocals) (hlen : ∀ sig, parseMethodDescriptor y.desc = some sig → argsL.length = sig.parameters.length) {stk : List Value} (hstk : stk = argsL.reverse ++ .ref a :: st) (hd : decode c.code pc = .ok (.invokevirtual index, 3))
    (hf : rm.frames + 1 ≤ R.frames) (hl : (st.map fun v => v.category).sum + (maxL + 11) + rm.locals ≤ R.locals) (hc : rm.cells = 0) (hs : rm.slots = 0) (hc' : cells ≤ R.cells) (hs' : slots ≤ R.slots) (hp : pc + 3 = pc')
    (k : ∀ T', Wk p l e R s m args below meth c Z EL own ws nw T' h cells slots → Gets p.tables e below P T' (mkF m pc' Ls (r.toList ++ st))) : Gets p.tables e below P T (mkF m pc Ls stk) :=
  w_virtual W hx argsL w1 w2 hnf w3 w5 w6 w4 hy H E all0 hsz hlen hstk hd hf hl (by rw [hc]; exact hc') (by rw [hs]; exact hs') hp fun v T' h' W' K q => by
    obtain ⟨e1, e2⟩ := q
    subst e1; rw [e2] at W'; rw [hc, hs] at W'; exact k T' W'
theorem w_virtualUpp (W : Wk p l e R s m args below meth c Z EL own ws nw T h cells slots) (hx : p.tables.exec = Jvm.exec) {index : Nat} {y z : MethodName} {C owner : String} {bytes : ByteArray} {maxL : Nat} {ret : Option FieldType} {rm : Room} {r : Option Value} {a : Nat} (argsL : List Value)
    (w1 : (Cond.methodLink own index y).before a0 Z = true) (w7 : (Cond.sameMethod y.cls owner y.name y.desc).before a0 Z = true) (w2 : (Cond.declares ⟨owner, y.name, y.desc⟩).before a0 Z = true) (w3 : (Cond.selects C y z).before a0 Z = true) (w5 : (Cond.instanceMethod z).before a0 Z = true) (w6 : (Cond.initialized z.cls).before a0 Z = true) (w4 : (Cond.code z bytes maxL ret).before a0 Z = true) (hy : owner ≠ "java/lang/invoke/MethodHandle" ∧ owner ≠ "java/lang/invoke/VarHandle")
    (H : Con l Z EL z bytes maxL ret rm (.ref a :: argsL).toArray h [] (pureQ r h)) (E : Exa Z h a C) (hsz : Ls.size = c.maxLocals) (hlen : ∀ sig, parseMethodDescriptor y.desc = some sig → argsL.length = sig.parameters.length) {stk : List Value} (hstk : stk = argsL.reverse ++ .ref a :: st) (hd : decode c.code pc = .ok (.invokevirtual index, 3))
    (hf : rm.frames + 1 ≤ R.frames) (hl : (st.map fun v => v.category).sum + (maxL + 11) + rm.locals ≤ R.locals) (hc : rm.cells = 0) (hs : rm.slots = 0) (hc' : cells ≤ R.cells) (hs' : slots ≤ R.slots) (hp : pc + 3 = pc')
    (k : ∀ T', Wk p l e R s m args below meth c Z EL own ws nw T' h cells slots → Gets p.tables e below P T' (mkF m pc' Ls (r.toList ++ st))) : Gets p.tables e below P T (mkF m pc Ls stk) :=
  w_virtualUp W hx argsL w1 w7 w2 w3 w5 w6 w4 hy H E all0 hsz hlen hstk hd hf hl (by rw [hc]; exact hc') (by rw [hs]; exact hs') hp fun v T' h' W' K q => by
    obtain ⟨e1, e2⟩ := q
    subst e1; rw [e2] at W'; rw [hc, hs] at W'; exact k T' W'
theorem w_ifacep (W : Wk p l e R s m args below meth c Z EL own ws nw T h cells slots) (hx : p.tables.exec = Jvm.exec) {index count : Nat} {y z : MethodName} {C : String} {bytes : ByteArray} {maxL : Nat} {ret : Option FieldType} {rm : Room} {r : Option Value} {a : Nat} (argsL : List Value)
    (w1 : (Cond.methodLink own index y).before a0 Z = true) (w2 : (Cond.declares y).before a0 Z = true) (w7 : (Cond.interfaceMethod y.cls y.cls y.name y.desc).before a0 Z = true) (w3 : (Cond.selects C y z).before a0 Z = true) (w5 : (Cond.instanceMethod z).before a0 Z = true) (w8 : (Cond.publicMethod z).before a0 Z = true) (w9 : (Cond.unhidden C y.name y.desc).before a0 Z = true) (w10 : (Cond.castable C y.cls).before a0 Z = true) (w6 : (Cond.initialized z.cls).before a0 Z = true) (w4 : (Cond.code z bytes maxL ret).before a0 Z = true) (hy : y.cls ≠ "java/lang/invoke/MethodHandle" ∧ y.cls ≠ "java/lang/invoke/VarHandle")
    (H : Con l Z EL z bytes maxL ret rm (.ref a :: argsL).toArray h [] (pureQ r h)) (E : Exa Z h a C) (hsz : Ls.size = c.maxLocals) (hlen : ∀ sig, parseMethodDescriptor y.desc = some sig → argsL.length = sig.parameters.length) {stk : List Value} (hstk : stk = argsL.reverse ++ .ref a :: st) (hd : decode c.code pc = .ok (.invokeinterface index count, 5))
    (hf : rm.frames + 1 ≤ R.frames) (hl : (st.map fun v => v.category).sum + (maxL + 11) + rm.locals ≤ R.locals) (hc : rm.cells = 0) (hs : rm.slots = 0) (hc' : cells ≤ R.cells) (hs' : slots ≤ R.slots) (hp : pc + 5 = pc')
    (k : ∀ T', Wk p l e R s m args below meth c Z EL own ws nw T' h cells slots → Gets p.tables e below P T' (mkF m pc' Ls (r.toList ++ st))) : Gets p.tables e below P T (mkF m pc Ls stk) :=
  w_iface W hx argsL w1 w2 w7 w3 w5 w8 w9 w10 w6 w4 hy H E all0 hsz hlen hstk hd hf hl (by rw [hc]; exact hc') (by rw [hs]; exact hs') hp fun v T' h' W' K q => by
    obtain ⟨e1, e2⟩ := q
    subst e1; rw [e2] at W'; rw [hc, hs] at W'; exact k T' W'
theorem g_name {tb : Tables} {v w : Value} (q : w = v) (k : Gets tb e below P T (mkF m pc Ls (w :: st))) : Gets tb e below P T (mkF m pc Ls (v :: st)) := q ▸ k
end OwnPure
theorem w_0 : tables_1[0]? = some (Jvm.Cond.arrayClass Jvm.ClassFile.FieldType.char) := rfl
theorem w_1 : tables_1[1]? = some (Jvm.Cond.methodLink "com/example/grapple/grapple/internal/LimitsCheckPresentPinLaw" (12 : Nat) ({ cls := "java/lang/Integer", name := "valueOf", desc := "(I)Ljava/lang/Integer;" } : Jvm.MethodName)) := rfl
theorem w_2 : tables_1[2]? = some (Jvm.Cond.static ({ cls := "java/lang/Integer", name := "valueOf", desc := "(I)Ljava/lang/Integer;" } : Jvm.MethodName)) := rfl
theorem w_3 : tables_1[3]? = some (Jvm.Cond.initialized "java/lang/Integer") := rfl
theorem w_4 : tables_1[4]? = some (Jvm.Cond.code ({ cls := "java/lang/Integer", name := "valueOf", desc := "(I)Ljava/lang/Integer;" } : Jvm.MethodName) jdk_33_method_22_code (1 : Nat) (Option.some (Jvm.ClassFile.FieldType.object "java/lang/Integer"))) := rfl
theorem w_5 : tables_1[5]? = some (Jvm.Cond.fieldLink "java/lang/Integer" (191 : Nat) "java/lang/Integer$IntegerCache" "high" "I") := rfl
theorem w_6 : tables_1[6]? = some (Jvm.Cond.initialized "java/lang/Integer$IntegerCache") := rfl
theorem w_7 : tables_1[7]? = some (Jvm.Cond.fieldLink "java/lang/Integer" (195 : Nat) "java/lang/Integer$IntegerCache" "cache" "[Ljava/lang/Integer;") := rfl
theorem w_8 : tables_1[8]? = some (Jvm.Cond.methodLink "com/example/grapple/grapple/internal/LimitsCheckPresentPinLaw" (18 : Nat) ({ cls := "com/example/grapple/grapple/internal/Limits", name := "checkPresent", desc := "(Ljava/lang/Object;Ljava/lang/String;)Ljava/lang/Object;" } : Jvm.MethodName)) := rfl
theorem w_9 : tables_1[9]? = some (Jvm.Cond.static ({ cls := "com/example/grapple/grapple/internal/Limits", name := "checkPresent", desc := "(Ljava/lang/Object;Ljava/lang/String;)Ljava/lang/Object;" } : Jvm.MethodName)) := rfl
theorem w_10 : tables_1[10]? = some (Jvm.Cond.initialized "com/example/grapple/grapple/internal/Limits") := rfl
theorem w_11 : tables_1[11]? = some (Jvm.Cond.code ({ cls := "com/example/grapple/grapple/internal/Limits", name := "checkPresent", desc := "(Ljava/lang/Object;Ljava/lang/String;)Ljava/lang/Object;" } : Jvm.MethodName) prog_3_method_2_code (2 : Nat) (Option.some (Jvm.ClassFile.FieldType.object "java/lang/Object"))) := rfl
theorem w_12 : tables_1[12]? = some (Jvm.Cond.classLink "com/example/grapple/grapple/internal/LimitsCheckPresentPinLaw" (7 : Nat) "java/lang/String") := rfl
theorem w_13 : tables_1[13]? = some (Jvm.Cond.instantiable "java/lang/String" (4 : Nat)) := rfl
theorem w_14 : tables_1[14]? = some (Jvm.Cond.initialized "java/lang/String") := rfl
theorem w_15 : tables_1[15]? = some (Jvm.Cond.methodLink "com/example/grapple/grapple/internal/LimitsCheckPresentPinLaw" (9 : Nat) ({ cls := "java/lang/String", name := "<init>", desc := "([C)V" } : Jvm.MethodName)) := rfl
theorem w_16 : tables_1[16]? = some (Jvm.Cond.instanceMethod ({ cls := "java/lang/String", name := "<init>", desc := "([C)V" } : Jvm.MethodName)) := rfl
theorem w_17 : tables_1[17]? = some (Jvm.Cond.code ({ cls := "java/lang/String", name := "<init>", desc := "([C)V" } : Jvm.MethodName) jdk_42_method_3_code (2 : Nat) (Option.none : Option Jvm.ClassFile.FieldType)) := rfl
theorem w_18 : tables_1[18]? = some (Jvm.Cond.methodLink "java/lang/String" (27 : Nat) ({ cls := "java/lang/String", name := "<init>", desc := "([CIILjava/lang/Void;)V" } : Jvm.MethodName)) := rfl
theorem w_19 : tables_1[19]? = some (Jvm.Cond.instanceMethod ({ cls := "java/lang/String", name := "<init>", desc := "([CIILjava/lang/Void;)V" } : Jvm.MethodName)) := rfl
theorem w_21 : tables_1[21]? = some (Jvm.Cond.code ({ cls := "java/lang/String", name := "<init>", desc := "([CIILjava/lang/Void;)V" } : Jvm.MethodName) jdk_42_method_149_code (6 : Nat) (Option.none : Option Jvm.ClassFile.FieldType)) := rfl
theorem w_22 : tables_1[22]? = some (Jvm.Cond.methodLink "java/lang/String" (1 : Nat) ({ cls := "java/lang/Object", name := "<init>", desc := "()V" } : Jvm.MethodName)) := rfl
theorem w_23 : tables_1[23]? = some (Jvm.Cond.instanceMethod ({ cls := "java/lang/Object", name := "<init>", desc := "()V" } : Jvm.MethodName)) := rfl
theorem w_24 : tables_1[24]? = some (Jvm.Cond.code ({ cls := "java/lang/Object", name := "<init>", desc := "()V" } : Jvm.MethodName) object_method_1_code (1 : Nat) (Option.none : Option Jvm.ClassFile.FieldType)) := rfl
theorem w_25 : tables_1[25]? = some (Jvm.Cond.stringLink "java/lang/String" (7 : Nat) "") := rfl
theorem w_26 : tables_1[26]? = some (Jvm.Cond.arrayClass Jvm.ClassFile.FieldType.byte) := rfl
theorem w_27 : tables_1[27]? = some (Jvm.Cond.laysFinal "java/lang/String" "java/lang/String" "value" "[B") := rfl
theorem w_28 : tables_1[28]? = some (Jvm.Cond.laysFinal "java/lang/String" "java/lang/String" "coder" "B") := rfl
theorem w_29 : tables_1[29]? = some (Jvm.Cond.soleField "java/lang/String" "value") := rfl
theorem w_30 : tables_1[30]? = some (Jvm.Cond.soleField "java/lang/String" "coder") := rfl
theorem w_31 : tables_1[31]? = some (Jvm.Cond.fieldLink "java/lang/String" (9 : Nat) "java/lang/String" "value" "[B") := rfl
theorem w_32 : tables_1[32]? = some (Jvm.Cond.fieldLink "java/lang/String" (15 : Nat) "java/lang/String" "coder" "B") := rfl
theorem w_33 : tables_1[33]? = some (Jvm.Cond.fieldLink "java/lang/String" (38 : Nat) "java/lang/String" "COMPACT_STRINGS" "Z") := rfl
theorem w_34 : tables_1[34]? = some (Jvm.Cond.methodLink "java/lang/String" (177 : Nat) ({ cls := "java/lang/StringUTF16", name := "compress", desc := "([CII)[B" } : Jvm.MethodName)) := rfl
theorem w_35 : tables_1[35]? = some (Jvm.Cond.static ({ cls := "java/lang/StringUTF16", name := "compress", desc := "([CII)[B" } : Jvm.MethodName)) := rfl
theorem w_36 : tables_1[36]? = some (Jvm.Cond.initialized "java/lang/StringUTF16") := rfl
theorem w_37 : tables_1[37]? = some (Jvm.Cond.code ({ cls := "java/lang/StringUTF16", name := "compress", desc := "([CII)[B" } : Jvm.MethodName) jdk_52_method_16_code (6 : Nat) (Option.some (Jvm.ClassFile.FieldType.array Jvm.ClassFile.FieldType.byte))) := rfl
theorem w_38 : tables_1[38]? = some (Jvm.Cond.methodLink "java/lang/StringUTF16" (115 : Nat) ({ cls := "java/lang/StringUTF16", name := "compress", desc := "([CI[BII)I" } : Jvm.MethodName)) := rfl
theorem w_39 : tables_1[39]? = some (Jvm.Cond.static ({ cls := "java/lang/StringUTF16", name := "compress", desc := "([CI[BII)I" } : Jvm.MethodName)) := rfl
theorem w_40 : tables_1[40]? = some (Jvm.Cond.code ({ cls := "java/lang/StringUTF16", name := "compress", desc := "([CI[BII)I" } : Jvm.MethodName) jdk_52_method_21_code (7 : Nat) (Option.some Jvm.ClassFile.FieldType.int)) := rfl
theorem w_41 : tables_1[41]? = some (Jvm.Cond.methodLink "java/lang/String" (47 : Nat) ({ cls := "java/lang/StringUTF16", name := "coderFromArrayLen", desc := "([BI)B" } : Jvm.MethodName)) := rfl
theorem w_42 : tables_1[42]? = some (Jvm.Cond.static ({ cls := "java/lang/StringUTF16", name := "coderFromArrayLen", desc := "([BI)B" } : Jvm.MethodName)) := rfl
theorem w_43 : tables_1[43]? = some (Jvm.Cond.code ({ cls := "java/lang/StringUTF16", name := "coderFromArrayLen", desc := "([BI)B" } : Jvm.MethodName) jdk_52_method_15_code (2 : Nat) (Option.some Jvm.ClassFile.FieldType.byte)) := rfl
theorem w_44 : tables_1[44]? = some (Jvm.Cond.arrayClass Jvm.ClassFile.FieldType.int) := rfl
theorem w_45 : tables_1[45]? = some (Jvm.Cond.classLink "java/lang/Integer" (1 : Nat) "java/lang/Integer") := rfl
theorem w_46 : tables_1[46]? = some (Jvm.Cond.instantiable "java/lang/Integer" (1 : Nat)) := rfl
theorem w_47 : tables_1[47]? = some (Jvm.Cond.methodLink "java/lang/Integer" (199 : Nat) ({ cls := "java/lang/Integer", name := "<init>", desc := "(I)V" } : Jvm.MethodName)) := rfl
theorem w_48 : tables_1[48]? = some (Jvm.Cond.instanceMethod ({ cls := "java/lang/Integer", name := "<init>", desc := "(I)V" } : Jvm.MethodName)) := rfl
theorem w_50 : tables_1[50]? = some (Jvm.Cond.code ({ cls := "java/lang/Integer", name := "<init>", desc := "(I)V" } : Jvm.MethodName) jdk_33_method_23_code (2 : Nat) (Option.none : Option Jvm.ClassFile.FieldType)) := rfl
theorem w_51 : tables_1[51]? = some (Jvm.Cond.methodLink "java/lang/Integer" (202 : Nat) ({ cls := "java/lang/Number", name := "<init>", desc := "()V" } : Jvm.MethodName)) := rfl
theorem w_52 : tables_1[52]? = some (Jvm.Cond.instanceMethod ({ cls := "java/lang/Number", name := "<init>", desc := "()V" } : Jvm.MethodName)) := rfl
theorem w_55 : tables_1[55]? = some (Jvm.Cond.initialized "java/lang/Number") := rfl
theorem w_56 : tables_1[56]? = some (Jvm.Cond.code ({ cls := "java/lang/Number", name := "<init>", desc := "()V" } : Jvm.MethodName) jdk_18_method_1_code (1 : Nat) (Option.none : Option Jvm.ClassFile.FieldType)) := rfl
theorem w_57 : tables_1[57]? = some (Jvm.Cond.methodLink "java/lang/Number" (1 : Nat) ({ cls := "java/lang/Object", name := "<init>", desc := "()V" } : Jvm.MethodName)) := rfl
theorem w_58 : tables_1[58]? = some (Jvm.Cond.fieldLink "java/lang/Integer" (205 : Nat) "java/lang/Integer" "value" "I") := rfl
theorem w_59 : tables_1[59]? = some (Jvm.Cond.laysFinal "java/lang/Integer" "java/lang/Integer" "value" "I") := rfl
theorem d_jdk_18_1_0 : decode jdk_18_method_1_code 0 = .ok (.aload_n 0, 1) := by decide +kernel
theorem d_jdk_18_1_1 : decode jdk_18_method_1_code 1 = .ok (.invokespecial 1, 3) := by decide +kernel
theorem d_jdk_18_1_4 : decode jdk_18_method_1_code 4 = .ok (.return_, 1) := by decide +kernel
theorem d_jdk_33_22_0 : decode jdk_33_method_22_code 0 = .ok (.iload_n 0, 1) := by decide +kernel
theorem d_jdk_33_22_1 : decode jdk_33_method_22_code 1 = .ok (.bipush (-128), 2) := by decide +kernel
theorem d_jdk_33_22_3 : decode jdk_33_method_22_code 3 = .ok (.if_icmp .lt 20, 3) := by decide +kernel
theorem d_jdk_33_22_6 : decode jdk_33_method_22_code 6 = .ok (.iload_n 0, 1) := by decide +kernel
theorem d_jdk_33_22_7 : decode jdk_33_method_22_code 7 = .ok (.getstatic 191, 3) := by decide +kernel
theorem d_jdk_33_22_10 : decode jdk_33_method_22_code 10 = .ok (.if_icmp .gt 13, 3) := by decide +kernel
theorem d_jdk_33_22_13 : decode jdk_33_method_22_code 13 = .ok (.getstatic 195, 3) := by decide +kernel
theorem d_jdk_33_22_16 : decode jdk_33_method_22_code 16 = .ok (.iload_n 0, 1) := by decide +kernel
theorem d_jdk_33_22_17 : decode jdk_33_method_22_code 17 = .ok (.sipush 128, 3) := by decide +kernel
theorem d_jdk_33_22_20 : decode jdk_33_method_22_code 20 = .ok (.iadd, 1) := by decide +kernel
theorem d_jdk_33_22_21 : decode jdk_33_method_22_code 21 = .ok (.aaload, 1) := by decide +kernel
theorem d_jdk_33_22_22 : decode jdk_33_method_22_code 22 = .ok (.areturn, 1) := by decide +kernel
theorem d_jdk_33_22_23 : decode jdk_33_method_22_code 23 = .ok (.new 1, 3) := by decide +kernel
theorem d_jdk_33_22_26 : decode jdk_33_method_22_code 26 = .ok (.dup, 1) := by decide +kernel
theorem d_jdk_33_22_27 : decode jdk_33_method_22_code 27 = .ok (.iload_n 0, 1) := by decide +kernel
theorem d_jdk_33_22_28 : decode jdk_33_method_22_code 28 = .ok (.invokespecial 199, 3) := by decide +kernel
theorem d_jdk_33_22_31 : decode jdk_33_method_22_code 31 = .ok (.areturn, 1) := by decide +kernel
theorem d_jdk_33_23_0 : decode jdk_33_method_23_code 0 = .ok (.aload_n 0, 1) := by decide +kernel
theorem d_jdk_33_23_1 : decode jdk_33_method_23_code 1 = .ok (.invokespecial 202, 3) := by decide +kernel
theorem d_jdk_33_23_4 : decode jdk_33_method_23_code 4 = .ok (.aload_n 0, 1) := by decide +kernel
theorem d_jdk_33_23_5 : decode jdk_33_method_23_code 5 = .ok (.iload_n 1, 1) := by decide +kernel
theorem d_jdk_33_23_6 : decode jdk_33_method_23_code 6 = .ok (.putfield 205, 3) := by decide +kernel
theorem d_jdk_33_23_9 : decode jdk_33_method_23_code 9 = .ok (.return_, 1) := by decide +kernel
theorem d_jdk_42_149_0 : decode jdk_42_method_149_code 0 = .ok (.aload_n 0, 1) := by decide +kernel
theorem d_jdk_42_149_1 : decode jdk_42_method_149_code 1 = .ok (.invokespecial 1, 3) := by decide +kernel
theorem d_jdk_42_149_4 : decode jdk_42_method_149_code 4 = .ok (.iload_n 3, 1) := by decide +kernel
theorem d_jdk_42_149_5 : decode jdk_42_method_149_code 5 = .ok (.ifCond .ne 22, 3) := by decide +kernel
theorem d_jdk_42_149_8 : decode jdk_42_method_149_code 8 = .ok (.aload_n 0, 1) := by decide +kernel
theorem d_jdk_42_149_9 : decode jdk_42_method_149_code 9 = .ok (.ldc 7, 2) := by decide +kernel
theorem d_jdk_42_149_11 : decode jdk_42_method_149_code 11 = .ok (.getfield 9, 3) := by decide +kernel
theorem d_jdk_42_149_14 : decode jdk_42_method_149_code 14 = .ok (.putfield 9, 3) := by decide +kernel
theorem d_jdk_42_149_17 : decode jdk_42_method_149_code 17 = .ok (.aload_n 0, 1) := by decide +kernel
theorem d_jdk_42_149_18 : decode jdk_42_method_149_code 18 = .ok (.ldc 7, 2) := by decide +kernel
theorem d_jdk_42_149_20 : decode jdk_42_method_149_code 20 = .ok (.getfield 15, 3) := by decide +kernel
theorem d_jdk_42_149_23 : decode jdk_42_method_149_code 23 = .ok (.putfield 15, 3) := by decide +kernel
theorem d_jdk_42_149_26 : decode jdk_42_method_149_code 26 = .ok (.return_, 1) := by decide +kernel
theorem d_jdk_42_149_27 : decode jdk_42_method_149_code 27 = .ok (.getstatic 38, 3) := by decide +kernel
theorem d_jdk_42_149_30 : decode jdk_42_method_149_code 30 = .ok (.ifCond .eq 28, 3) := by decide +kernel
theorem d_jdk_42_149_33 : decode jdk_42_method_149_code 33 = .ok (.aload_n 1, 1) := by decide +kernel
theorem d_jdk_42_149_34 : decode jdk_42_method_149_code 34 = .ok (.iload_n 2, 1) := by decide +kernel
theorem d_jdk_42_149_35 : decode jdk_42_method_149_code 35 = .ok (.iload_n 3, 1) := by decide +kernel
theorem d_jdk_42_149_36 : decode jdk_42_method_149_code 36 = .ok (.invokestatic 177, 3) := by decide +kernel
theorem d_jdk_42_149_39 : decode jdk_42_method_149_code 39 = .ok (.astore 5, 2) := by decide +kernel
theorem d_jdk_42_149_41 : decode jdk_42_method_149_code 41 = .ok (.aload_n 0, 1) := by decide +kernel
theorem d_jdk_42_149_42 : decode jdk_42_method_149_code 42 = .ok (.aload 5, 2) := by decide +kernel
theorem d_jdk_42_149_44 : decode jdk_42_method_149_code 44 = .ok (.iload_n 3, 1) := by decide +kernel
theorem d_jdk_42_149_45 : decode jdk_42_method_149_code 45 = .ok (.invokestatic 47, 3) := by decide +kernel
theorem d_jdk_42_149_48 : decode jdk_42_method_149_code 48 = .ok (.putfield 15, 3) := by decide +kernel
theorem d_jdk_42_149_51 : decode jdk_42_method_149_code 51 = .ok (.aload_n 0, 1) := by decide +kernel
theorem d_jdk_42_149_52 : decode jdk_42_method_149_code 52 = .ok (.aload 5, 2) := by decide +kernel
theorem d_jdk_42_149_54 : decode jdk_42_method_149_code 54 = .ok (.putfield 9, 3) := by decide +kernel
theorem d_jdk_42_149_57 : decode jdk_42_method_149_code 57 = .ok (.return_, 1) := by decide +kernel
theorem d_jdk_42_3_0 : decode jdk_42_method_3_code 0 = .ok (.aload_n 0, 1) := by decide +kernel
theorem d_jdk_42_3_1 : decode jdk_42_method_3_code 1 = .ok (.aload_n 1, 1) := by decide +kernel
theorem d_jdk_42_3_2 : decode jdk_42_method_3_code 2 = .ok (.iconst 0, 1) := by decide +kernel
theorem d_jdk_42_3_3 : decode jdk_42_method_3_code 3 = .ok (.aload_n 1, 1) := by decide +kernel
theorem d_jdk_42_3_4 : decode jdk_42_method_3_code 4 = .ok (.arraylength, 1) := by decide +kernel
theorem d_jdk_42_3_5 : decode jdk_42_method_3_code 5 = .ok (.aconst_null, 1) := by decide +kernel
theorem d_jdk_42_3_6 : decode jdk_42_method_3_code 6 = .ok (.invokespecial 27, 3) := by decide +kernel
theorem d_jdk_42_3_9 : decode jdk_42_method_3_code 9 = .ok (.return_, 1) := by decide +kernel
theorem d_jdk_52_15_0 : decode jdk_52_method_15_code 0 = .ok (.iload_n 1, 1) := by decide +kernel
theorem d_jdk_52_15_1 : decode jdk_52_method_15_code 1 = .ok (.aload_n 0, 1) := by decide +kernel
theorem d_jdk_52_15_2 : decode jdk_52_method_15_code 2 = .ok (.arraylength, 1) := by decide +kernel
theorem d_jdk_52_15_3 : decode jdk_52_method_15_code 3 = .ok (.isub, 1) := by decide +kernel
theorem d_jdk_52_15_4 : decode jdk_52_method_15_code 4 = .ok (.bipush 31, 2) := by decide +kernel
theorem d_jdk_52_15_6 : decode jdk_52_method_15_code 6 = .ok (.iushr, 1) := by decide +kernel
theorem d_jdk_52_15_7 : decode jdk_52_method_15_code 7 = .ok (.i2b, 1) := by decide +kernel
theorem d_jdk_52_15_8 : decode jdk_52_method_15_code 8 = .ok (.ireturn, 1) := by decide +kernel
theorem d_jdk_52_16_0 : decode jdk_52_method_16_code 0 = .ok (.iload_n 2, 1) := by decide +kernel
theorem d_jdk_52_16_1 : decode jdk_52_method_16_code 1 = .ok (.newarray .byte, 2) := by decide +kernel
theorem d_jdk_52_16_3 : decode jdk_52_method_16_code 3 = .ok (.astore_n 3, 1) := by decide +kernel
theorem d_jdk_52_16_4 : decode jdk_52_method_16_code 4 = .ok (.aload_n 0, 1) := by decide +kernel
theorem d_jdk_52_16_5 : decode jdk_52_method_16_code 5 = .ok (.iload_n 1, 1) := by decide +kernel
theorem d_jdk_52_16_6 : decode jdk_52_method_16_code 6 = .ok (.aload_n 3, 1) := by decide +kernel
theorem d_jdk_52_16_7 : decode jdk_52_method_16_code 7 = .ok (.iconst 0, 1) := by decide +kernel
theorem d_jdk_52_16_8 : decode jdk_52_method_16_code 8 = .ok (.iload_n 2, 1) := by decide +kernel
theorem d_jdk_52_16_9 : decode jdk_52_method_16_code 9 = .ok (.invokestatic 115, 3) := by decide +kernel
theorem d_jdk_52_16_12 : decode jdk_52_method_16_code 12 = .ok (.istore 4, 2) := by decide +kernel
theorem d_jdk_52_16_14 : decode jdk_52_method_16_code 14 = .ok (.iload 4, 2) := by decide +kernel
theorem d_jdk_52_16_16 : decode jdk_52_method_16_code 16 = .ok (.iload_n 2, 1) := by decide +kernel
theorem d_jdk_52_16_17 : decode jdk_52_method_16_code 17 = .ok (.if_icmp .eq 40, 3) := by decide +kernel
theorem d_jdk_52_16_57 : decode jdk_52_method_16_code 57 = .ok (.aload_n 3, 1) := by decide +kernel
theorem d_jdk_52_16_58 : decode jdk_52_method_16_code 58 = .ok (.areturn, 1) := by decide +kernel
theorem d_jdk_52_21_0 : decode jdk_52_method_21_code 0 = .ok (.iconst 0, 1) := by decide +kernel
theorem d_jdk_52_21_1 : decode jdk_52_method_21_code 1 = .ok (.istore 5, 2) := by decide +kernel
theorem d_jdk_52_21_3 : decode jdk_52_method_21_code 3 = .ok (.iload 5, 2) := by decide +kernel
theorem d_jdk_52_21_5 : decode jdk_52_method_21_code 5 = .ok (.iload 4, 2) := by decide +kernel
theorem d_jdk_52_21_7 : decode jdk_52_method_21_code 7 = .ok (.if_icmp .ge 37, 3) := by decide +kernel
theorem d_jdk_52_21_10 : decode jdk_52_method_21_code 10 = .ok (.aload_n 0, 1) := by decide +kernel
theorem d_jdk_52_21_11 : decode jdk_52_method_21_code 11 = .ok (.iload_n 1, 1) := by decide +kernel
theorem d_jdk_52_21_12 : decode jdk_52_method_21_code 12 = .ok (.caload, 1) := by decide +kernel
theorem d_jdk_52_21_13 : decode jdk_52_method_21_code 13 = .ok (.istore 6, 2) := by decide +kernel
theorem d_jdk_52_21_15 : decode jdk_52_method_21_code 15 = .ok (.iload 6, 2) := by decide +kernel
theorem d_jdk_52_21_17 : decode jdk_52_method_21_code 17 = .ok (.sipush 255, 3) := by decide +kernel
theorem d_jdk_52_21_20 : decode jdk_52_method_21_code 20 = .ok (.if_icmp .le 6, 3) := by decide +kernel
theorem d_jdk_52_21_26 : decode jdk_52_method_21_code 26 = .ok (.aload_n 2, 1) := by decide +kernel
theorem d_jdk_52_21_27 : decode jdk_52_method_21_code 27 = .ok (.iload_n 3, 1) := by decide +kernel
theorem d_jdk_52_21_28 : decode jdk_52_method_21_code 28 = .ok (.iload 6, 2) := by decide +kernel
theorem d_jdk_52_21_30 : decode jdk_52_method_21_code 30 = .ok (.i2b, 1) := by decide +kernel
theorem d_jdk_52_21_31 : decode jdk_52_method_21_code 31 = .ok (.bastore, 1) := by decide +kernel
theorem d_jdk_52_21_32 : decode jdk_52_method_21_code 32 = .ok (.iinc 1 1, 3) := by decide +kernel
theorem d_jdk_52_21_35 : decode jdk_52_method_21_code 35 = .ok (.iinc 3 1, 3) := by decide +kernel
theorem d_jdk_52_21_38 : decode jdk_52_method_21_code 38 = .ok (.iinc 5 1, 3) := by decide +kernel
theorem d_jdk_52_21_41 : decode jdk_52_method_21_code 41 = .ok (.goto (-38), 3) := by decide +kernel
theorem d_jdk_52_21_44 : decode jdk_52_method_21_code 44 = .ok (.iload 4, 2) := by decide +kernel
theorem d_jdk_52_21_46 : decode jdk_52_method_21_code 46 = .ok (.ireturn, 1) := by decide +kernel
theorem d_prog_3_2_0 : decode prog_3_method_2_code 0 = .ok (.aload_n 0, 1) := by decide +kernel
theorem d_prog_3_2_1 : decode prog_3_method_2_code 1 = .ok (.ifnonnull 17, 3) := by decide +kernel
theorem d_prog_3_2_18 : decode prog_3_method_2_code 18 = .ok (.aload_n 0, 1) := by decide +kernel
theorem d_prog_3_2_19 : decode prog_3_method_2_code 19 = .ok (.areturn, 1) := by decide +kernel
theorem pd_0 : parseMethodDescriptor "([CI[BII)I" = some ⟨[(.array .char), .int, (.array .byte), .int, .int], some .int⟩ := by decide +kernel
theorem pd_1 : parseMethodDescriptor "([CII)[B" = some ⟨[(.array .char), .int, .int], some (.array .byte)⟩ := by decide +kernel
theorem pd_2 : parseMethodDescriptor "([BI)B" = some ⟨[(.array .byte), .int], some .byte⟩ := by decide +kernel
theorem pd_3 : parseMethodDescriptor "([CIILjava/lang/Void;)V" = some ⟨[(.array .char), .int, .int, (.object "java/lang/Void")], none⟩ := by decide +kernel
theorem pd_4 : parseMethodDescriptor "()V" = some ⟨[], none⟩ := by decide +kernel
theorem pd_5 : parseMethodDescriptor "(I)V" = some ⟨[.int], none⟩ := by decide +kernel
theorem pd_6 : parseMethodDescriptor "([C)V" = some ⟨[(.array .char)], none⟩ := by decide +kernel
theorem pd_7 : parseMethodDescriptor "(Ljava/lang/Object;Ljava/lang/String;)Ljava/lang/Object;" = some ⟨[(.object "java/lang/Object"), (.object "java/lang/String")], some (.object "java/lang/Object")⟩ := by decide +kernel
theorem pd_8 : parseMethodDescriptor "(I)Ljava/lang/Integer;" = some ⟨[.int], some (.object "java/lang/Integer")⟩ := by decide +kernel
theorem pn_0 : plainName "java/lang/StringUTF16" = true := by first | (simp [plainName, overriddenIn]; done) | decide +kernel
theorem pn_1 : plainName "java/lang/String" = true := by first | (simp [plainName, overriddenIn]; done) | decide +kernel
theorem pn_2 : plainName "java/lang/Number" = true := by first | (simp [plainName, overriddenIn]; done) | decide +kernel
theorem pn_3 : plainName "java/lang/Integer" = true := by first | (simp [plainName, overriddenIn]; done) | decide +kernel
theorem pn_4 : plainName "com/example/grapple/grapple/internal/Limits" = true := by first | (simp [plainName, overriddenIn]; done) | decide +kernel
theorem pn_5 : plainName "com/example/grapple/grapple/internal/LimitsCheckPresentPinLaw" = true := by first | (simp [plainName, overriddenIn]; done) | decide +kernel
theorem own_all0 {P : Int32 → Prop} : ∀ c ∈ ([] : List Int32), P c := fun _ q => nomatch q
theorem own_allS {P : Int32 → Prop} {a : Int32} {L : List Int32} (q : P a) (r : ∀ c ∈ L, P c) : ∀ c ∈ a :: L, P c := fun x z => (List.mem_cons.mp z).elim (fun u => u ▸ q) (r x)
def latB (c : Int32) : Value := .int c.toInt8.toInt32
/-- the object at a is a Latin-1 String of the chars cs; its bytes lie at b -/
def SL (Z : State) (h : Heap) (a b : Nat) (cs : List Int32) : Prop := Exa Z h a "java/lang/String" ∧ Fld Z h a "java/lang/String" "coder" "B" (.int 0) ∧ Fld Z h a "java/lang/String" "value" "[B" (.ref b) ∧ Ary Z h b .byte (cs.map latB) ∧ ∀ c ∈ cs, 0 ≤ c.toInt ∧ c.toInt ≤ 255
theorem SL.keep {Z : State} {h h' : Heap} {a b : Addr} {cs : List Int32} {ws : List Addr} (S : SL Z h a b cs) (K : Keep h h' ws) (qa : a ∉ ws) (qb : b ∉ ws) : SL Z h' a b cs := by
  obtain ⟨E, F1, F2, V, q⟩ := S
  exact ⟨E.keep K, F1.keep K qa, F2.keep K qa, V.keep K qb, q⟩
theorem SL.lt {Z : State} {h : Heap} {a b : Addr} {cs : List Int32} (S : SL Z h a b cs) : a < h.size := S.1.lt
theorem SL.ltb {Z : State} {h : Heap} {a b : Addr} {cs : List Int32} (S : SL Z h a b cs) : b < h.size := S.2.2.2.1.lt
theorem own_b8 (c : Int32) : c.toInt8.toInt32.toInt8.toInt32 = c.toInt8.toInt32 := by simp
theorem own_toInt {n : Nat} (h : n < 2 ^ 31) : n.toInt32.toInt = n := len_toInt h
theorem own_ltn {i n : Nat} (h : i < n) (hn : n < 2 ^ 31) : i.toInt32 < n.toInt32 := by
  rw [Int32.lt_iff_toInt_lt, own_toInt (by omega), own_toInt hn]; omega
theorem own_nltn {i n : Nat} (h : n ≤ i) (hn : i < 2 ^ 31) : ¬ i.toInt32 < n.toInt32 := by
  rw [Int32.lt_iff_toInt_lt, own_toInt hn, own_toInt (by omega)]; omega
theorem own_nneg {n : Nat} (hn : n < 2 ^ 31) : ¬ n.toInt32 < 0 := by
  rw [Int32.lt_iff_toInt_lt, own_toInt hn]; simp
theorem own_succ (i : Nat) : i.toInt32 + Int32.ofInt 1 = (i + 1).toInt32 := by
  show Int32.ofNat i + Int32.ofInt 1 = Int32.ofNat (i + 1)
  rw [Int32.ofNat_add]; rfl
theorem own_fill {cs : List Int32} {bs : List Value} {i : Nat} {c : Int32} (hl : bs.length = cs.length) (hc : cs[i]? = some c) : ((cs.take i).map latB ++ bs.drop i).set i (latB c) = (cs.take (i + 1)).map latB ++ bs.drop (i + 1) := by
  have hi : i < cs.length := (List.getElem?_eq_some_iff.mp hc).1
  have e1 : ((cs.take i).map latB).length = i := by simp; omega
  have e2 : bs.drop i = bs[i] :: bs.drop (i + 1) := List.drop_eq_getElem_cons (by omega)
  have e3 : cs.take (i + 1) = cs.take i ++ [c] := by rw [List.take_add_one, hc]; rfl
  rw [List.set_append_right _ _ (by omega), e1, e2, e3, Nat.sub_self, List.set_cons_zero, List.map_append, List.append_assoc]
  rfl
theorem own_back (c : Int32) (h : 0 ≤ c.toInt ∧ c.toInt ≤ 255) : nar .char (c.toInt8.toInt32 &&& 255).toUInt32.toUInt16.toUInt32.toInt32 = c := by
  have e : ∀ n : Fin 256, nar .char ((Int32.ofNat n.1).toInt8.toInt32 &&& 255).toUInt32.toUInt16.toUInt32.toInt32 = Int32.ofNat n.1 := by decide +kernel
  have q : c = Int32.ofNat c.toInt.toNat := by
    apply Int32.toInt_inj.mp
    rw [show Int32.ofNat c.toInt.toNat = c.toInt.toNat.toInt32 from rfl, own_toInt (by omega)]; omega
  rw [q]
  exact e ⟨c.toInt.toNat, by omega⟩
theorem own_csub (n : Int32) : (((n - n).toUInt32 >>> ((31 : Int32) &&& 31).toUInt32).toInt32).toInt8.toInt32 = 0 := by
  rw [Int32.sub_self]; decide
theorem own_nchar {c : Int32} (h : 0 ≤ c.toInt ∧ c.toInt < 65536) : nar .char c = c := by
  have q := c_i2c c
  apply Int32.toInt_inj.mp
  show c.toUInt32.toUInt16.toUInt32.toInt32.toInt = c.toInt
  omega
/-- the JDK's statics that String's methods read -/
def SEnv (Z : State) (cc : Int32) (fm : Value) : Prop := Sta Z Z.heap "java/lang/String" "COMPACT_STRINGS" "Z" (.int cc) ∧ ¬ cc = 0 ∧ Sta Z Z.heap "jdk/internal/util/Preconditions" "SIOOBE_FORMATTER" "Ljava/util/function/BiFunction;" fm ∧ fm.isRef = true
set_option maxRecDepth 65536 in
set_option maxHeartbeats 40000000 in
theorem c_compr (l : Launch) (Z : State) (a0 : Array Value) (hw : ∀ d ∈ tables_1, d.before a0 Z = true) (hE : EW Z a0 consts_1) (ca ba : Nat) (cs : List Int32) (bs : List Value) (h0 : Heap) (O : Ext Z.heap h0) (hn : cs.length ≤ 2) (hch : ∀ c ∈ cs, 0 ≤ c.toInt ∧ c.toInt ≤ 255) (VA : Ary Z h0 ca .char (cs.map Value.int)) (VB : Ary Z h0 ba .byte bs) (hbl : bs.length = cs.length) (hne : ca ≠ ba) (hz : Z.heap.size ≤ ba) :
    Con l Z consts_1 (⟨"java/lang/StringUTF16", "compress", "([CI[BII)I"⟩ : MethodName) jdk_52_method_21_code 7 (Option.some Jvm.ClassFile.FieldType.int) ({ frames := 0, cells := 0, slots := 0, locals := 0 } : Room) #[(.ref ca), (.int (0 : Int32)), (.ref ba), (.int (0 : Int32)), (.int cs.length.toInt32)] h0 [ba] (fun v h => v = some (.int cs.length.toInt32) ∧ Ary Z h ba .byte (cs.map latB)) := by
  refine Con.of (a0 := a0) #[.val (.ref ca), .val (.int (0 : Int32)), .val (.ref ba), .val (.int (0 : Int32)), .val (.int cs.length.toInt32), .unset, .unset] (plainFor_of_name pn_0) hE O (allS ⟨hz, VB.lt⟩ all0) (fun m => by first | (simp [entryFrame, mkF, argsToLocals, Value.category]; done) | rfl) ?_
  intro p e s m below meth c T0 hx hby hml hnm hret hlk hh W0
  have hn31 : cs.length < 2 ^ 31 := by omega
  refine g_iconst (0 : Int32) (pc' := 1) W0.here hx (hb hby d_jdk_52_21_0) rfl rfl ?_
  refine g_istore (pc' := 3) (Ls' := #[.val (.ref ca), .val (.int (0 : Int32)), .val (.ref ba), .val (.int (0 : Int32)), .val (.int cs.length.toInt32), .val (.int (0 : Int32)), .unset]) W0.here hx (hb hby d_jdk_52_21_1) rfl rfl ?_
  have LOOP : ∀ (k i : Nat), i + k = cs.length → ∀ (TL : State) (hL : Heap) (o6 : Slot), One o6 → Wk p l e ({ frames := 0, cells := 0, slots := 0, locals := 0 } : Room) s m #[(.ref ca), (.int (0 : Int32)), (.ref ba), (.int (0 : Int32)), (.int cs.length.toInt32)] below meth c Z consts_1 "java/lang/StringUTF16" [ba] [] TL hL 0 0 → Keep h0 hL [ba] → Ary Z hL ba .byte ((cs.take i).map latB ++ bs.drop i) → Gets p.tables e below (Post s Z consts_1 ({ frames := 0, cells := 0, slots := 0, locals := 0 } : Room) h0 [ba] (fun v h => v = some (.int cs.length.toInt32) ∧ Ary Z h ba .byte (cs.map latB))) TL (mkF m 3 #[.val (.ref ca), .val (.int i.toInt32), .val (.ref ba), .val (.int i.toInt32), .val (.int cs.length.toInt32), .val (.int i.toInt32), o6] []) := by
    intro k
    induction k with
    | zero =>
      intro i hi TL hL o6 ho6 WL KL VBL
      have VAL := VA.keep KL (ninS hne nin0)
      refine g_iload (pc' := 5) WL.here hx (hb hby d_jdk_52_21_3) rfl rfl ?_
      refine g_iload (pc' := 7) WL.here hx (hb hby d_jdk_52_21_5) rfl rfl ?_
      refine g_icmpY (pc' := 44) WL.here hx (hb hby d_jdk_52_21_7) rfl (flt (show ¬ (i.toInt32 < cs.length.toInt32) from (own_nltn (by omega) (by omega)))).2.1 ?_
      refine g_iload (pc' := 46) WL.here hx (hb hby d_jdk_52_21_44) rfl rfl ?_
      refine w_retI WL hx hh hlk hret (hb hby d_jdk_52_21_46) (Nat.le_of_ble_eq_true rfl) (Nat.le_of_ble_eq_true rfl) ?_
      have e1 : i = cs.length := by omega
      subst e1
      rw [List.take_length, List.drop_eq_nil_of_le (by omega), List.append_nil] at VBL
      exact ⟨rfl, VBL⟩
    | succ k ih =>
      intro i hi TL hL o6 ho6 WL KL VBL
      have VAL := VA.keep KL (ninS hne nin0)
      have hi2 : i < cs.length := by omega
      obtain ⟨ci, hci⟩ : ∃ ci, cs[i]? = some ci := ⟨_, List.getElem?_eq_getElem hi2⟩
      have hcm : ci ∈ cs := List.mem_of_getElem? hci
      have hcr := hch ci hcm
      refine g_iload (pc' := 5) WL.here hx (hb hby d_jdk_52_21_3) rfl rfl ?_
      refine g_iload (pc' := 7) WL.here hx (hb hby d_jdk_52_21_5) rfl rfl ?_
      refine g_icmpN (pc' := 10) WL.here hx (hb hby d_jdk_52_21_7) rfl (tlt (show i.toInt32 < cs.length.toInt32 from (own_ltn hi2 hn31))).2.1 ?_
      refine g_aloadN (pc' := 11) WL.here hx (hb hby d_jdk_52_21_10) rfl rfl rfl ?_
      refine g_iloadN (pc' := 12) WL.here hx (hb hby d_jdk_52_21_11) rfl rfl ?_
      refine w_caload (pc' := 13) (v := (.int ci)) WL hx VAL (own_nneg (by omega)) (by rw [i32_nat (by omega), List.getElem?_map, hci]; rfl) (hb hby d_jdk_52_21_12) rfl ?_
      refine g_istore (pc' := 15) (Ls' := #[.val (.ref ca), .val (.int i.toInt32), .val (.ref ba), .val (.int i.toInt32), .val (.int cs.length.toInt32), .val (.int i.toInt32), .val (.int ci)]) WL.here hx (hb hby d_jdk_52_21_13) (XS.store1 (o := o6) rfl ho6 rfl) rfl ?_
      refine g_iload (pc' := 17) WL.here hx (hb hby d_jdk_52_21_15) rfl rfl ?_
      refine g_sipush (255 : Int32) (pc' := 20) WL.here hx (hb hby d_jdk_52_21_17) rfl rfl ?_
      refine g_icmpY (pc' := 26) WL.here hx (hb hby d_jdk_52_21_20) rfl (flt (show ¬ ((255 : Int32) < ci) from (by rw [Int32.lt_iff_toInt_lt]; have : (255 : Int32).toInt = 255 := rfl; omega))).2.2.2 ?_
      refine g_aloadN (pc' := 27) WL.here hx (hb hby d_jdk_52_21_26) rfl rfl rfl ?_
      refine g_iloadN (pc' := 28) WL.here hx (hb hby d_jdk_52_21_27) rfl rfl ?_
      refine g_iload (pc' := 30) WL.here hx (hb hby d_jdk_52_21_28) rfl rfl ?_
      refine g_i2b (pc' := 31) WL.here hx (hb hby d_jdk_52_21_30) rfl ?_
      refine w_bastore (pc' := 32) (x' := ci.toInt8.toInt32) WL hx VBL (own_nneg (by omega)) (by rw [i32_nat (by omega)]; simp; omega) (List.mem_of_getElem? (i := 0) rfl) (own_b8 ci) (hb hby d_jdk_52_21_31) rfl fun T1 h1 W1 K1 V1 => ?_
      have z_K1 : hL.size ≤ h1.size := K1.1
      have V1 : Ary Z h1 ba .byte ((cs.take (i + 1)).map latB ++ bs.drop (i + 1)) := by rw [i32_nat (by omega)] at V1; rw [← own_fill hbl hci]; exact V1
      refine g_iincV (i + 1).toInt32 (pc' := 35) (Ls' := #[.val (.ref ca), .val (.int (i + 1).toInt32), .val (.ref ba), .val (.int i.toInt32), .val (.int cs.length.toInt32), .val (.int i.toInt32), .val (.int ci)]) W1.here hx (hb hby d_jdk_52_21_32) (own_succ i) rfl rfl rfl ?_
      refine g_iincV (i + 1).toInt32 (pc' := 38) (Ls' := #[.val (.ref ca), .val (.int (i + 1).toInt32), .val (.ref ba), .val (.int (i + 1).toInt32), .val (.int cs.length.toInt32), .val (.int i.toInt32), .val (.int ci)]) W1.here hx (hb hby d_jdk_52_21_35) (own_succ i) rfl rfl rfl ?_
      refine g_iincV (i + 1).toInt32 (pc' := 41) (Ls' := #[.val (.ref ca), .val (.int (i + 1).toInt32), .val (.ref ba), .val (.int (i + 1).toInt32), .val (.int cs.length.toInt32), .val (.int (i + 1).toInt32), .val (.int ci)]) W1.here hx (hb hby d_jdk_52_21_38) (own_succ i) rfl rfl rfl ?_
      refine g_goto (pc' := 3) W1.here hx (hb hby d_jdk_52_21_41) rfl ?_
      exact ih (i + 1) (by omega) _ _ _ (One.val rfl) W1 (KL.trans K1 (fun x q => Or.inl q)) V1
  exact LOOP cs.length 0 (by omega) _ _ _ One.u W0 (Keep.refl _ _) (by simpa using VB)
set_option maxRecDepth 65536 in
set_option maxHeartbeats 40000000 in
theorem c_compress (l : Launch) (Z : State) (a0 : Array Value) (hw : ∀ d ∈ tables_1, d.before a0 Z = true) (hE : EW Z a0 consts_1) (ca : Nat) (cs : List Int32) (h0 : Heap) (O : Ext Z.heap h0) (hn : cs.length ≤ 2) (hch : ∀ c ∈ cs, 0 ≤ c.toInt ∧ c.toInt ≤ 255) (VA : Ary Z h0 ca .char (cs.map Value.int))  :
    Con l Z consts_1 (⟨"java/lang/StringUTF16", "compress", "([CII)[B"⟩ : MethodName) jdk_52_method_16_code 6 (Option.some (Jvm.ClassFile.FieldType.array Jvm.ClassFile.FieldType.byte)) ({ frames := 1, cells := 1, slots := 2, locals := 18 } : Room) #[(.ref ca), (.int (0 : Int32)), (.int cs.length.toInt32)] h0 [] (fun v h => ∃ ba : Nat, v = some (.ref ba) ∧ h0.size ≤ ba ∧ Ary Z h ba .byte (cs.map latB)) := by
  refine Con.of (a0 := a0) #[.val (.ref ca), .val (.int (0 : Int32)), .val (.int cs.length.toInt32), .unset, .unset, .unset] (plainFor_of_name pn_0) hE O all0 (fun m => by first | (simp [entryFrame, mkF, argsToLocals, Value.category]; done) | rfl) ?_
  intro p e s m below meth c T0 hx hby hml hnm hret hlk hh W0
  have hn31 : cs.length < 2 ^ 31 := by omega
  have lt_ca : ca < h0.size := VA.lt
  refine g_iloadN (pc' := 1) W0.here hx (hb hby d_jdk_52_16_0) rfl rfl ?_
  refine w_newarr (pc' := 3) (cap := 2) W0 hx (hw _ (List.mem_of_getElem? w_26)) (hb hby d_jdk_52_16_1) (own_nneg hn31) (by rw [i32_nat hn31]; exact hn) (Nat.le_of_ble_eq_true rfl) (Nat.le_of_ble_eq_true rfl) (Nat.le_of_ble_eq_true rfl) rfl rfl fun T2 h2 b2 g2 W2 K2 V2 => ?_
  have z_K2 : h0.size ≤ h2.size := K2.1
  have ne_ca_b2 : ca ≠ b2 := by omega
  have lt_b2 : b2 < h2.size := W2.lt (List.mem_cons_self ..)
  have V3 : Ary Z h2 b2 .byte (List.replicate cs.length (.int 0)) := by rw [i32_nat hn31] at V2; exact V2
  refine g_astoreN (pc' := 4) (Ls' := #[.val (.ref ca), .val (.int (0 : Int32)), .val (.int cs.length.toInt32), .val (.ref b2), .unset, .unset]) W2.here hx (hb hby d_jdk_52_16_3) rfl rfl rfl ?_
  refine g_aloadN (pc' := 5) W2.here hx (hb hby d_jdk_52_16_4) rfl rfl rfl ?_
  refine g_iloadN (pc' := 6) W2.here hx (hb hby d_jdk_52_16_5) rfl rfl ?_
  refine g_aloadN (pc' := 7) W2.here hx (hb hby d_jdk_52_16_6) rfl rfl rfl ?_
  refine g_iconst (0 : Int32) (pc' := 8) W2.here hx (hb hby d_jdk_52_16_7) rfl rfl ?_
  refine g_iloadN (pc' := 9) W2.here hx (hb hby d_jdk_52_16_8) rfl rfl ?_
  have c4 := (VA.keep K2 nin0)
  refine w_callS (pc' := 12) (st := []) (y := (⟨"java/lang/StringUTF16", "compress", "([CI[BII)I"⟩ : MethodName)) W2 hx [(.ref ca), (.int (0 : Int32)), (.ref b2), (.int (0 : Int32)), (.int cs.length.toInt32)] (hw _ (List.mem_of_getElem? w_38)) (hw _ (List.mem_of_getElem? w_39)) (hw _ (List.mem_of_getElem? w_36)) (hw _ (List.mem_of_getElem? w_40)) (by decide) (c_compr l Z a0 hw hE ca b2 cs _ h2 W2.old hn hch c4 V3 (by simp) ne_ca_b2 (by have := O.1; omega)) (allS (List.mem_of_getElem? (i := 0) rfl) all0) (by rw [hml]; rfl) (lenOf pd_0 rfl) rfl (hb hby d_jdk_52_16_9) (Nat.le_of_ble_eq_true rfl) (Nat.le_of_ble_eq_true rfl) (Nat.le_of_ble_eq_true rfl) (Nat.le_of_ble_eq_true rfl) rfl fun v5 T5 h5 W5 K5 Q5 => ?_
  have z_K5 : h2.size ≤ h5.size := K5.1
  obtain ⟨rfl, V6⟩ := Q5
  refine g_istore (pc' := 14) (Ls' := #[.val (.ref ca), .val (.int (0 : Int32)), .val (.int cs.length.toInt32), .val (.ref b2), .val (.int cs.length.toInt32), .unset]) W5.here hx (hb hby d_jdk_52_16_12) rfl rfl ?_
  refine g_iload (pc' := 16) W5.here hx (hb hby d_jdk_52_16_14) rfl rfl ?_
  refine g_iloadN (pc' := 17) W5.here hx (hb hby d_jdk_52_16_16) rfl rfl ?_
  refine g_icmpY (pc' := 57) W5.here hx (hb hby d_jdk_52_16_17) rfl (teq (show cs.length.toInt32 = cs.length.toInt32 from rfl)).1 ?_
  refine g_aloadN (pc' := 58) W5.here hx (hb hby d_jdk_52_16_57) rfl rfl rfl ?_
  refine w_retA W5 hx hh hlk hret rfl rfl (hb hby d_jdk_52_16_58) (Nat.le_of_ble_eq_true rfl) (Nat.le_of_ble_eq_true rfl) ?_
  exact ⟨_, rfl, by omega, V6⟩
set_option maxRecDepth 65536 in
set_option maxHeartbeats 40000000 in
theorem c_coderFrom (l : Launch) (Z : State) (a0 : Array Value) (hw : ∀ d ∈ tables_1, d.before a0 Z = true) (hE : EW Z a0 consts_1) (ba : Nat) (cs : List Int32) (bs : List Value) (h0 : Heap) (O : Ext Z.heap h0) (VB : Ary Z h0 ba .byte bs) (hbl : bs.length = cs.length) :
    Con l Z consts_1 (⟨"java/lang/StringUTF16", "coderFromArrayLen", "([BI)B"⟩ : MethodName) jdk_52_method_15_code 2 (Option.some Jvm.ClassFile.FieldType.byte) ({ frames := 0, cells := 0, slots := 0, locals := 0 } : Room) #[(.ref ba), (.int cs.length.toInt32)] h0 [] (pureQ (some (.int 0)) h0) := by
  refine Con.of (a0 := a0) #[.val (.ref ba), .val (.int cs.length.toInt32)] (plainFor_of_name pn_0) hE O all0 (fun m => by first | (simp [entryFrame, mkF, argsToLocals, Value.category]; done) | rfl) ?_
  intro p e s m below meth c T0 hx hby hml hnm hret hlk hh W0
  refine g_iloadN (pc' := 1) W0.here hx (hb hby d_jdk_52_15_0) rfl rfl ?_
  refine g_aloadN (pc' := 2) W0.here hx (hb hby d_jdk_52_15_1) rfl rfl rfl ?_
  refine w_len (pc' := 3) W0 hx VB (hb hby d_jdk_52_15_2) rfl ?_
  refine g_name (w := .int cs.length.toInt32) (congrArg Value.int (by rw [hbl])) ?_
  refine g_isub (pc' := 4) W0.here hx (hb hby d_jdk_52_15_3) rfl ?_
  refine g_bipush (31 : Int32) (pc' := 6) W0.here hx (hb hby d_jdk_52_15_4) rfl rfl ?_
  refine g_iushr (pc' := 7) W0.here hx (hb hby d_jdk_52_15_6) rfl ?_
  refine g_i2b (pc' := 8) W0.here hx (hb hby d_jdk_52_15_7) rfl ?_
  refine w_retN (t := .byte) W0 hx hh hlk hret (by simp) (hb hby d_jdk_52_15_8) (Nat.le_of_ble_eq_true rfl) (Nat.le_of_ble_eq_true rfl) ?_
  exact ⟨congrArg (fun z => some (Value.int z)) (by rw [own_csub]; rfl), rfl⟩
theorem own_pos0 {n : Nat} (h : 0 < n) (hn : n < 2 ^ 31) : ¬ n.toInt32 = 0 := fun q => by
  have := congrArg Int32.toInt q
  rw [own_toInt hn] at this
  simp at this; omega
theorem own_nil {cs : List Int32} (hn : cs.length < 2 ^ 31) (q : cs.length.toInt32 = (0 : Int32)) : cs = [] := by
  cases cs with
  | nil => rfl
  | cons a t => exact absurd q (own_pos0 (by simp) hn)
theorem own_atoms {Z : State} {a0 : Array Value} (hw : ∀ d ∈ tables_1, d.before a0 Z = true) : ∀ a ∈ Bundle.stringAtoms, a.before a0 Z = true := fun d hd => by
  simp only [Bundle.stringAtoms, Bundle.sN, List.mem_cons, List.not_mem_nil, or_false] at hd
  rcases hd with rfl | rfl | rfl | rfl | rfl | rfl | rfl
  · exact (hw _ (List.mem_of_getElem? w_14))
  · exact (hw _ (List.mem_of_getElem? w_13))
  · exact (hw _ (List.mem_of_getElem? w_26))
  · exact (hw _ (List.mem_of_getElem? w_27))
  · exact (hw _ (List.mem_of_getElem? w_28))
  · exact (hw _ (List.mem_of_getElem? w_29))
  · exact (hw _ (List.mem_of_getElem? w_30))
set_option maxRecDepth 65536 in
set_option maxHeartbeats 40000000 in
theorem c_str4 (l : Launch) (Z : State) (a0 : Array Value) (hw : ∀ d ∈ tables_1, d.before a0 Z = true) (hE : EW Z a0 consts_1) (cc : Int32) (fm : Value) (o ca : Nat) (cs : List Int32) (h0 : Heap) (O : Ext Z.heap h0) (G : SEnv Z cc fm) (hn : cs.length ≤ 2) (hch : ∀ c ∈ cs, 0 ≤ c.toInt ∧ c.toInt ≤ 255) (VA : Ary Z h0 ca .char (cs.map Value.int)) (hz : Z.heap.size ≤ o) (E0 : Exa Z h0 o "java/lang/String") (u1 u2 : Value) (F1 : Fld Z h0 o "java/lang/String" "coder" "B" u1) (F2 : Fld Z h0 o "java/lang/String" "value" "[B" u2) (hoc : o ≠ ca)  :
    Con l Z consts_1 (⟨"java/lang/String", "<init>", "([CIILjava/lang/Void;)V"⟩ : MethodName) jdk_42_method_149_code 6 (Option.none : Option Jvm.ClassFile.FieldType) ({ frames := 2, cells := 4, slots := 8, locals := 35 } : Room) #[(.ref o), (.ref ca), (.int (0 : Int32)), (.int cs.length.toInt32), .null] h0 [o] (fun v h => v = none ∧ ∃ b : Nat, SL Z h o b cs) := by
  refine Con.of (a0 := a0) #[.val (.ref o), .val (.ref ca), .val (.int (0 : Int32)), .val (.int cs.length.toInt32), .val .null, .unset] (plainFor_of_name pn_1) hE O (allS ⟨hz, E0.lt⟩ all0) (fun m => by first | (simp [entryFrame, mkF, argsToLocals, Value.category]; done) | rfl) ?_
  intro p e s m below meth c T0 hx hby hml hnm hret hlk hh W0
  have hn31 : cs.length < 2 ^ 31 := by omega
  have lt_ca : ca < h0.size := VA.lt
  have lt_o : o < h0.size := E0.lt
  refine g_aloadN (pc' := 1) W0.here hx (hb hby d_jdk_42_149_0) rfl rfl rfl ?_
  refine w_initO (pc' := 4) W0 hx (hw _ (List.mem_of_getElem? w_22)) (hw _ (List.mem_of_getElem? w_23)) (hw _ (List.mem_of_getElem? w_24)) (by rw [hml]; rfl) (hb hby d_jdk_42_149_1) (Nat.le_of_ble_eq_true rfl) (Nat.le_of_ble_eq_true rfl) rfl fun T7 W7 => ?_
  refine g_iloadN (pc' := 5) W7.here hx (hb hby d_jdk_42_149_4) rfl rfl ?_
  by_cases hc5_8 : cs.length.toInt32 = (0 : Int32)
  · refine g_ifN (pc' := 8) W7.here hx (hb hby d_jdk_42_149_5) rfl (teq hc5_8).2 ?_
    have e0 : cs = [] := own_nil hn31 hc5_8
    refine g_aloadN (pc' := 9) W7.here hx (hb hby d_jdk_42_149_8) rfl rfl rfl ?_
    refine w_ldcS (pc' := 11) (vs := []) (z := 0) W7 hx (hw _ (List.mem_of_getElem? w_25)) (own_atoms hw) (List.mem_of_getElem? (i := 0) rfl) ⟨fun _ q => (nomatch q), rfl⟩ (by decide) rfl (hb hby d_jdk_42_149_9) 0 (Nat.le_of_ble_eq_true rfl) (Nat.le_of_ble_eq_true rfl) (Nat.le_of_ble_eq_true rfl) (Nat.le_of_ble_eq_true rfl) rfl fun T9 h9 sa9 sb9 W9 K9 A9 C9 F9 V9 N9 => ?_
    have z_K9 : h0.size ≤ h9.size := K9.1
    obtain ⟨ne_o_sa9, ne_o_sb9⟩ := N9 o (List.mem_of_getElem? (i := 0) rfl)
    refine w_get (pc' := 14) W9 hx (hw _ (List.mem_of_getElem? w_31)) Via.refl F9 (hb hby d_jdk_42_149_11) rfl fun T10 W10 => ?_
    have c11 := (F2.keep K9 nin0)
    have c12 := (E0.keep K9)
    refine w_put (pc' := 17) W10 hx (hw _ (List.mem_of_getElem? w_31)) Via.refl c11 c12 (Or.inr ⟨(hw _ (List.mem_of_getElem? w_27)), rfl, hnm⟩) (hw _ (List.mem_of_getElem? w_13)) (ty := (.array .byte)) (by decide) rfl rfl (List.mem_of_getElem? (i := 0) rfl) (hb hby d_jdk_42_149_14) rfl fun T13 h13 W13 K13 R13 F13 A13 => ?_
    have c14 := (F1.keep K9 nin0)
    have z_K13 : h9.size ≤ h13.size := K13.1
    have c15 := (c14.other R13 (Or.inr (slot_ne (Or.inr (hw _ (List.mem_of_getElem? w_28))) (Or.inr (hw _ (List.mem_of_getElem? w_27))) (by decide) (t := .byte) (t' := (.array .byte)) (by decide) (by decide))))
    refine g_aloadN (pc' := 18) W13.here hx (hb hby d_jdk_42_149_17) rfl rfl rfl ?_
    refine w_ldcS (pc' := 20) (vs := []) (z := 0) W13 hx (hw _ (List.mem_of_getElem? w_25)) (own_atoms hw) (List.mem_of_getElem? (i := 0) rfl) ⟨fun _ q => (nomatch q), rfl⟩ (by decide) rfl (hb hby d_jdk_42_149_18) 0 (Nat.le_of_ble_eq_true rfl) (Nat.le_of_ble_eq_true rfl) (Nat.le_of_ble_eq_true rfl) (Nat.le_of_ble_eq_true rfl) rfl fun T16 h16 sa16 sb16 W16 K16 A16 C16 F16 V16 N16 => ?_
    have z_K16 : h13.size ≤ h16.size := K16.1
    obtain ⟨ne_o_sa16, ne_o_sb16⟩ := N16 o (List.mem_of_getElem? (i := 0) rfl)
    refine w_get (pc' := 23) W16 hx (hw _ (List.mem_of_getElem? w_32)) Via.refl C16 (hb hby d_jdk_42_149_20) rfl fun T17 W17 => ?_
    have c18 := (c15.keep K16 nin0)
    have c19 := (A13.keep K16)
    refine w_putN (pc' := 26) (v' := (.int (0 : Int32))) W17 hx (hw _ (List.mem_of_getElem? w_32)) Via.refl c18 c19 (Or.inr ⟨(hw _ (List.mem_of_getElem? w_28)), rfl, hnm⟩) (hw _ (List.mem_of_getElem? w_13)) (ty := .byte) (by decide) rfl rfl (List.mem_of_getElem? (i := 0) rfl) (hb hby d_jdk_42_149_23) rfl fun T20 h20 W20 K20 R20 F20 A20 => ?_
    have c21 := (F13.keep K16 nin0)
    have z_K20 : h16.size ≤ h20.size := K20.1
    have c22 := (c21.other R20 (Or.inr (slot_ne (Or.inr (hw _ (List.mem_of_getElem? w_27))) (Or.inr (hw _ (List.mem_of_getElem? w_28))) (by decide) (t := (.array .byte)) (t' := .byte) (by decide) (by decide))))
    have c23 := (((V9.keep K13 (ninS (Ne.symm ne_o_sb9) nin0)).keep K16 nin0).keep K20 (ninS (Ne.symm ne_o_sb9) nin0))
    refine w_retV W20 hx hh hlk hret (hb hby d_jdk_42_149_26) (Nat.le_of_ble_eq_true rfl) (Nat.le_of_ble_eq_true rfl) ?_
    refine ⟨rfl, sb9, A20, F20, c22, ?_, hch⟩
    rw [e0]; exact c23
  · refine g_ifY (pc' := 27) W7.here hx (hb hby d_jdk_42_149_5) rfl (feq hc5_8).2 ?_
    refine w_getS (pc' := 30) W7 hx (hw _ (List.mem_of_getElem? w_33)) Via.refl G.1 (hb hby d_jdk_42_149_27) rfl fun T24 W24 => ?_
    refine g_ifN (pc' := 33) W24.here hx (hb hby d_jdk_42_149_30) rfl (feq (show ¬ (cc = (0 : Int32)) from G.2.1)).1 ?_
    refine g_aloadN (pc' := 34) W24.here hx (hb hby d_jdk_42_149_33) rfl rfl rfl ?_
    refine g_iloadN (pc' := 35) W24.here hx (hb hby d_jdk_42_149_34) rfl rfl ?_
    refine g_iloadN (pc' := 36) W24.here hx (hb hby d_jdk_42_149_35) rfl rfl ?_
    refine w_callS (pc' := 39) (st := []) (y := (⟨"java/lang/StringUTF16", "compress", "([CII)[B"⟩ : MethodName)) W24 hx [(.ref ca), (.int (0 : Int32)), (.int cs.length.toInt32)] (hw _ (List.mem_of_getElem? w_34)) (hw _ (List.mem_of_getElem? w_35)) (hw _ (List.mem_of_getElem? w_36)) (hw _ (List.mem_of_getElem? w_37)) (by decide) (c_compress l Z a0 hw hE ca cs h0 W24.old hn hch VA) all0 (by rw [hml]; rfl) (lenOf pd_1 rfl) rfl (hb hby d_jdk_42_149_36) (Nat.le_of_ble_eq_true rfl) (Nat.le_of_ble_eq_true rfl) (Nat.le_of_ble_eq_true rfl) (Nat.le_of_ble_eq_true rfl) rfl fun v25 T25 h25 W25 K25 Q25 => ?_
    have z_K25 : h0.size ≤ h25.size := K25.1
    obtain ⟨ba26, rfl, gz26, V26⟩ := Q25
    have ne_ca_ba26 : ca ≠ ba26 := by omega
    have ne_o_ba26 : o ≠ ba26 := by omega
    have lt_ba26 : ba26 < h25.size := V26.lt
    refine g_astore (pc' := 41) (Ls' := #[.val (.ref o), .val (.ref ca), .val (.int (0 : Int32)), .val (.int cs.length.toInt32), .val .null, .val (.ref ba26)]) W25.here hx (hb hby d_jdk_42_149_39) rfl rfl rfl ?_
    refine g_aloadN (pc' := 42) W25.here hx (hb hby d_jdk_42_149_41) rfl rfl rfl ?_
    refine g_aload (pc' := 44) W25.here hx (hb hby d_jdk_42_149_42) rfl rfl rfl ?_
    refine g_iloadN (pc' := 45) W25.here hx (hb hby d_jdk_42_149_44) rfl rfl ?_
    refine w_callSp (pc' := 48) (st := [(.ref o)]) (y := (⟨"java/lang/StringUTF16", "coderFromArrayLen", "([BI)B"⟩ : MethodName)) W25 hx [(.ref ba26), (.int cs.length.toInt32)] (hw _ (List.mem_of_getElem? w_41)) (hw _ (List.mem_of_getElem? w_42)) (hw _ (List.mem_of_getElem? w_36)) (hw _ (List.mem_of_getElem? w_43)) (by decide) (c_coderFrom l Z a0 hw hE ba26 cs _ h25 W25.old V26 (by simp)) (by rw [hml]; rfl) (lenOf pd_2 rfl) rfl (hb hby d_jdk_42_149_45) (Nat.le_of_ble_eq_true rfl) (Nat.le_of_ble_eq_true rfl) rfl rfl (Nat.le_of_ble_eq_true rfl) (Nat.le_of_ble_eq_true rfl) rfl fun T27 W27 => ?_
    have c28 := (F1.keep K25 nin0)
    have c29 := (E0.keep K25)
    refine w_putN (pc' := 51) (v' := (.int (0 : Int32))) W27 hx (hw _ (List.mem_of_getElem? w_32)) Via.refl c28 c29 (Or.inr ⟨(hw _ (List.mem_of_getElem? w_28)), rfl, hnm⟩) (hw _ (List.mem_of_getElem? w_13)) (ty := .byte) (by decide) rfl rfl (List.mem_of_getElem? (i := 0) rfl) (hb hby d_jdk_42_149_48) rfl fun T30 h30 W30 K30 R30 F30 A30 => ?_
    have c31 := (F2.keep K25 nin0)
    have z_K30 : h25.size ≤ h30.size := K30.1
    have c32 := (c31.other R30 (Or.inr (slot_ne (Or.inr (hw _ (List.mem_of_getElem? w_27))) (Or.inr (hw _ (List.mem_of_getElem? w_28))) (by decide) (t := (.array .byte)) (t' := .byte) (by decide) (by decide))))
    refine g_aloadN (pc' := 52) W30.here hx (hb hby d_jdk_42_149_51) rfl rfl rfl ?_
    refine g_aload (pc' := 54) W30.here hx (hb hby d_jdk_42_149_52) rfl rfl rfl ?_
    refine w_put (pc' := 57) W30 hx (hw _ (List.mem_of_getElem? w_31)) Via.refl c32 A30 (Or.inr ⟨(hw _ (List.mem_of_getElem? w_27)), rfl, hnm⟩) (hw _ (List.mem_of_getElem? w_13)) (ty := (.array .byte)) (by decide) rfl rfl (List.mem_of_getElem? (i := 0) rfl) (hb hby d_jdk_42_149_54) rfl fun T33 h33 W33 K33 R33 F33 A33 => ?_
    have z_K33 : h30.size ≤ h33.size := K33.1
    have c34 := (F30.other R33 (Or.inr (slot_ne (Or.inr (hw _ (List.mem_of_getElem? w_28))) (Or.inr (hw _ (List.mem_of_getElem? w_27))) (by decide) (t := .byte) (t' := (.array .byte)) (by decide) (by decide))))
    have c35 := ((V26.keep K30 (ninS (Ne.symm ne_o_ba26) nin0)).keep K33 (ninS (Ne.symm ne_o_ba26) nin0))
    refine w_retV W33 hx hh hlk hret (hb hby d_jdk_42_149_57) (Nat.le_of_ble_eq_true rfl) (Nat.le_of_ble_eq_true rfl) ?_
    exact ⟨rfl, ba26, A33, c34, F33, c35, hch⟩
set_option maxRecDepth 65536 in
set_option maxHeartbeats 40000000 in
theorem c_strC (l : Launch) (Z : State) (a0 : Array Value) (hw : ∀ d ∈ tables_1, d.before a0 Z = true) (hE : EW Z a0 consts_1) (cc : Int32) (fm : Value) (o ca : Nat) (cs : List Int32) (h0 : Heap) (O : Ext Z.heap h0) (G : SEnv Z cc fm) (hn : cs.length ≤ 2) (hch : ∀ c ∈ cs, 0 ≤ c.toInt ∧ c.toInt ≤ 255) (VA : Ary Z h0 ca .char (cs.map Value.int)) (hz : Z.heap.size ≤ o) (E0 : Exa Z h0 o "java/lang/String") (u1 u2 : Value) (F1 : Fld Z h0 o "java/lang/String" "coder" "B" u1) (F2 : Fld Z h0 o "java/lang/String" "value" "[B" u2) (hoc : o ≠ ca)  :
    Con l Z consts_1 (⟨"java/lang/String", "<init>", "([C)V"⟩ : MethodName) jdk_42_method_3_code 2 (Option.none : Option Jvm.ClassFile.FieldType) ({ frames := 3, cells := 4, slots := 8, locals := 52 } : Room) #[(.ref o), (.ref ca)] h0 [o] (fun v h => v = none ∧ ∃ b : Nat, SL Z h o b cs) := by
  refine Con.of (a0 := a0) #[.val (.ref o), .val (.ref ca)] (plainFor_of_name pn_1) hE O (allS ⟨hz, E0.lt⟩ all0) (fun m => by first | (simp [entryFrame, mkF, argsToLocals, Value.category]; done) | rfl) ?_
  intro p e s m below meth c T0 hx hby hml hnm hret hlk hh W0
  have hn31 : cs.length < 2 ^ 31 := by omega
  have lt_ca : ca < h0.size := VA.lt
  have lt_o : o < h0.size := E0.lt
  refine g_aloadN (pc' := 1) W0.here hx (hb hby d_jdk_42_3_0) rfl rfl rfl ?_
  refine g_aloadN (pc' := 2) W0.here hx (hb hby d_jdk_42_3_1) rfl rfl rfl ?_
  refine g_iconst (0 : Int32) (pc' := 3) W0.here hx (hb hby d_jdk_42_3_2) rfl rfl ?_
  refine g_aloadN (pc' := 4) W0.here hx (hb hby d_jdk_42_3_3) rfl rfl rfl ?_
  refine w_len (pc' := 5) W0 hx VA (hb hby d_jdk_42_3_4) rfl ?_
  refine g_name (w := .int cs.length.toInt32) (congrArg Value.int (by rw [List.length_map])) ?_
  refine g_aconstNull (pc' := 6) W0.here hx (hb hby d_jdk_42_3_5) rfl ?_
  refine w_special (pc' := 9) (st := []) (y := (⟨"java/lang/String", "<init>", "([CIILjava/lang/Void;)V"⟩ : MethodName)) (a := o) W0 hx [(.ref ca), (.int (0 : Int32)), (.int cs.length.toInt32), .null] rfl (hw _ (List.mem_of_getElem? w_18)) (hw _ (List.mem_of_getElem? w_19)) (hw _ (List.mem_of_getElem? w_14)) (hw _ (List.mem_of_getElem? w_21)) (by decide) (c_str4 l Z a0 hw hE cc fm o ca cs h0 W0.old G hn hch VA (by have := O.1; omega) E0 _ _ F1 F2 hoc) (allS (List.mem_of_getElem? (i := 0) rfl) all0) (by rw [hml]; rfl) (lenOf pd_3 rfl) rfl (hb hby d_jdk_42_3_6) (Nat.le_of_ble_eq_true rfl) (Nat.le_of_ble_eq_true rfl) (Nat.le_of_ble_eq_true rfl) (Nat.le_of_ble_eq_true rfl) rfl fun v36 T36 h36 W36 K36 Q36 => ?_
  have z_K36 : h0.size ≤ h36.size := K36.1
  obtain ⟨rfl, sb37, S37⟩ := Q36
  have ES37 := S37.1
  have lt_sb37 : sb37 < h36.size := S37.ltb
  refine w_retV W36 hx hh hlk hret (hb hby d_jdk_42_3_9) (Nat.le_of_ble_eq_true rfl) (Nat.le_of_ble_eq_true rfl) ?_
  exact ⟨rfl, _, S37⟩
theorem own_byte (x : Int32) : 0 ≤ ((x &&& (255 : Int32)).toUInt32.toUInt16.toUInt32.toInt32).toInt ∧ ((x &&& (255 : Int32)).toUInt32.toUInt16.toUInt32.toInt32).toInt ≤ 255 := by
  rw [i2c_mask, c_mask x 255 8 (by decide) (by decide)]
  omega
theorem own_c16 {c : Int32} (h : 0 ≤ c.toInt ∧ c.toInt ≤ 255) : 0 ≤ c.toInt ∧ c.toInt < 65536 := by omega
set_option maxRecDepth 65536 in
set_option maxHeartbeats 40000000 in
theorem c_number (l : Launch) (Z : State) (a0 : Array Value) (hw : ∀ d ∈ tables_1, d.before a0 Z = true) (hE : EW Z a0 consts_1) (o : Nat) (h0 : Heap) (O : Ext Z.heap h0)  :
    Con l Z consts_1 (⟨"java/lang/Number", "<init>", "()V"⟩ : MethodName) jdk_18_method_1_code 1 (Option.none : Option Jvm.ClassFile.FieldType) ({ frames := 1, cells := 0, slots := 0, locals := 12 } : Room) #[(.ref o)] h0 [] (fun v _ => v = none) := by
  refine Con.of (a0 := a0) #[.val (.ref o)] (plainFor_of_name pn_2) hE O all0 (fun m => by first | (simp [entryFrame, mkF, argsToLocals, Value.category]; done) | rfl) ?_
  intro p e s m below meth c T0 hx hby hml hnm hret hlk hh W0
  refine g_aloadN (pc' := 1) W0.here hx (hb hby d_jdk_18_1_0) rfl rfl rfl ?_
  refine w_initO (pc' := 4) W0 hx (hw _ (List.mem_of_getElem? w_57)) (hw _ (List.mem_of_getElem? w_23)) (hw _ (List.mem_of_getElem? w_24)) (by rw [hml]; rfl) (hb hby d_jdk_18_1_1) (Nat.le_of_ble_eq_true rfl) (Nat.le_of_ble_eq_true rfl) rfl fun T38 W38 => ?_
  refine w_retV W38 hx hh hlk hret (hb hby d_jdk_18_1_4) (Nat.le_of_ble_eq_true rfl) (Nat.le_of_ble_eq_true rfl) ?_
  exact rfl
set_option maxRecDepth 65536 in
set_option maxHeartbeats 40000000 in
theorem c_iinit (l : Launch) (Z : State) (a0 : Array Value) (hw : ∀ d ∈ tables_1, d.before a0 Z = true) (hE : EW Z a0 consts_1) (o : Nat) (n : Int32) (h0 : Heap) (O : Ext Z.heap h0) (hz : Z.heap.size ≤ o) (E0 : Exa Z h0 o "java/lang/Integer") (u1 : Value) (F1 : Fld Z h0 o "java/lang/Integer" "value" "I" u1) :
    Con l Z consts_1 (⟨"java/lang/Integer", "<init>", "(I)V"⟩ : MethodName) jdk_33_method_23_code 2 (Option.none : Option Jvm.ClassFile.FieldType) ({ frames := 2, cells := 0, slots := 0, locals := 24 } : Room) #[(.ref o), (.int n)] h0 [o] (fun v _ => v = none) := by
  refine Con.of (a0 := a0) #[.val (.ref o), .val (.int n)] (plainFor_of_name pn_3) hE O (allS ⟨hz, E0.lt⟩ all0) (fun m => by first | (simp [entryFrame, mkF, argsToLocals, Value.category]; done) | rfl) ?_
  intro p e s m below meth c T0 hx hby hml hnm hret hlk hh W0
  refine g_aloadN (pc' := 1) W0.here hx (hb hby d_jdk_33_23_0) rfl rfl rfl ?_
  refine w_special (pc' := 4) (st := []) (y := (⟨"java/lang/Number", "<init>", "()V"⟩ : MethodName)) (a := o) W0 hx [] rfl (hw _ (List.mem_of_getElem? w_51)) (hw _ (List.mem_of_getElem? w_52)) (hw _ (List.mem_of_getElem? w_55)) (hw _ (List.mem_of_getElem? w_56)) (by decide) (c_number l Z a0 hw hE o h0 W0.old) all0 (by rw [hml]; rfl) (lenOf pd_4 rfl) rfl (hb hby d_jdk_33_23_1) (Nat.le_of_ble_eq_true rfl) (Nat.le_of_ble_eq_true rfl) (Nat.le_of_ble_eq_true rfl) (Nat.le_of_ble_eq_true rfl) rfl fun v39 T39 h39 W39 K39 Q39 => ?_
  have z_K39 : h0.size ≤ h39.size := K39.1
  cases Q39
  refine g_aloadN (pc' := 5) W39.here hx (hb hby d_jdk_33_23_4) rfl rfl rfl ?_
  refine g_iloadN (pc' := 6) W39.here hx (hb hby d_jdk_33_23_5) rfl rfl ?_
  have c40 := (F1.keep K39 nin0)
  have c41 := (E0.keep K39)
  refine w_put (pc' := 9) W39 hx (hw _ (List.mem_of_getElem? w_58)) Via.refl c40 c41 (Or.inr ⟨(hw _ (List.mem_of_getElem? w_59)), rfl, hnm⟩) (hw _ (List.mem_of_getElem? w_46)) (ty := .int) (by decide) rfl rfl (List.mem_of_getElem? (i := 0) rfl) (hb hby d_jdk_33_23_6) rfl fun T42 h42 W42 K42 R42 F42 A42 => ?_
  have z_K42 : h39.size ≤ h42.size := K42.1
  refine w_retV W42 hx hh hlk hret (hb hby d_jdk_33_23_9) (Nat.le_of_ble_eq_true rfl) (Nat.le_of_ble_eq_true rfl) ?_
  exact rfl
theorem own_cin {n : Int32} (h1 : ¬ n < (-128 : Int32)) (h2 : ¬ (127 : Int32) < n) : ¬ (n + (128 : Int32) < 0 ∨ 256 ≤ (n + (128 : Int32)).toNatClampNeg) := by
  have q := c_iadd n 128
  have e0 : (0 : Int32).toInt = 0 := rfl
  have e1 : (128 : Int32).toInt = 128 := rfl
  have e2 : (127 : Int32).toInt = 127 := rfl
  have e3 : (-128 : Int32).toInt = -128 := rfl
  have r := rng32 (n + 128)
  simp only [Int32.lt_iff_toInt_lt, Int32.toNatClampNeg, e0, e1, e2, e3] at *
  omega
set_option maxRecDepth 65536 in
set_option maxHeartbeats 40000000 in
theorem c_valueOfI (l : Launch) (Z : State) (a0 : Array Value) (hw : ∀ d ∈ tables_1, d.before a0 Z = true) (hE : EW Z a0 consts_1) (n : Int32) (ic : Nat) (cl : Cell) (h0 : Heap) (O : Ext Z.heap h0) (S_h : Sta Z Z.heap "java/lang/Integer$IntegerCache" "high" "I" (.int 127)) (S_c : Sta Z Z.heap "java/lang/Integer$IntegerCache" "cache" "[Ljava/lang/Integer;" (.ref ic)) (AC : Arr Z Z.heap ic cl (.object "java/lang/Integer")) (hsz : cl.slots.size = 256) (hel : ∀ j : Int32, ¬ (j < 0 ∨ cl.slots.size ≤ j.toNatClampNeg) → ∃ b : Nat, cl.slots[j.toNatClampNeg]? = some (.ref b))  :
    Con l Z consts_1 (⟨"java/lang/Integer", "valueOf", "(I)Ljava/lang/Integer;"⟩ : MethodName) jdk_33_method_22_code 1 (Option.some (Jvm.ClassFile.FieldType.object "java/lang/Integer")) ({ frames := 3, cells := 1, slots := 1, locals := 38 } : Room) #[(.int n)] h0 [] (fun v _ => ∃ a : Nat, v = some (.ref a)) := by
  refine Con.of (a0 := a0) #[.val (.int n)] (plainFor_of_name pn_3) hE O all0 (fun m => by first | (simp [entryFrame, mkF, argsToLocals, Value.category]; done) | rfl) ?_
  intro p e s m below meth c T0 hx hby hml hnm hret hlk hh W0
  refine g_iloadN (pc' := 1) W0.here hx (hb hby d_jdk_33_22_0) rfl rfl ?_
  refine g_bipush (-128 : Int32) (pc' := 3) W0.here hx (hb hby d_jdk_33_22_1) rfl rfl ?_
  by_cases hc3_43 : n < (-128 : Int32)
  · refine g_icmpY (pc' := 23) W0.here hx (hb hby d_jdk_33_22_3) rfl (tlt hc3_43).1 ?_
    refine w_new (pc' := 26) W0 hx (hw _ (List.mem_of_getElem? w_45)) (hw _ (List.mem_of_getElem? w_46)) (hw _ (List.mem_of_getElem? w_3)) (hb hby d_jdk_33_22_23) (Nat.le_of_ble_eq_true rfl) (Nat.le_of_ble_eq_true rfl) rfl fun T44 h44 b44 g44 W44 K44 A44 D44 => ?_
    have z_K44 : h0.size ≤ h44.size := K44.1
    have lt_b44 : b44 < h44.size := W44.lt (List.mem_cons_self ..)
    have F44_value : Fld Z h44 b44 "java/lang/Integer" "value" "I" (.int (0 : Int32)) := D44 (Or.inr (hw _ (List.mem_of_getElem? w_59))) (ty := .int) (by decide)
    refine g_dup (pc' := 27) W44.here hx (hb hby d_jdk_33_22_26) rfl rfl ?_
    refine g_iloadN (pc' := 28) W44.here hx (hb hby d_jdk_33_22_27) rfl rfl ?_
    refine w_special (pc' := 31) (st := [(.ref b44)]) (y := (⟨"java/lang/Integer", "<init>", "(I)V"⟩ : MethodName)) (a := b44) W44 hx [(.int n)] rfl (hw _ (List.mem_of_getElem? w_47)) (hw _ (List.mem_of_getElem? w_48)) (hw _ (List.mem_of_getElem? w_3)) (hw _ (List.mem_of_getElem? w_50)) (by decide) (c_iinit l Z a0 hw hE b44 n h44 W44.old (by have := O.1; omega) A44 _ F44_value) (allS (List.mem_of_getElem? (i := 0) rfl) all0) (by rw [hml]; rfl) (lenOf pd_5 rfl) rfl (hb hby d_jdk_33_22_28) (Nat.le_of_ble_eq_true rfl) (Nat.le_of_ble_eq_true rfl) (Nat.le_of_ble_eq_true rfl) (Nat.le_of_ble_eq_true rfl) rfl fun v45 T45 h45 W45 K45 Q45 => ?_
    have z_K45 : h44.size ≤ h45.size := K45.1
    cases Q45
    refine w_retA W45 hx hh hlk hret rfl rfl (hb hby d_jdk_33_22_31) (Nat.le_of_ble_eq_true rfl) (Nat.le_of_ble_eq_true rfl) ?_
    exact ⟨_, rfl⟩
  · refine g_icmpN (pc' := 6) W0.here hx (hb hby d_jdk_33_22_3) rfl (flt hc3_43).1 ?_
    refine g_iloadN (pc' := 7) W0.here hx (hb hby d_jdk_33_22_6) rfl rfl ?_
    refine w_getS (pc' := 10) W0 hx (hw _ (List.mem_of_getElem? w_5)) Via.refl S_h (hb hby d_jdk_33_22_7) rfl fun T46 W46 => ?_
    by_cases hc10_47 : (127 : Int32) < n
    · refine g_icmpY (pc' := 23) W46.here hx (hb hby d_jdk_33_22_10) rfl (tlt hc10_47).2.2.1 ?_
      refine w_new (pc' := 26) W46 hx (hw _ (List.mem_of_getElem? w_45)) (hw _ (List.mem_of_getElem? w_46)) (hw _ (List.mem_of_getElem? w_3)) (hb hby d_jdk_33_22_23) (Nat.le_of_ble_eq_true rfl) (Nat.le_of_ble_eq_true rfl) rfl fun T48 h48 b48 g48 W48 K48 A48 D48 => ?_
      have z_K48 : h0.size ≤ h48.size := K48.1
      have lt_b48 : b48 < h48.size := W48.lt (List.mem_cons_self ..)
      have F48_value : Fld Z h48 b48 "java/lang/Integer" "value" "I" (.int (0 : Int32)) := D48 (Or.inr (hw _ (List.mem_of_getElem? w_59))) (ty := .int) (by decide)
      refine g_dup (pc' := 27) W48.here hx (hb hby d_jdk_33_22_26) rfl rfl ?_
      refine g_iloadN (pc' := 28) W48.here hx (hb hby d_jdk_33_22_27) rfl rfl ?_
      refine w_special (pc' := 31) (st := [(.ref b48)]) (y := (⟨"java/lang/Integer", "<init>", "(I)V"⟩ : MethodName)) (a := b48) W48 hx [(.int n)] rfl (hw _ (List.mem_of_getElem? w_47)) (hw _ (List.mem_of_getElem? w_48)) (hw _ (List.mem_of_getElem? w_3)) (hw _ (List.mem_of_getElem? w_50)) (by decide) (c_iinit l Z a0 hw hE b48 n h48 W48.old (by have := O.1; omega) A48 _ F48_value) (allS (List.mem_of_getElem? (i := 0) rfl) all0) (by rw [hml]; rfl) (lenOf pd_5 rfl) rfl (hb hby d_jdk_33_22_28) (Nat.le_of_ble_eq_true rfl) (Nat.le_of_ble_eq_true rfl) (Nat.le_of_ble_eq_true rfl) (Nat.le_of_ble_eq_true rfl) rfl fun v49 T49 h49 W49 K49 Q49 => ?_
      have z_K49 : h48.size ≤ h49.size := K49.1
      cases Q49
      refine w_retA W49 hx hh hlk hret rfl rfl (hb hby d_jdk_33_22_31) (Nat.le_of_ble_eq_true rfl) (Nat.le_of_ble_eq_true rfl) ?_
      exact ⟨_, rfl⟩
    · refine g_icmpN (pc' := 13) W46.here hx (hb hby d_jdk_33_22_10) rfl (flt hc10_47).2.2.1 ?_
      refine w_getS (pc' := 16) W46 hx (hw _ (List.mem_of_getElem? w_7)) Via.refl S_c (hb hby d_jdk_33_22_13) rfl fun T50 W50 => ?_
      refine g_iloadN (pc' := 17) W50.here hx (hb hby d_jdk_33_22_16) rfl rfl ?_
      refine g_sipush (128 : Int32) (pc' := 20) W50.here hx (hb hby d_jdk_33_22_17) rfl rfl ?_
      refine g_iadd (pc' := 21) W50.here hx (hb hby d_jdk_33_22_20) rfl ?_
      have hin : ¬ (n + (128 : Int32) < 0 ∨ cl.slots.size ≤ (n + (128 : Int32)).toNatClampNeg) := by rw [hsz]; exact own_cin hc3_43 hc10_47
      obtain ⟨bx, hbx⟩ := hel _ hin
      refine w_aaloadA (pc' := 22) (v := (.ref bx)) W50 hx (AC.ext W50.old) rfl hin hbx (hb hby d_jdk_33_22_21) rfl ?_
      refine w_retA W50 hx hh hlk hret rfl rfl (hb hby d_jdk_33_22_22) (Nat.le_of_ble_eq_true rfl) (Nat.le_of_ble_eq_true rfl) ?_
      exact ⟨_, rfl⟩
set_option maxRecDepth 65536 in
set_option maxHeartbeats 40000000 in
theorem c_present (l : Launch) (Z : State) (a0 : Array Value) (hw : ∀ d ∈ tables_1, d.before a0 Z = true) (hE : EW Z a0 consts_1) (a : Nat) (kv : Value) (h0 : Heap) (O : Ext Z.heap h0) (hkv : kv.isRef = true) :
    Con l Z consts_1 (⟨"com/example/grapple/grapple/internal/Limits", "checkPresent", "(Ljava/lang/Object;Ljava/lang/String;)Ljava/lang/Object;"⟩ : MethodName) prog_3_method_2_code 2 (Option.some (Jvm.ClassFile.FieldType.object "java/lang/Object")) ({ frames := 0, cells := 0, slots := 0, locals := 0 } : Room) #[(.ref a), kv] h0 [] (pureQ (some (.ref a)) h0) := by
  refine Con.of (a0 := a0) #[.val (.ref a), .val kv] (plainFor_of_name pn_4) hE O all0 (fun m => by rcases ref_cases hkv with rfl | ⟨_, rfl⟩ <;> rfl) ?_
  intro p e s m below meth c T0 hx hby hml hnm hret hlk hh W0
  refine g_aloadN (pc' := 1) W0.here hx (hb hby d_prog_3_2_0) rfl rfl rfl ?_
  refine g_nonnullY (pc' := 18) W0.here hx (hb hby d_prog_3_2_1) rfl ?_
  refine g_aloadN (pc' := 19) W0.here hx (hb hby d_prog_3_2_18) rfl rfl rfl ?_
  refine w_retA W0 hx hh hlk hret rfl rfl (hb hby d_prog_3_2_19) (Nat.le_of_ble_eq_true rfl) (Nat.le_of_ble_eq_true rfl) ?_
  exact ⟨rfl, rfl⟩
set_option maxRecDepth 65536 in
set_option maxHeartbeats 40000000 in
theorem c_law (l : Launch) (Z : State) (a0 : Array Value) (hw : ∀ d ∈ tables_1, d.before a0 Z = true) (hE : EW Z a0 consts_1) (cc : Int32) (fm : Value) (p0 p1 p2 p3 : Int32) (ic : Nat) (cl : Cell) (h0 : Heap) (O : Ext Z.heap h0) (G : SEnv Z cc fm) (S_h : Sta Z Z.heap "java/lang/Integer$IntegerCache" "high" "I" (.int 127)) (S_c : Sta Z Z.heap "java/lang/Integer$IntegerCache" "cache" "[Ljava/lang/Integer;" (.ref ic)) (AC : Arr Z Z.heap ic cl (.object "java/lang/Integer")) (hsz : cl.slots.size = 256) (hel : ∀ j : Int32, ¬ (j < 0 ∨ cl.slots.size ≤ j.toNatClampNeg) → ∃ b : Nat, cl.slots[j.toNatClampNeg]? = some (.ref b))  :
    ConL tables_1 l Z consts_1 x code maxLocals ret room_1 #[(.int p0), (.int p1), (.int p2), (.int p3)] h0 [] (fun v _ => v = some (.int 1)) := by
  refine Con.of (a0 := a0) #[.val (.int p0), .val (.int p1), .val (.int p2), .val (.int p3), .unset, .unset, .unset, .unset, .unset, .unset, .unset, .unset] (plainFor_of_name pn_5) hE O all0 (fun m => by first | (simp [entryFrame, mkF, argsToLocals, Value.category, maxLocals]; done) | rfl) ?_
  intro p e s m below meth c T0 hx hby hml hnm hret hlk hh W0
  refine g_iconst (2 : Int32) (pc' := 1) W0.here hx (hb hby at_0) rfl rfl ?_
  refine w_newarr (pc' := 3) (cap := 2) W0 hx (hw _ (List.mem_of_getElem? w_0)) (hb hby at_1) (by decide) (Nat.le_refl _) (Nat.le_of_ble_eq_true rfl) (Nat.le_of_ble_eq_true rfl) (Nat.le_of_ble_eq_true rfl) rfl rfl fun T51 h51 b51 g51 W51 K51 V51 => ?_
  have z_K51 : h0.size ≤ h51.size := K51.1
  have lt_b51 : b51 < h51.size := W51.lt (List.mem_cons_self ..)
  have V51 : Ary Z h51 b51 .char [(.int (0 : Int32)), (.int (0 : Int32))] := V51
  refine g_dup (pc' := 4) W51.here hx (hb hby at_3) rfl rfl ?_
  refine g_iconst (0 : Int32) (pc' := 5) W51.here hx (hb hby at_4) rfl rfl ?_
  refine g_iloadN (pc' := 6) W51.here hx (hb hby at_5) rfl rfl ?_
  refine g_sipush (255 : Int32) (pc' := 9) W51.here hx (hb hby at_6) rfl rfl ?_
  refine g_iand (pc' := 10) W51.here hx (hb hby at_9) rfl ?_
  refine g_i2c (pc' := 11) W51.here hx (hb hby at_10) rfl ?_
  obtain ⟨k0, hk0⟩ : ∃ zz_ : Int32, zz_ = ((p0 &&& (255 : Int32)).toUInt32.toUInt16.toUInt32.toInt32) := ⟨_, rfl⟩
  refine g_name (congrArg Value.int hk0) ?_
  have hl0 : 0 ≤ k0.toInt ∧ k0.toInt ≤ 255 := by rw [hk0]; exact own_byte _
  refine w_castore (pc' := 12) (x' := k0) W51 hx V51 (by decide) (Nat.lt_of_lt_of_le (Nat.lt_succ_self _) (Nat.le_of_ble_eq_true rfl)) (List.mem_of_getElem? (i := 0) rfl) (own_nchar (own_c16 hl0)) (hb hby at_11) rfl fun T52 h52 W52 K52 V52 => ?_
  have z_K52 : h51.size ≤ h52.size := K52.1
  have V52 : Ary Z h52 b51 .char [(.int k0), (.int (0 : Int32))] := V52
  refine g_dup (pc' := 13) W52.here hx (hb hby at_12) rfl rfl ?_
  refine g_iconst (1 : Int32) (pc' := 14) W52.here hx (hb hby at_13) rfl rfl ?_
  refine g_iloadN (pc' := 15) W52.here hx (hb hby at_14) rfl rfl ?_
  refine g_sipush (255 : Int32) (pc' := 18) W52.here hx (hb hby at_15) rfl rfl ?_
  refine g_iand (pc' := 19) W52.here hx (hb hby at_18) rfl ?_
  refine g_i2c (pc' := 20) W52.here hx (hb hby at_19) rfl ?_
  obtain ⟨k1, hk1⟩ : ∃ zz_ : Int32, zz_ = ((p1 &&& (255 : Int32)).toUInt32.toUInt16.toUInt32.toInt32) := ⟨_, rfl⟩
  refine g_name (congrArg Value.int hk1) ?_
  have hl1 : 0 ≤ k1.toInt ∧ k1.toInt ≤ 255 := by rw [hk1]; exact own_byte _
  refine w_castore (pc' := 21) (x' := k1) W52 hx V52 (by decide) (Nat.lt_of_lt_of_le (Nat.lt_succ_self _) (Nat.le_of_ble_eq_true rfl)) (List.mem_of_getElem? (i := 0) rfl) (own_nchar (own_c16 hl1)) (hb hby at_20) rfl fun T53 h53 W53 K53 V53 => ?_
  have z_K53 : h52.size ≤ h53.size := K53.1
  have V53 : Ary Z h53 b51 .char [(.int k0), (.int k1)] := V53
  refine g_astore (pc' := 23) (Ls' := #[.val (.int p0), .val (.int p1), .val (.int p2), .val (.int p3), .val (.ref b51), .unset, .unset, .unset, .unset, .unset, .unset, .unset]) W53.here hx (hb hby at_21) rfl rfl rfl ?_
  refine g_iconst (1 : Int32) (pc' := 24) W53.here hx (hb hby at_23) rfl rfl ?_
  refine w_newarr (pc' := 26) (cap := 1) W53 hx (hw _ (List.mem_of_getElem? w_0)) (hb hby at_24) (by decide) (Nat.le_refl _) (Nat.le_of_ble_eq_true rfl) (Nat.le_of_ble_eq_true rfl) (Nat.le_of_ble_eq_true rfl) rfl rfl fun T54 h54 b54 g54 W54 K54 V54 => ?_
  have z_K54 : h53.size ≤ h54.size := K54.1
  have ne_b51_b54 : b51 ≠ b54 := by omega
  have lt_b54 : b54 < h54.size := W54.lt (List.mem_cons_self ..)
  have V54 : Ary Z h54 b54 .char [(.int (0 : Int32))] := V54
  refine g_dup (pc' := 27) W54.here hx (hb hby at_26) rfl rfl ?_
  refine g_iconst (0 : Int32) (pc' := 28) W54.here hx (hb hby at_27) rfl rfl ?_
  refine g_iloadN (pc' := 29) W54.here hx (hb hby at_28) rfl rfl ?_
  refine g_sipush (255 : Int32) (pc' := 32) W54.here hx (hb hby at_29) rfl rfl ?_
  refine g_iand (pc' := 33) W54.here hx (hb hby at_32) rfl ?_
  refine g_i2c (pc' := 34) W54.here hx (hb hby at_33) rfl ?_
  obtain ⟨k2, hk2⟩ : ∃ zz_ : Int32, zz_ = ((p2 &&& (255 : Int32)).toUInt32.toUInt16.toUInt32.toInt32) := ⟨_, rfl⟩
  refine g_name (congrArg Value.int hk2) ?_
  have hl2 : 0 ≤ k2.toInt ∧ k2.toInt ≤ 255 := by rw [hk2]; exact own_byte _
  refine w_castore (pc' := 35) (x' := k2) W54 hx V54 (by decide) (Nat.lt_of_lt_of_le (Nat.lt_succ_self _) (Nat.le_of_ble_eq_true rfl)) (List.mem_of_getElem? (i := 0) rfl) (own_nchar (own_c16 hl2)) (hb hby at_34) rfl fun T55 h55 W55 K55 V55 => ?_
  have z_K55 : h54.size ≤ h55.size := K55.1
  have V55 : Ary Z h55 b54 .char [(.int k2)] := V55
  refine g_astore (pc' := 37) (Ls' := #[.val (.int p0), .val (.int p1), .val (.int p2), .val (.int p3), .val (.ref b51), .val (.ref b54), .unset, .unset, .unset, .unset, .unset, .unset]) W55.here hx (hb hby at_35) rfl rfl rfl ?_
  refine g_iconst (0 : Int32) (pc' := 38) W55.here hx (hb hby at_37) rfl rfl ?_
  refine w_newarr (pc' := 40) (cap := 0) W55 hx (hw _ (List.mem_of_getElem? w_0)) (hb hby at_38) (by decide) (Nat.le_refl _) (Nat.le_of_ble_eq_true rfl) (Nat.le_of_ble_eq_true rfl) (Nat.le_of_ble_eq_true rfl) rfl rfl fun T56 h56 b56 g56 W56 K56 V56 => ?_
  have z_K56 : h55.size ≤ h56.size := K56.1
  have ne_b51_b56 : b51 ≠ b56 := by omega
  have ne_b54_b56 : b54 ≠ b56 := by omega
  have lt_b56 : b56 < h56.size := W56.lt (List.mem_cons_self ..)
  have V56 : Ary Z h56 b56 .char [] := V56
  refine g_astore (pc' := 42) (Ls' := #[.val (.int p0), .val (.int p1), .val (.int p2), .val (.int p3), .val (.ref b51), .val (.ref b54), .val (.ref b56), .unset, .unset, .unset, .unset, .unset]) W56.here hx (hb hby at_40) rfl rfl rfl ?_
  refine g_iloadN (pc' := 43) W56.here hx (hb hby at_42) rfl rfl ?_
  refine g_iconst (3 : Int32) (pc' := 44) W56.here hx (hb hby at_43) rfl rfl ?_
  refine g_iand (pc' := 45) W56.here hx (hb hby at_44) rfl ?_
  refine g_istore (pc' := 47) (Ls' := #[.val (.int p0), .val (.int p1), .val (.int p2), .val (.int p3), .val (.ref b51), .val (.ref b54), .val (.ref b56), .unset, .val (.int (p3 &&& (3 : Int32))), .unset, .unset, .unset]) W56.here hx (hb hby at_45) rfl rfl ?_
  refine g_iload (pc' := 49) W56.here hx (hb hby at_47) rfl rfl ?_
  by_cases hc49_57 : (p3 &&& (3 : Int32)) = (0 : Int32)
  · refine g_ifN (pc' := 52) W56.here hx (hb hby at_49) rfl (teq hc49_57).2 ?_
    refine w_new (pc' := 55) W56 hx (hw _ (List.mem_of_getElem? w_12)) (hw _ (List.mem_of_getElem? w_13)) (hw _ (List.mem_of_getElem? w_14)) (hb hby at_52) (Nat.le_of_ble_eq_true rfl) (Nat.le_of_ble_eq_true rfl) rfl fun T58 h58 b58 g58 W58 K58 A58 D58 => ?_
    have z_K58 : h56.size ≤ h58.size := K58.1
    have ne_b51_b58 : b51 ≠ b58 := by omega
    have ne_b54_b58 : b54 ≠ b58 := by omega
    have ne_b56_b58 : b56 ≠ b58 := by omega
    have lt_b58 : b58 < h58.size := W58.lt (List.mem_cons_self ..)
    have F58_value : Fld Z h58 b58 "java/lang/String" "value" "[B" .null := D58 (Or.inr (hw _ (List.mem_of_getElem? w_27))) (ty := (.array .byte)) (by decide)
    have F58_coder : Fld Z h58 b58 "java/lang/String" "coder" "B" (.int (0 : Int32)) := D58 (Or.inr (hw _ (List.mem_of_getElem? w_28))) (ty := .byte) (by decide)
    refine g_dup (pc' := 56) W58.here hx (hb hby at_55) rfl rfl ?_
    refine g_aload (pc' := 58) W58.here hx (hb hby at_56) rfl rfl rfl ?_
    have c59 := ((((V53.keep K54 nin0).keep K55 (ninS ne_b51_b54 nin0)).keep K56 nin0).keep K58 nin0)
    refine w_special (pc' := 61) (st := [(.ref b58)]) (y := (⟨"java/lang/String", "<init>", "([C)V"⟩ : MethodName)) (a := b58) W58 hx [(.ref b51)] rfl (hw _ (List.mem_of_getElem? w_15)) (hw _ (List.mem_of_getElem? w_16)) (hw _ (List.mem_of_getElem? w_14)) (hw _ (List.mem_of_getElem? w_17)) (by decide) (c_strC l Z a0 hw hE cc fm b58 b51 [k0, k1] h58 W58.old G (Nat.le_of_ble_eq_true rfl) (own_allS hl0 (own_allS hl1 own_all0)) c59 (by have := O.1; omega) A58 _ _ F58_coder F58_value (Ne.symm ne_b51_b58)) (allS (List.mem_of_getElem? (i := 0) rfl) all0) (by rw [hml]; rfl) (lenOf pd_6 rfl) rfl (hb hby at_58) (Nat.le_of_ble_eq_true rfl) (Nat.le_of_ble_eq_true rfl) (Nat.le_of_ble_eq_true rfl) (Nat.le_of_ble_eq_true rfl) rfl fun v60 T60 h60 W60 K60 Q60 => ?_
    have z_K60 : h58.size ≤ h60.size := K60.1
    obtain ⟨rfl, sb61, S61⟩ := Q60
    have ES61 := S61.1
    have lt_sb61 : sb61 < h60.size := S61.ltb
    refine g_astore (pc' := 63) (Ls' := #[.val (.int p0), .val (.int p1), .val (.int p2), .val (.int p3), .val (.ref b51), .val (.ref b54), .val (.ref b56), .val (.ref b58), .val (.int (p3 &&& (3 : Int32))), .unset, .unset, .unset]) W60.here hx (hb hby at_61) rfl rfl rfl ?_
    refine g_goto (pc' := 114) W60.here hx (hb hby at_63) rfl ?_
    refine g_iloadN (pc' := 115) W60.here hx (hb hby at_114) rfl rfl ?_
    refine g_iconst (2 : Int32) (pc' := 116) W60.here hx (hb hby at_115) rfl rfl ?_
    refine g_iushr (pc' := 117) W60.here hx (hb hby at_116) rfl ?_
    refine g_iconst (3 : Int32) (pc' := 118) W60.here hx (hb hby at_117) rfl rfl ?_
    refine g_iand (pc' := 119) W60.here hx (hb hby at_118) rfl ?_
    refine g_istore (pc' := 121) (Ls' := #[.val (.int p0), .val (.int p1), .val (.int p2), .val (.int p3), .val (.ref b51), .val (.ref b54), .val (.ref b56), .val (.ref b58), .val (.int (p3 &&& (3 : Int32))), .unset, .val (.int (((p3.toUInt32 >>> ((2 : Int32) &&& 31).toUInt32).toInt32) &&& (3 : Int32))), .unset]) W60.here hx (hb hby at_119) rfl rfl ?_
    refine g_iload (pc' := 123) W60.here hx (hb hby at_121) rfl rfl ?_
    by_cases hc123_62 : (((p3.toUInt32 >>> ((2 : Int32) &&& 31).toUInt32).toInt32) &&& (3 : Int32)) = (0 : Int32)
    · refine g_ifN (pc' := 126) W60.here hx (hb hby at_123) rfl (teq hc123_62).2 ?_
      refine g_aconstNull (pc' := 127) W60.here hx (hb hby at_126) rfl ?_
      refine g_astore (pc' := 129) (Ls' := #[.val (.int p0), .val (.int p1), .val (.int p2), .val (.int p3), .val (.ref b51), .val (.ref b54), .val (.ref b56), .val (.ref b58), .val (.int (p3 &&& (3 : Int32))), .val .null, .val (.int (((p3.toUInt32 >>> ((2 : Int32) &&& 31).toUInt32).toInt32) &&& (3 : Int32))), .unset]) W60.here hx (hb hby at_127) rfl rfl rfl ?_
      refine g_goto (pc' := 163) W60.here hx (hb hby at_129) rfl ?_
      refine g_aload (pc' := 165) W60.here hx (hb hby at_163) rfl rfl rfl ?_
      refine g_aload (pc' := 167) W60.here hx (hb hby at_165) rfl rfl rfl ?_
      refine w_callSp (pc' := 170) (st := []) (y := (⟨"com/example/grapple/grapple/internal/Limits", "checkPresent", "(Ljava/lang/Object;Ljava/lang/String;)Ljava/lang/Object;"⟩ : MethodName)) W60 hx [(.ref b58), .null] (hw _ (List.mem_of_getElem? w_8)) (hw _ (List.mem_of_getElem? w_9)) (hw _ (List.mem_of_getElem? w_10)) (hw _ (List.mem_of_getElem? w_11)) (by decide) (c_present l Z a0 hw hE b58 .null h60 W60.old rfl) (by rw [hml]; rfl) (lenOf pd_7 rfl) rfl (hb hby at_167) (Nat.le_of_ble_eq_true rfl) (Nat.le_of_ble_eq_true rfl) rfl rfl (Nat.le_of_ble_eq_true rfl) (Nat.le_of_ble_eq_true rfl) rfl fun T63 W63 => ?_
      refine g_astore (pc' := 172) (Ls' := #[.val (.int p0), .val (.int p1), .val (.int p2), .val (.int p3), .val (.ref b51), .val (.ref b54), .val (.ref b56), .val (.ref b58), .val (.int (p3 &&& (3 : Int32))), .val .null, .val (.int (((p3.toUInt32 >>> ((2 : Int32) &&& 31).toUInt32).toInt32) &&& (3 : Int32))), .val (.ref b58)]) W63.here hx (hb hby at_170) rfl rfl rfl ?_
      refine g_aload (pc' := 174) W63.here hx (hb hby at_172) rfl rfl rfl ?_
      refine g_aload (pc' := 176) W63.here hx (hb hby at_174) rfl rfl rfl ?_
      refine w_acmp (pc' := 179) W63 hx rfl rfl true (hb hby at_176) (decide_eq_true rfl) (by decide) (by decide) ?_
      refine g_iconst (1 : Int32) (pc' := 180) W63.here hx (hb hby at_179) rfl rfl ?_
      refine g_goto (pc' := 184) W63.here hx (hb hby at_180) rfl ?_
      refine w_retN (t := .boolean) W63 hx hh hlk hret (by simp) (hb hby at_184) (Nat.le_of_ble_eq_true rfl) (Nat.le_of_ble_eq_true rfl) ?_
      exact rfl
    · refine g_ifY (pc' := 132) W60.here hx (hb hby at_123) rfl (feq hc123_62).2 ?_
      refine g_iload (pc' := 134) W60.here hx (hb hby at_132) rfl rfl ?_
      refine g_iconst (1 : Int32) (pc' := 135) W60.here hx (hb hby at_134) rfl rfl ?_
      by_cases hc135_64 : (((p3.toUInt32 >>> ((2 : Int32) &&& 31).toUInt32).toInt32) &&& (3 : Int32)) = (1 : Int32)
      · refine g_icmpN (pc' := 138) W60.here hx (hb hby at_135) rfl (teq hc135_64).2 ?_
        refine w_new (pc' := 141) W60 hx (hw _ (List.mem_of_getElem? w_12)) (hw _ (List.mem_of_getElem? w_13)) (hw _ (List.mem_of_getElem? w_14)) (hb hby at_138) (Nat.le_of_ble_eq_true rfl) (Nat.le_of_ble_eq_true rfl) rfl fun T65 h65 b65 g65 W65 K65 A65 D65 => ?_
        have z_K65 : h60.size ≤ h65.size := K65.1
        have ne_b51_b65 : b51 ≠ b65 := by omega
        have ne_b54_b65 : b54 ≠ b65 := by omega
        have ne_b56_b65 : b56 ≠ b65 := by omega
        have ne_b58_b65 : b58 ≠ b65 := by omega
        have ne_sb61_b65 : sb61 ≠ b65 := by omega
        have lt_b65 : b65 < h65.size := W65.lt (List.mem_cons_self ..)
        have F65_value : Fld Z h65 b65 "java/lang/String" "value" "[B" .null := D65 (Or.inr (hw _ (List.mem_of_getElem? w_27))) (ty := (.array .byte)) (by decide)
        have F65_coder : Fld Z h65 b65 "java/lang/String" "coder" "B" (.int (0 : Int32)) := D65 (Or.inr (hw _ (List.mem_of_getElem? w_28))) (ty := .byte) (by decide)
        refine g_dup (pc' := 142) W65.here hx (hb hby at_141) rfl rfl ?_
        refine g_aload (pc' := 144) W65.here hx (hb hby at_142) rfl rfl rfl ?_
        have c66 := (((V56.keep K58 nin0).keep K60 (ninS ne_b56_b58 nin0)).keep K65 nin0)
        refine w_special (pc' := 147) (st := [(.ref b65)]) (y := (⟨"java/lang/String", "<init>", "([C)V"⟩ : MethodName)) (a := b65) W65 hx [(.ref b56)] rfl (hw _ (List.mem_of_getElem? w_15)) (hw _ (List.mem_of_getElem? w_16)) (hw _ (List.mem_of_getElem? w_14)) (hw _ (List.mem_of_getElem? w_17)) (by decide) (c_strC l Z a0 hw hE cc fm b65 b56 [] h65 W65.old G (Nat.le_of_ble_eq_true rfl) own_all0 c66 (by have := O.1; omega) A65 _ _ F65_coder F65_value (Ne.symm ne_b56_b65)) (allS (List.mem_of_getElem? (i := 0) rfl) all0) (by rw [hml]; rfl) (lenOf pd_6 rfl) rfl (hb hby at_144) (Nat.le_of_ble_eq_true rfl) (Nat.le_of_ble_eq_true rfl) (Nat.le_of_ble_eq_true rfl) (Nat.le_of_ble_eq_true rfl) rfl fun v67 T67 h67 W67 K67 Q67 => ?_
        have z_K67 : h65.size ≤ h67.size := K67.1
        obtain ⟨rfl, sb68, S68⟩ := Q67
        have ES68 := S68.1
        have lt_sb68 : sb68 < h67.size := S68.ltb
        refine g_astore (pc' := 149) (Ls' := #[.val (.int p0), .val (.int p1), .val (.int p2), .val (.int p3), .val (.ref b51), .val (.ref b54), .val (.ref b56), .val (.ref b58), .val (.int (p3 &&& (3 : Int32))), .val (.ref b65), .val (.int (((p3.toUInt32 >>> ((2 : Int32) &&& 31).toUInt32).toInt32) &&& (3 : Int32))), .unset]) W67.here hx (hb hby at_147) rfl rfl rfl ?_
        refine g_goto (pc' := 163) W67.here hx (hb hby at_149) rfl ?_
        refine g_aload (pc' := 165) W67.here hx (hb hby at_163) rfl rfl rfl ?_
        refine g_aload (pc' := 167) W67.here hx (hb hby at_165) rfl rfl rfl ?_
        refine w_callSp (pc' := 170) (st := []) (y := (⟨"com/example/grapple/grapple/internal/Limits", "checkPresent", "(Ljava/lang/Object;Ljava/lang/String;)Ljava/lang/Object;"⟩ : MethodName)) W67 hx [(.ref b58), (.ref b65)] (hw _ (List.mem_of_getElem? w_8)) (hw _ (List.mem_of_getElem? w_9)) (hw _ (List.mem_of_getElem? w_10)) (hw _ (List.mem_of_getElem? w_11)) (by decide) (c_present l Z a0 hw hE b58 (.ref b65) h67 W67.old rfl) (by rw [hml]; rfl) (lenOf pd_7 rfl) rfl (hb hby at_167) (Nat.le_of_ble_eq_true rfl) (Nat.le_of_ble_eq_true rfl) rfl rfl (Nat.le_of_ble_eq_true rfl) (Nat.le_of_ble_eq_true rfl) rfl fun T69 W69 => ?_
        refine g_astore (pc' := 172) (Ls' := #[.val (.int p0), .val (.int p1), .val (.int p2), .val (.int p3), .val (.ref b51), .val (.ref b54), .val (.ref b56), .val (.ref b58), .val (.int (p3 &&& (3 : Int32))), .val (.ref b65), .val (.int (((p3.toUInt32 >>> ((2 : Int32) &&& 31).toUInt32).toInt32) &&& (3 : Int32))), .val (.ref b58)]) W69.here hx (hb hby at_170) rfl rfl rfl ?_
        refine g_aload (pc' := 174) W69.here hx (hb hby at_172) rfl rfl rfl ?_
        refine g_aload (pc' := 176) W69.here hx (hb hby at_174) rfl rfl rfl ?_
        refine w_acmp (pc' := 179) W69 hx rfl rfl true (hb hby at_176) (decide_eq_true rfl) (by decide) (by decide) ?_
        refine g_iconst (1 : Int32) (pc' := 180) W69.here hx (hb hby at_179) rfl rfl ?_
        refine g_goto (pc' := 184) W69.here hx (hb hby at_180) rfl ?_
        refine w_retN (t := .boolean) W69 hx hh hlk hret (by simp) (hb hby at_184) (Nat.le_of_ble_eq_true rfl) (Nat.le_of_ble_eq_true rfl) ?_
        exact rfl
      · refine g_icmpY (pc' := 152) W60.here hx (hb hby at_135) rfl (feq hc135_64).2 ?_
        refine w_new (pc' := 155) W60 hx (hw _ (List.mem_of_getElem? w_12)) (hw _ (List.mem_of_getElem? w_13)) (hw _ (List.mem_of_getElem? w_14)) (hb hby at_152) (Nat.le_of_ble_eq_true rfl) (Nat.le_of_ble_eq_true rfl) rfl fun T70 h70 b70 g70 W70 K70 A70 D70 => ?_
        have z_K70 : h60.size ≤ h70.size := K70.1
        have ne_b51_b70 : b51 ≠ b70 := by omega
        have ne_b54_b70 : b54 ≠ b70 := by omega
        have ne_b56_b70 : b56 ≠ b70 := by omega
        have ne_b58_b70 : b58 ≠ b70 := by omega
        have ne_sb61_b70 : sb61 ≠ b70 := by omega
        have lt_b70 : b70 < h70.size := W70.lt (List.mem_cons_self ..)
        have F70_value : Fld Z h70 b70 "java/lang/String" "value" "[B" .null := D70 (Or.inr (hw _ (List.mem_of_getElem? w_27))) (ty := (.array .byte)) (by decide)
        have F70_coder : Fld Z h70 b70 "java/lang/String" "coder" "B" (.int (0 : Int32)) := D70 (Or.inr (hw _ (List.mem_of_getElem? w_28))) (ty := .byte) (by decide)
        refine g_dup (pc' := 156) W70.here hx (hb hby at_155) rfl rfl ?_
        refine g_aload (pc' := 158) W70.here hx (hb hby at_156) rfl rfl rfl ?_
        have c71 := ((((V55.keep K56 nin0).keep K58 nin0).keep K60 (ninS ne_b54_b58 nin0)).keep K70 nin0)
        refine w_special (pc' := 161) (st := [(.ref b70)]) (y := (⟨"java/lang/String", "<init>", "([C)V"⟩ : MethodName)) (a := b70) W70 hx [(.ref b54)] rfl (hw _ (List.mem_of_getElem? w_15)) (hw _ (List.mem_of_getElem? w_16)) (hw _ (List.mem_of_getElem? w_14)) (hw _ (List.mem_of_getElem? w_17)) (by decide) (c_strC l Z a0 hw hE cc fm b70 b54 [k2] h70 W70.old G (Nat.le_of_ble_eq_true rfl) (own_allS hl2 own_all0) c71 (by have := O.1; omega) A70 _ _ F70_coder F70_value (Ne.symm ne_b54_b70)) (allS (List.mem_of_getElem? (i := 0) rfl) all0) (by rw [hml]; rfl) (lenOf pd_6 rfl) rfl (hb hby at_158) (Nat.le_of_ble_eq_true rfl) (Nat.le_of_ble_eq_true rfl) (Nat.le_of_ble_eq_true rfl) (Nat.le_of_ble_eq_true rfl) rfl fun v72 T72 h72 W72 K72 Q72 => ?_
        have z_K72 : h70.size ≤ h72.size := K72.1
        obtain ⟨rfl, sb73, S73⟩ := Q72
        have ES73 := S73.1
        have lt_sb73 : sb73 < h72.size := S73.ltb
        refine g_astore (pc' := 163) (Ls' := #[.val (.int p0), .val (.int p1), .val (.int p2), .val (.int p3), .val (.ref b51), .val (.ref b54), .val (.ref b56), .val (.ref b58), .val (.int (p3 &&& (3 : Int32))), .val (.ref b70), .val (.int (((p3.toUInt32 >>> ((2 : Int32) &&& 31).toUInt32).toInt32) &&& (3 : Int32))), .unset]) W72.here hx (hb hby at_161) rfl rfl rfl ?_
        refine g_aload (pc' := 165) W72.here hx (hb hby at_163) rfl rfl rfl ?_
        refine g_aload (pc' := 167) W72.here hx (hb hby at_165) rfl rfl rfl ?_
        refine w_callSp (pc' := 170) (st := []) (y := (⟨"com/example/grapple/grapple/internal/Limits", "checkPresent", "(Ljava/lang/Object;Ljava/lang/String;)Ljava/lang/Object;"⟩ : MethodName)) W72 hx [(.ref b58), (.ref b70)] (hw _ (List.mem_of_getElem? w_8)) (hw _ (List.mem_of_getElem? w_9)) (hw _ (List.mem_of_getElem? w_10)) (hw _ (List.mem_of_getElem? w_11)) (by decide) (c_present l Z a0 hw hE b58 (.ref b70) h72 W72.old rfl) (by rw [hml]; rfl) (lenOf pd_7 rfl) rfl (hb hby at_167) (Nat.le_of_ble_eq_true rfl) (Nat.le_of_ble_eq_true rfl) rfl rfl (Nat.le_of_ble_eq_true rfl) (Nat.le_of_ble_eq_true rfl) rfl fun T74 W74 => ?_
        refine g_astore (pc' := 172) (Ls' := #[.val (.int p0), .val (.int p1), .val (.int p2), .val (.int p3), .val (.ref b51), .val (.ref b54), .val (.ref b56), .val (.ref b58), .val (.int (p3 &&& (3 : Int32))), .val (.ref b70), .val (.int (((p3.toUInt32 >>> ((2 : Int32) &&& 31).toUInt32).toInt32) &&& (3 : Int32))), .val (.ref b58)]) W74.here hx (hb hby at_170) rfl rfl rfl ?_
        refine g_aload (pc' := 174) W74.here hx (hb hby at_172) rfl rfl rfl ?_
        refine g_aload (pc' := 176) W74.here hx (hb hby at_174) rfl rfl rfl ?_
        refine w_acmp (pc' := 179) W74 hx rfl rfl true (hb hby at_176) (decide_eq_true rfl) (by decide) (by decide) ?_
        refine g_iconst (1 : Int32) (pc' := 180) W74.here hx (hb hby at_179) rfl rfl ?_
        refine g_goto (pc' := 184) W74.here hx (hb hby at_180) rfl ?_
        refine w_retN (t := .boolean) W74 hx hh hlk hret (by simp) (hb hby at_184) (Nat.le_of_ble_eq_true rfl) (Nat.le_of_ble_eq_true rfl) ?_
        exact rfl
  · refine g_ifY (pc' := 66) W56.here hx (hb hby at_49) rfl (feq hc49_57).2 ?_
    refine g_iload (pc' := 68) W56.here hx (hb hby at_66) rfl rfl ?_
    refine g_iconst (1 : Int32) (pc' := 69) W56.here hx (hb hby at_68) rfl rfl ?_
    by_cases hc69_75 : (p3 &&& (3 : Int32)) = (1 : Int32)
    · refine g_icmpN (pc' := 72) W56.here hx (hb hby at_69) rfl (teq hc69_75).2 ?_
      refine g_iloadN (pc' := 73) W56.here hx (hb hby at_72) rfl rfl ?_
      refine w_callS (pc' := 76) (st := []) (y := (⟨"java/lang/Integer", "valueOf", "(I)Ljava/lang/Integer;"⟩ : MethodName)) W56 hx [(.int p0)] (hw _ (List.mem_of_getElem? w_1)) (hw _ (List.mem_of_getElem? w_2)) (hw _ (List.mem_of_getElem? w_3)) (hw _ (List.mem_of_getElem? w_4)) (by decide) (c_valueOfI l Z a0 hw hE p0 ic cl h56 W56.old S_h S_c AC hsz hel) all0 (by rw [hml]; rfl) (lenOf pd_8 rfl) rfl (hb hby at_73) (Nat.le_of_ble_eq_true rfl) (Nat.le_of_ble_eq_true rfl) (Nat.le_of_ble_eq_true rfl) (Nat.le_of_ble_eq_true rfl) rfl fun v76 T76 h76 W76 K76 Q76 => ?_
      have z_K76 : h56.size ≤ h76.size := K76.1
      obtain ⟨iv77, rfl⟩ := Q76
      refine g_astore (pc' := 78) (Ls' := #[.val (.int p0), .val (.int p1), .val (.int p2), .val (.int p3), .val (.ref b51), .val (.ref b54), .val (.ref b56), .val (.ref iv77), .val (.int (p3 &&& (3 : Int32))), .unset, .unset, .unset]) W76.here hx (hb hby at_76) rfl rfl rfl ?_
      refine g_goto (pc' := 114) W76.here hx (hb hby at_78) rfl ?_
      refine g_iloadN (pc' := 115) W76.here hx (hb hby at_114) rfl rfl ?_
      refine g_iconst (2 : Int32) (pc' := 116) W76.here hx (hb hby at_115) rfl rfl ?_
      refine g_iushr (pc' := 117) W76.here hx (hb hby at_116) rfl ?_
      refine g_iconst (3 : Int32) (pc' := 118) W76.here hx (hb hby at_117) rfl rfl ?_
      refine g_iand (pc' := 119) W76.here hx (hb hby at_118) rfl ?_
      refine g_istore (pc' := 121) (Ls' := #[.val (.int p0), .val (.int p1), .val (.int p2), .val (.int p3), .val (.ref b51), .val (.ref b54), .val (.ref b56), .val (.ref iv77), .val (.int (p3 &&& (3 : Int32))), .unset, .val (.int (((p3.toUInt32 >>> ((2 : Int32) &&& 31).toUInt32).toInt32) &&& (3 : Int32))), .unset]) W76.here hx (hb hby at_119) rfl rfl ?_
      refine g_iload (pc' := 123) W76.here hx (hb hby at_121) rfl rfl ?_
      by_cases hc123_78 : (((p3.toUInt32 >>> ((2 : Int32) &&& 31).toUInt32).toInt32) &&& (3 : Int32)) = (0 : Int32)
      · refine g_ifN (pc' := 126) W76.here hx (hb hby at_123) rfl (teq hc123_78).2 ?_
        refine g_aconstNull (pc' := 127) W76.here hx (hb hby at_126) rfl ?_
        refine g_astore (pc' := 129) (Ls' := #[.val (.int p0), .val (.int p1), .val (.int p2), .val (.int p3), .val (.ref b51), .val (.ref b54), .val (.ref b56), .val (.ref iv77), .val (.int (p3 &&& (3 : Int32))), .val .null, .val (.int (((p3.toUInt32 >>> ((2 : Int32) &&& 31).toUInt32).toInt32) &&& (3 : Int32))), .unset]) W76.here hx (hb hby at_127) rfl rfl rfl ?_
        refine g_goto (pc' := 163) W76.here hx (hb hby at_129) rfl ?_
        refine g_aload (pc' := 165) W76.here hx (hb hby at_163) rfl rfl rfl ?_
        refine g_aload (pc' := 167) W76.here hx (hb hby at_165) rfl rfl rfl ?_
        refine w_callSp (pc' := 170) (st := []) (y := (⟨"com/example/grapple/grapple/internal/Limits", "checkPresent", "(Ljava/lang/Object;Ljava/lang/String;)Ljava/lang/Object;"⟩ : MethodName)) W76 hx [(.ref iv77), .null] (hw _ (List.mem_of_getElem? w_8)) (hw _ (List.mem_of_getElem? w_9)) (hw _ (List.mem_of_getElem? w_10)) (hw _ (List.mem_of_getElem? w_11)) (by decide) (c_present l Z a0 hw hE iv77 .null h76 W76.old rfl) (by rw [hml]; rfl) (lenOf pd_7 rfl) rfl (hb hby at_167) (Nat.le_of_ble_eq_true rfl) (Nat.le_of_ble_eq_true rfl) rfl rfl (Nat.le_of_ble_eq_true rfl) (Nat.le_of_ble_eq_true rfl) rfl fun T79 W79 => ?_
        refine g_astore (pc' := 172) (Ls' := #[.val (.int p0), .val (.int p1), .val (.int p2), .val (.int p3), .val (.ref b51), .val (.ref b54), .val (.ref b56), .val (.ref iv77), .val (.int (p3 &&& (3 : Int32))), .val .null, .val (.int (((p3.toUInt32 >>> ((2 : Int32) &&& 31).toUInt32).toInt32) &&& (3 : Int32))), .val (.ref iv77)]) W79.here hx (hb hby at_170) rfl rfl rfl ?_
        refine g_aload (pc' := 174) W79.here hx (hb hby at_172) rfl rfl rfl ?_
        refine g_aload (pc' := 176) W79.here hx (hb hby at_174) rfl rfl rfl ?_
        refine w_acmp (pc' := 179) W79 hx rfl rfl true (hb hby at_176) (decide_eq_true rfl) (by decide) (by decide) ?_
        refine g_iconst (1 : Int32) (pc' := 180) W79.here hx (hb hby at_179) rfl rfl ?_
        refine g_goto (pc' := 184) W79.here hx (hb hby at_180) rfl ?_
        refine w_retN (t := .boolean) W79 hx hh hlk hret (by simp) (hb hby at_184) (Nat.le_of_ble_eq_true rfl) (Nat.le_of_ble_eq_true rfl) ?_
        exact rfl
      · refine g_ifY (pc' := 132) W76.here hx (hb hby at_123) rfl (feq hc123_78).2 ?_
        refine g_iload (pc' := 134) W76.here hx (hb hby at_132) rfl rfl ?_
        refine g_iconst (1 : Int32) (pc' := 135) W76.here hx (hb hby at_134) rfl rfl ?_
        by_cases hc135_80 : (((p3.toUInt32 >>> ((2 : Int32) &&& 31).toUInt32).toInt32) &&& (3 : Int32)) = (1 : Int32)
        · refine g_icmpN (pc' := 138) W76.here hx (hb hby at_135) rfl (teq hc135_80).2 ?_
          refine w_new (pc' := 141) W76 hx (hw _ (List.mem_of_getElem? w_12)) (hw _ (List.mem_of_getElem? w_13)) (hw _ (List.mem_of_getElem? w_14)) (hb hby at_138) (Nat.le_of_ble_eq_true rfl) (Nat.le_of_ble_eq_true rfl) rfl fun T81 h81 b81 g81 W81 K81 A81 D81 => ?_
          have z_K81 : h76.size ≤ h81.size := K81.1
          have ne_b51_b81 : b51 ≠ b81 := by omega
          have ne_b54_b81 : b54 ≠ b81 := by omega
          have ne_b56_b81 : b56 ≠ b81 := by omega
          have lt_b81 : b81 < h81.size := W81.lt (List.mem_cons_self ..)
          have F81_value : Fld Z h81 b81 "java/lang/String" "value" "[B" .null := D81 (Or.inr (hw _ (List.mem_of_getElem? w_27))) (ty := (.array .byte)) (by decide)
          have F81_coder : Fld Z h81 b81 "java/lang/String" "coder" "B" (.int (0 : Int32)) := D81 (Or.inr (hw _ (List.mem_of_getElem? w_28))) (ty := .byte) (by decide)
          refine g_dup (pc' := 142) W81.here hx (hb hby at_141) rfl rfl ?_
          refine g_aload (pc' := 144) W81.here hx (hb hby at_142) rfl rfl rfl ?_
          have c82 := ((V56.keep K76 nin0).keep K81 nin0)
          refine w_special (pc' := 147) (st := [(.ref b81)]) (y := (⟨"java/lang/String", "<init>", "([C)V"⟩ : MethodName)) (a := b81) W81 hx [(.ref b56)] rfl (hw _ (List.mem_of_getElem? w_15)) (hw _ (List.mem_of_getElem? w_16)) (hw _ (List.mem_of_getElem? w_14)) (hw _ (List.mem_of_getElem? w_17)) (by decide) (c_strC l Z a0 hw hE cc fm b81 b56 [] h81 W81.old G (Nat.le_of_ble_eq_true rfl) own_all0 c82 (by have := O.1; omega) A81 _ _ F81_coder F81_value (Ne.symm ne_b56_b81)) (allS (List.mem_of_getElem? (i := 0) rfl) all0) (by rw [hml]; rfl) (lenOf pd_6 rfl) rfl (hb hby at_144) (Nat.le_of_ble_eq_true rfl) (Nat.le_of_ble_eq_true rfl) (Nat.le_of_ble_eq_true rfl) (Nat.le_of_ble_eq_true rfl) rfl fun v83 T83 h83 W83 K83 Q83 => ?_
          have z_K83 : h81.size ≤ h83.size := K83.1
          obtain ⟨rfl, sb84, S84⟩ := Q83
          have ES84 := S84.1
          have lt_sb84 : sb84 < h83.size := S84.ltb
          refine g_astore (pc' := 149) (Ls' := #[.val (.int p0), .val (.int p1), .val (.int p2), .val (.int p3), .val (.ref b51), .val (.ref b54), .val (.ref b56), .val (.ref iv77), .val (.int (p3 &&& (3 : Int32))), .val (.ref b81), .val (.int (((p3.toUInt32 >>> ((2 : Int32) &&& 31).toUInt32).toInt32) &&& (3 : Int32))), .unset]) W83.here hx (hb hby at_147) rfl rfl rfl ?_
          refine g_goto (pc' := 163) W83.here hx (hb hby at_149) rfl ?_
          refine g_aload (pc' := 165) W83.here hx (hb hby at_163) rfl rfl rfl ?_
          refine g_aload (pc' := 167) W83.here hx (hb hby at_165) rfl rfl rfl ?_
          refine w_callSp (pc' := 170) (st := []) (y := (⟨"com/example/grapple/grapple/internal/Limits", "checkPresent", "(Ljava/lang/Object;Ljava/lang/String;)Ljava/lang/Object;"⟩ : MethodName)) W83 hx [(.ref iv77), (.ref b81)] (hw _ (List.mem_of_getElem? w_8)) (hw _ (List.mem_of_getElem? w_9)) (hw _ (List.mem_of_getElem? w_10)) (hw _ (List.mem_of_getElem? w_11)) (by decide) (c_present l Z a0 hw hE iv77 (.ref b81) h83 W83.old rfl) (by rw [hml]; rfl) (lenOf pd_7 rfl) rfl (hb hby at_167) (Nat.le_of_ble_eq_true rfl) (Nat.le_of_ble_eq_true rfl) rfl rfl (Nat.le_of_ble_eq_true rfl) (Nat.le_of_ble_eq_true rfl) rfl fun T85 W85 => ?_
          refine g_astore (pc' := 172) (Ls' := #[.val (.int p0), .val (.int p1), .val (.int p2), .val (.int p3), .val (.ref b51), .val (.ref b54), .val (.ref b56), .val (.ref iv77), .val (.int (p3 &&& (3 : Int32))), .val (.ref b81), .val (.int (((p3.toUInt32 >>> ((2 : Int32) &&& 31).toUInt32).toInt32) &&& (3 : Int32))), .val (.ref iv77)]) W85.here hx (hb hby at_170) rfl rfl rfl ?_
          refine g_aload (pc' := 174) W85.here hx (hb hby at_172) rfl rfl rfl ?_
          refine g_aload (pc' := 176) W85.here hx (hb hby at_174) rfl rfl rfl ?_
          refine w_acmp (pc' := 179) W85 hx rfl rfl true (hb hby at_176) (decide_eq_true rfl) (by decide) (by decide) ?_
          refine g_iconst (1 : Int32) (pc' := 180) W85.here hx (hb hby at_179) rfl rfl ?_
          refine g_goto (pc' := 184) W85.here hx (hb hby at_180) rfl ?_
          refine w_retN (t := .boolean) W85 hx hh hlk hret (by simp) (hb hby at_184) (Nat.le_of_ble_eq_true rfl) (Nat.le_of_ble_eq_true rfl) ?_
          exact rfl
        · refine g_icmpY (pc' := 152) W76.here hx (hb hby at_135) rfl (feq hc135_80).2 ?_
          refine w_new (pc' := 155) W76 hx (hw _ (List.mem_of_getElem? w_12)) (hw _ (List.mem_of_getElem? w_13)) (hw _ (List.mem_of_getElem? w_14)) (hb hby at_152) (Nat.le_of_ble_eq_true rfl) (Nat.le_of_ble_eq_true rfl) rfl fun T86 h86 b86 g86 W86 K86 A86 D86 => ?_
          have z_K86 : h76.size ≤ h86.size := K86.1
          have ne_b51_b86 : b51 ≠ b86 := by omega
          have ne_b54_b86 : b54 ≠ b86 := by omega
          have ne_b56_b86 : b56 ≠ b86 := by omega
          have lt_b86 : b86 < h86.size := W86.lt (List.mem_cons_self ..)
          have F86_value : Fld Z h86 b86 "java/lang/String" "value" "[B" .null := D86 (Or.inr (hw _ (List.mem_of_getElem? w_27))) (ty := (.array .byte)) (by decide)
          have F86_coder : Fld Z h86 b86 "java/lang/String" "coder" "B" (.int (0 : Int32)) := D86 (Or.inr (hw _ (List.mem_of_getElem? w_28))) (ty := .byte) (by decide)
          refine g_dup (pc' := 156) W86.here hx (hb hby at_155) rfl rfl ?_
          refine g_aload (pc' := 158) W86.here hx (hb hby at_156) rfl rfl rfl ?_
          have c87 := (((V55.keep K56 nin0).keep K76 nin0).keep K86 nin0)
          refine w_special (pc' := 161) (st := [(.ref b86)]) (y := (⟨"java/lang/String", "<init>", "([C)V"⟩ : MethodName)) (a := b86) W86 hx [(.ref b54)] rfl (hw _ (List.mem_of_getElem? w_15)) (hw _ (List.mem_of_getElem? w_16)) (hw _ (List.mem_of_getElem? w_14)) (hw _ (List.mem_of_getElem? w_17)) (by decide) (c_strC l Z a0 hw hE cc fm b86 b54 [k2] h86 W86.old G (Nat.le_of_ble_eq_true rfl) (own_allS hl2 own_all0) c87 (by have := O.1; omega) A86 _ _ F86_coder F86_value (Ne.symm ne_b54_b86)) (allS (List.mem_of_getElem? (i := 0) rfl) all0) (by rw [hml]; rfl) (lenOf pd_6 rfl) rfl (hb hby at_158) (Nat.le_of_ble_eq_true rfl) (Nat.le_of_ble_eq_true rfl) (Nat.le_of_ble_eq_true rfl) (Nat.le_of_ble_eq_true rfl) rfl fun v88 T88 h88 W88 K88 Q88 => ?_
          have z_K88 : h86.size ≤ h88.size := K88.1
          obtain ⟨rfl, sb89, S89⟩ := Q88
          have ES89 := S89.1
          have lt_sb89 : sb89 < h88.size := S89.ltb
          refine g_astore (pc' := 163) (Ls' := #[.val (.int p0), .val (.int p1), .val (.int p2), .val (.int p3), .val (.ref b51), .val (.ref b54), .val (.ref b56), .val (.ref iv77), .val (.int (p3 &&& (3 : Int32))), .val (.ref b86), .val (.int (((p3.toUInt32 >>> ((2 : Int32) &&& 31).toUInt32).toInt32) &&& (3 : Int32))), .unset]) W88.here hx (hb hby at_161) rfl rfl rfl ?_
          refine g_aload (pc' := 165) W88.here hx (hb hby at_163) rfl rfl rfl ?_
          refine g_aload (pc' := 167) W88.here hx (hb hby at_165) rfl rfl rfl ?_
          refine w_callSp (pc' := 170) (st := []) (y := (⟨"com/example/grapple/grapple/internal/Limits", "checkPresent", "(Ljava/lang/Object;Ljava/lang/String;)Ljava/lang/Object;"⟩ : MethodName)) W88 hx [(.ref iv77), (.ref b86)] (hw _ (List.mem_of_getElem? w_8)) (hw _ (List.mem_of_getElem? w_9)) (hw _ (List.mem_of_getElem? w_10)) (hw _ (List.mem_of_getElem? w_11)) (by decide) (c_present l Z a0 hw hE iv77 (.ref b86) h88 W88.old rfl) (by rw [hml]; rfl) (lenOf pd_7 rfl) rfl (hb hby at_167) (Nat.le_of_ble_eq_true rfl) (Nat.le_of_ble_eq_true rfl) rfl rfl (Nat.le_of_ble_eq_true rfl) (Nat.le_of_ble_eq_true rfl) rfl fun T90 W90 => ?_
          refine g_astore (pc' := 172) (Ls' := #[.val (.int p0), .val (.int p1), .val (.int p2), .val (.int p3), .val (.ref b51), .val (.ref b54), .val (.ref b56), .val (.ref iv77), .val (.int (p3 &&& (3 : Int32))), .val (.ref b86), .val (.int (((p3.toUInt32 >>> ((2 : Int32) &&& 31).toUInt32).toInt32) &&& (3 : Int32))), .val (.ref iv77)]) W90.here hx (hb hby at_170) rfl rfl rfl ?_
          refine g_aload (pc' := 174) W90.here hx (hb hby at_172) rfl rfl rfl ?_
          refine g_aload (pc' := 176) W90.here hx (hb hby at_174) rfl rfl rfl ?_
          refine w_acmp (pc' := 179) W90 hx rfl rfl true (hb hby at_176) (decide_eq_true rfl) (by decide) (by decide) ?_
          refine g_iconst (1 : Int32) (pc' := 180) W90.here hx (hb hby at_179) rfl rfl ?_
          refine g_goto (pc' := 184) W90.here hx (hb hby at_180) rfl ?_
          refine w_retN (t := .boolean) W90 hx hh hlk hret (by simp) (hb hby at_184) (Nat.le_of_ble_eq_true rfl) (Nat.le_of_ble_eq_true rfl) ?_
          exact rfl
    · refine g_icmpY (pc' := 81) W56.here hx (hb hby at_69) rfl (feq hc69_75).2 ?_
      refine g_iload (pc' := 83) W56.here hx (hb hby at_81) rfl rfl ?_
      refine g_iconst (2 : Int32) (pc' := 84) W56.here hx (hb hby at_83) rfl rfl ?_
      by_cases hc84_91 : (p3 &&& (3 : Int32)) = (2 : Int32)
      · refine g_icmpN (pc' := 87) W56.here hx (hb hby at_84) rfl (teq hc84_91).2 ?_
        refine w_new (pc' := 90) W56 hx (hw _ (List.mem_of_getElem? w_12)) (hw _ (List.mem_of_getElem? w_13)) (hw _ (List.mem_of_getElem? w_14)) (hb hby at_87) (Nat.le_of_ble_eq_true rfl) (Nat.le_of_ble_eq_true rfl) rfl fun T92 h92 b92 g92 W92 K92 A92 D92 => ?_
        have z_K92 : h56.size ≤ h92.size := K92.1
        have ne_b51_b92 : b51 ≠ b92 := by omega
        have ne_b54_b92 : b54 ≠ b92 := by omega
        have ne_b56_b92 : b56 ≠ b92 := by omega
        have lt_b92 : b92 < h92.size := W92.lt (List.mem_cons_self ..)
        have F92_value : Fld Z h92 b92 "java/lang/String" "value" "[B" .null := D92 (Or.inr (hw _ (List.mem_of_getElem? w_27))) (ty := (.array .byte)) (by decide)
        have F92_coder : Fld Z h92 b92 "java/lang/String" "coder" "B" (.int (0 : Int32)) := D92 (Or.inr (hw _ (List.mem_of_getElem? w_28))) (ty := .byte) (by decide)
        refine g_dup (pc' := 91) W92.here hx (hb hby at_90) rfl rfl ?_
        refine g_aload (pc' := 93) W92.here hx (hb hby at_91) rfl rfl rfl ?_
        have c93 := (V56.keep K92 nin0)
        refine w_special (pc' := 96) (st := [(.ref b92)]) (y := (⟨"java/lang/String", "<init>", "([C)V"⟩ : MethodName)) (a := b92) W92 hx [(.ref b56)] rfl (hw _ (List.mem_of_getElem? w_15)) (hw _ (List.mem_of_getElem? w_16)) (hw _ (List.mem_of_getElem? w_14)) (hw _ (List.mem_of_getElem? w_17)) (by decide) (c_strC l Z a0 hw hE cc fm b92 b56 [] h92 W92.old G (Nat.le_of_ble_eq_true rfl) own_all0 c93 (by have := O.1; omega) A92 _ _ F92_coder F92_value (Ne.symm ne_b56_b92)) (allS (List.mem_of_getElem? (i := 0) rfl) all0) (by rw [hml]; rfl) (lenOf pd_6 rfl) rfl (hb hby at_93) (Nat.le_of_ble_eq_true rfl) (Nat.le_of_ble_eq_true rfl) (Nat.le_of_ble_eq_true rfl) (Nat.le_of_ble_eq_true rfl) rfl fun v94 T94 h94 W94 K94 Q94 => ?_
        have z_K94 : h92.size ≤ h94.size := K94.1
        obtain ⟨rfl, sb95, S95⟩ := Q94
        have ES95 := S95.1
        have lt_sb95 : sb95 < h94.size := S95.ltb
        refine g_astore (pc' := 98) (Ls' := #[.val (.int p0), .val (.int p1), .val (.int p2), .val (.int p3), .val (.ref b51), .val (.ref b54), .val (.ref b56), .val (.ref b92), .val (.int (p3 &&& (3 : Int32))), .unset, .unset, .unset]) W94.here hx (hb hby at_96) rfl rfl rfl ?_
        refine g_goto (pc' := 114) W94.here hx (hb hby at_98) rfl ?_
        refine g_iloadN (pc' := 115) W94.here hx (hb hby at_114) rfl rfl ?_
        refine g_iconst (2 : Int32) (pc' := 116) W94.here hx (hb hby at_115) rfl rfl ?_
        refine g_iushr (pc' := 117) W94.here hx (hb hby at_116) rfl ?_
        refine g_iconst (3 : Int32) (pc' := 118) W94.here hx (hb hby at_117) rfl rfl ?_
        refine g_iand (pc' := 119) W94.here hx (hb hby at_118) rfl ?_
        refine g_istore (pc' := 121) (Ls' := #[.val (.int p0), .val (.int p1), .val (.int p2), .val (.int p3), .val (.ref b51), .val (.ref b54), .val (.ref b56), .val (.ref b92), .val (.int (p3 &&& (3 : Int32))), .unset, .val (.int (((p3.toUInt32 >>> ((2 : Int32) &&& 31).toUInt32).toInt32) &&& (3 : Int32))), .unset]) W94.here hx (hb hby at_119) rfl rfl ?_
        refine g_iload (pc' := 123) W94.here hx (hb hby at_121) rfl rfl ?_
        by_cases hc123_96 : (((p3.toUInt32 >>> ((2 : Int32) &&& 31).toUInt32).toInt32) &&& (3 : Int32)) = (0 : Int32)
        · refine g_ifN (pc' := 126) W94.here hx (hb hby at_123) rfl (teq hc123_96).2 ?_
          refine g_aconstNull (pc' := 127) W94.here hx (hb hby at_126) rfl ?_
          refine g_astore (pc' := 129) (Ls' := #[.val (.int p0), .val (.int p1), .val (.int p2), .val (.int p3), .val (.ref b51), .val (.ref b54), .val (.ref b56), .val (.ref b92), .val (.int (p3 &&& (3 : Int32))), .val .null, .val (.int (((p3.toUInt32 >>> ((2 : Int32) &&& 31).toUInt32).toInt32) &&& (3 : Int32))), .unset]) W94.here hx (hb hby at_127) rfl rfl rfl ?_
          refine g_goto (pc' := 163) W94.here hx (hb hby at_129) rfl ?_
          refine g_aload (pc' := 165) W94.here hx (hb hby at_163) rfl rfl rfl ?_
          refine g_aload (pc' := 167) W94.here hx (hb hby at_165) rfl rfl rfl ?_
          refine w_callSp (pc' := 170) (st := []) (y := (⟨"com/example/grapple/grapple/internal/Limits", "checkPresent", "(Ljava/lang/Object;Ljava/lang/String;)Ljava/lang/Object;"⟩ : MethodName)) W94 hx [(.ref b92), .null] (hw _ (List.mem_of_getElem? w_8)) (hw _ (List.mem_of_getElem? w_9)) (hw _ (List.mem_of_getElem? w_10)) (hw _ (List.mem_of_getElem? w_11)) (by decide) (c_present l Z a0 hw hE b92 .null h94 W94.old rfl) (by rw [hml]; rfl) (lenOf pd_7 rfl) rfl (hb hby at_167) (Nat.le_of_ble_eq_true rfl) (Nat.le_of_ble_eq_true rfl) rfl rfl (Nat.le_of_ble_eq_true rfl) (Nat.le_of_ble_eq_true rfl) rfl fun T97 W97 => ?_
          refine g_astore (pc' := 172) (Ls' := #[.val (.int p0), .val (.int p1), .val (.int p2), .val (.int p3), .val (.ref b51), .val (.ref b54), .val (.ref b56), .val (.ref b92), .val (.int (p3 &&& (3 : Int32))), .val .null, .val (.int (((p3.toUInt32 >>> ((2 : Int32) &&& 31).toUInt32).toInt32) &&& (3 : Int32))), .val (.ref b92)]) W97.here hx (hb hby at_170) rfl rfl rfl ?_
          refine g_aload (pc' := 174) W97.here hx (hb hby at_172) rfl rfl rfl ?_
          refine g_aload (pc' := 176) W97.here hx (hb hby at_174) rfl rfl rfl ?_
          refine w_acmp (pc' := 179) W97 hx rfl rfl true (hb hby at_176) (decide_eq_true rfl) (by decide) (by decide) ?_
          refine g_iconst (1 : Int32) (pc' := 180) W97.here hx (hb hby at_179) rfl rfl ?_
          refine g_goto (pc' := 184) W97.here hx (hb hby at_180) rfl ?_
          refine w_retN (t := .boolean) W97 hx hh hlk hret (by simp) (hb hby at_184) (Nat.le_of_ble_eq_true rfl) (Nat.le_of_ble_eq_true rfl) ?_
          exact rfl
        · refine g_ifY (pc' := 132) W94.here hx (hb hby at_123) rfl (feq hc123_96).2 ?_
          refine g_iload (pc' := 134) W94.here hx (hb hby at_132) rfl rfl ?_
          refine g_iconst (1 : Int32) (pc' := 135) W94.here hx (hb hby at_134) rfl rfl ?_
          by_cases hc135_98 : (((p3.toUInt32 >>> ((2 : Int32) &&& 31).toUInt32).toInt32) &&& (3 : Int32)) = (1 : Int32)
          · refine g_icmpN (pc' := 138) W94.here hx (hb hby at_135) rfl (teq hc135_98).2 ?_
            refine w_new (pc' := 141) W94 hx (hw _ (List.mem_of_getElem? w_12)) (hw _ (List.mem_of_getElem? w_13)) (hw _ (List.mem_of_getElem? w_14)) (hb hby at_138) (Nat.le_of_ble_eq_true rfl) (Nat.le_of_ble_eq_true rfl) rfl fun T99 h99 b99 g99 W99 K99 A99 D99 => ?_
            have z_K99 : h94.size ≤ h99.size := K99.1
            have ne_b51_b99 : b51 ≠ b99 := by omega
            have ne_b54_b99 : b54 ≠ b99 := by omega
            have ne_b56_b99 : b56 ≠ b99 := by omega
            have ne_b92_b99 : b92 ≠ b99 := by omega
            have ne_sb95_b99 : sb95 ≠ b99 := by omega
            have lt_b99 : b99 < h99.size := W99.lt (List.mem_cons_self ..)
            have F99_value : Fld Z h99 b99 "java/lang/String" "value" "[B" .null := D99 (Or.inr (hw _ (List.mem_of_getElem? w_27))) (ty := (.array .byte)) (by decide)
            have F99_coder : Fld Z h99 b99 "java/lang/String" "coder" "B" (.int (0 : Int32)) := D99 (Or.inr (hw _ (List.mem_of_getElem? w_28))) (ty := .byte) (by decide)
            refine g_dup (pc' := 142) W99.here hx (hb hby at_141) rfl rfl ?_
            refine g_aload (pc' := 144) W99.here hx (hb hby at_142) rfl rfl rfl ?_
            have c100 := ((c93.keep K94 (ninS ne_b56_b92 nin0)).keep K99 nin0)
            refine w_special (pc' := 147) (st := [(.ref b99)]) (y := (⟨"java/lang/String", "<init>", "([C)V"⟩ : MethodName)) (a := b99) W99 hx [(.ref b56)] rfl (hw _ (List.mem_of_getElem? w_15)) (hw _ (List.mem_of_getElem? w_16)) (hw _ (List.mem_of_getElem? w_14)) (hw _ (List.mem_of_getElem? w_17)) (by decide) (c_strC l Z a0 hw hE cc fm b99 b56 [] h99 W99.old G (Nat.le_of_ble_eq_true rfl) own_all0 c100 (by have := O.1; omega) A99 _ _ F99_coder F99_value (Ne.symm ne_b56_b99)) (allS (List.mem_of_getElem? (i := 0) rfl) all0) (by rw [hml]; rfl) (lenOf pd_6 rfl) rfl (hb hby at_144) (Nat.le_of_ble_eq_true rfl) (Nat.le_of_ble_eq_true rfl) (Nat.le_of_ble_eq_true rfl) (Nat.le_of_ble_eq_true rfl) rfl fun v101 T101 h101 W101 K101 Q101 => ?_
            have z_K101 : h99.size ≤ h101.size := K101.1
            obtain ⟨rfl, sb102, S102⟩ := Q101
            have ES102 := S102.1
            have lt_sb102 : sb102 < h101.size := S102.ltb
            refine g_astore (pc' := 149) (Ls' := #[.val (.int p0), .val (.int p1), .val (.int p2), .val (.int p3), .val (.ref b51), .val (.ref b54), .val (.ref b56), .val (.ref b92), .val (.int (p3 &&& (3 : Int32))), .val (.ref b99), .val (.int (((p3.toUInt32 >>> ((2 : Int32) &&& 31).toUInt32).toInt32) &&& (3 : Int32))), .unset]) W101.here hx (hb hby at_147) rfl rfl rfl ?_
            refine g_goto (pc' := 163) W101.here hx (hb hby at_149) rfl ?_
            refine g_aload (pc' := 165) W101.here hx (hb hby at_163) rfl rfl rfl ?_
            refine g_aload (pc' := 167) W101.here hx (hb hby at_165) rfl rfl rfl ?_
            refine w_callSp (pc' := 170) (st := []) (y := (⟨"com/example/grapple/grapple/internal/Limits", "checkPresent", "(Ljava/lang/Object;Ljava/lang/String;)Ljava/lang/Object;"⟩ : MethodName)) W101 hx [(.ref b92), (.ref b99)] (hw _ (List.mem_of_getElem? w_8)) (hw _ (List.mem_of_getElem? w_9)) (hw _ (List.mem_of_getElem? w_10)) (hw _ (List.mem_of_getElem? w_11)) (by decide) (c_present l Z a0 hw hE b92 (.ref b99) h101 W101.old rfl) (by rw [hml]; rfl) (lenOf pd_7 rfl) rfl (hb hby at_167) (Nat.le_of_ble_eq_true rfl) (Nat.le_of_ble_eq_true rfl) rfl rfl (Nat.le_of_ble_eq_true rfl) (Nat.le_of_ble_eq_true rfl) rfl fun T103 W103 => ?_
            refine g_astore (pc' := 172) (Ls' := #[.val (.int p0), .val (.int p1), .val (.int p2), .val (.int p3), .val (.ref b51), .val (.ref b54), .val (.ref b56), .val (.ref b92), .val (.int (p3 &&& (3 : Int32))), .val (.ref b99), .val (.int (((p3.toUInt32 >>> ((2 : Int32) &&& 31).toUInt32).toInt32) &&& (3 : Int32))), .val (.ref b92)]) W103.here hx (hb hby at_170) rfl rfl rfl ?_
            refine g_aload (pc' := 174) W103.here hx (hb hby at_172) rfl rfl rfl ?_
            refine g_aload (pc' := 176) W103.here hx (hb hby at_174) rfl rfl rfl ?_
            refine w_acmp (pc' := 179) W103 hx rfl rfl true (hb hby at_176) (decide_eq_true rfl) (by decide) (by decide) ?_
            refine g_iconst (1 : Int32) (pc' := 180) W103.here hx (hb hby at_179) rfl rfl ?_
            refine g_goto (pc' := 184) W103.here hx (hb hby at_180) rfl ?_
            refine w_retN (t := .boolean) W103 hx hh hlk hret (by simp) (hb hby at_184) (Nat.le_of_ble_eq_true rfl) (Nat.le_of_ble_eq_true rfl) ?_
            exact rfl
          · refine g_icmpY (pc' := 152) W94.here hx (hb hby at_135) rfl (feq hc135_98).2 ?_
            refine w_new (pc' := 155) W94 hx (hw _ (List.mem_of_getElem? w_12)) (hw _ (List.mem_of_getElem? w_13)) (hw _ (List.mem_of_getElem? w_14)) (hb hby at_152) (Nat.le_of_ble_eq_true rfl) (Nat.le_of_ble_eq_true rfl) rfl fun T104 h104 b104 g104 W104 K104 A104 D104 => ?_
            have z_K104 : h94.size ≤ h104.size := K104.1
            have ne_b51_b104 : b51 ≠ b104 := by omega
            have ne_b54_b104 : b54 ≠ b104 := by omega
            have ne_b56_b104 : b56 ≠ b104 := by omega
            have ne_b92_b104 : b92 ≠ b104 := by omega
            have ne_sb95_b104 : sb95 ≠ b104 := by omega
            have lt_b104 : b104 < h104.size := W104.lt (List.mem_cons_self ..)
            have F104_value : Fld Z h104 b104 "java/lang/String" "value" "[B" .null := D104 (Or.inr (hw _ (List.mem_of_getElem? w_27))) (ty := (.array .byte)) (by decide)
            have F104_coder : Fld Z h104 b104 "java/lang/String" "coder" "B" (.int (0 : Int32)) := D104 (Or.inr (hw _ (List.mem_of_getElem? w_28))) (ty := .byte) (by decide)
            refine g_dup (pc' := 156) W104.here hx (hb hby at_155) rfl rfl ?_
            refine g_aload (pc' := 158) W104.here hx (hb hby at_156) rfl rfl rfl ?_
            have c105 := ((((V55.keep K56 nin0).keep K92 nin0).keep K94 (ninS ne_b54_b92 nin0)).keep K104 nin0)
            refine w_special (pc' := 161) (st := [(.ref b104)]) (y := (⟨"java/lang/String", "<init>", "([C)V"⟩ : MethodName)) (a := b104) W104 hx [(.ref b54)] rfl (hw _ (List.mem_of_getElem? w_15)) (hw _ (List.mem_of_getElem? w_16)) (hw _ (List.mem_of_getElem? w_14)) (hw _ (List.mem_of_getElem? w_17)) (by decide) (c_strC l Z a0 hw hE cc fm b104 b54 [k2] h104 W104.old G (Nat.le_of_ble_eq_true rfl) (own_allS hl2 own_all0) c105 (by have := O.1; omega) A104 _ _ F104_coder F104_value (Ne.symm ne_b54_b104)) (allS (List.mem_of_getElem? (i := 0) rfl) all0) (by rw [hml]; rfl) (lenOf pd_6 rfl) rfl (hb hby at_158) (Nat.le_of_ble_eq_true rfl) (Nat.le_of_ble_eq_true rfl) (Nat.le_of_ble_eq_true rfl) (Nat.le_of_ble_eq_true rfl) rfl fun v106 T106 h106 W106 K106 Q106 => ?_
            have z_K106 : h104.size ≤ h106.size := K106.1
            obtain ⟨rfl, sb107, S107⟩ := Q106
            have ES107 := S107.1
            have lt_sb107 : sb107 < h106.size := S107.ltb
            refine g_astore (pc' := 163) (Ls' := #[.val (.int p0), .val (.int p1), .val (.int p2), .val (.int p3), .val (.ref b51), .val (.ref b54), .val (.ref b56), .val (.ref b92), .val (.int (p3 &&& (3 : Int32))), .val (.ref b104), .val (.int (((p3.toUInt32 >>> ((2 : Int32) &&& 31).toUInt32).toInt32) &&& (3 : Int32))), .unset]) W106.here hx (hb hby at_161) rfl rfl rfl ?_
            refine g_aload (pc' := 165) W106.here hx (hb hby at_163) rfl rfl rfl ?_
            refine g_aload (pc' := 167) W106.here hx (hb hby at_165) rfl rfl rfl ?_
            refine w_callSp (pc' := 170) (st := []) (y := (⟨"com/example/grapple/grapple/internal/Limits", "checkPresent", "(Ljava/lang/Object;Ljava/lang/String;)Ljava/lang/Object;"⟩ : MethodName)) W106 hx [(.ref b92), (.ref b104)] (hw _ (List.mem_of_getElem? w_8)) (hw _ (List.mem_of_getElem? w_9)) (hw _ (List.mem_of_getElem? w_10)) (hw _ (List.mem_of_getElem? w_11)) (by decide) (c_present l Z a0 hw hE b92 (.ref b104) h106 W106.old rfl) (by rw [hml]; rfl) (lenOf pd_7 rfl) rfl (hb hby at_167) (Nat.le_of_ble_eq_true rfl) (Nat.le_of_ble_eq_true rfl) rfl rfl (Nat.le_of_ble_eq_true rfl) (Nat.le_of_ble_eq_true rfl) rfl fun T108 W108 => ?_
            refine g_astore (pc' := 172) (Ls' := #[.val (.int p0), .val (.int p1), .val (.int p2), .val (.int p3), .val (.ref b51), .val (.ref b54), .val (.ref b56), .val (.ref b92), .val (.int (p3 &&& (3 : Int32))), .val (.ref b104), .val (.int (((p3.toUInt32 >>> ((2 : Int32) &&& 31).toUInt32).toInt32) &&& (3 : Int32))), .val (.ref b92)]) W108.here hx (hb hby at_170) rfl rfl rfl ?_
            refine g_aload (pc' := 174) W108.here hx (hb hby at_172) rfl rfl rfl ?_
            refine g_aload (pc' := 176) W108.here hx (hb hby at_174) rfl rfl rfl ?_
            refine w_acmp (pc' := 179) W108 hx rfl rfl true (hb hby at_176) (decide_eq_true rfl) (by decide) (by decide) ?_
            refine g_iconst (1 : Int32) (pc' := 180) W108.here hx (hb hby at_179) rfl rfl ?_
            refine g_goto (pc' := 184) W108.here hx (hb hby at_180) rfl ?_
            refine w_retN (t := .boolean) W108 hx hh hlk hret (by simp) (hb hby at_184) (Nat.le_of_ble_eq_true rfl) (Nat.le_of_ble_eq_true rfl) ?_
            exact rfl
      · refine g_icmpY (pc' := 101) W56.here hx (hb hby at_84) rfl (feq hc84_91).2 ?_
        refine g_iconst (2 : Int32) (pc' := 102) W56.here hx (hb hby at_101) rfl rfl ?_
        refine w_newarr (pc' := 104) (cap := 2) W56 hx (hw _ (List.mem_of_getElem? w_44)) (hb hby at_102) (by decide) (Nat.le_refl _) (Nat.le_of_ble_eq_true rfl) (Nat.le_of_ble_eq_true rfl) (Nat.le_of_ble_eq_true rfl) rfl rfl fun T109 h109 b109 g109 W109 K109 V109 => ?_
        have z_K109 : h56.size ≤ h109.size := K109.1
        have ne_b51_b109 : b51 ≠ b109 := by omega
        have ne_b54_b109 : b54 ≠ b109 := by omega
        have ne_b56_b109 : b56 ≠ b109 := by omega
        have lt_b109 : b109 < h109.size := W109.lt (List.mem_cons_self ..)
        have V109 : Ary Z h109 b109 .int [(.int (0 : Int32)), (.int (0 : Int32))] := V109
        refine g_dup (pc' := 105) W109.here hx (hb hby at_104) rfl rfl ?_
        refine g_iconst (0 : Int32) (pc' := 106) W109.here hx (hb hby at_105) rfl rfl ?_
        refine g_iloadN (pc' := 107) W109.here hx (hb hby at_106) rfl rfl ?_
        refine w_iastore (pc' := 108) W109 hx V109 (by decide) (Nat.lt_of_lt_of_le (Nat.lt_succ_self _) (Nat.le_of_ble_eq_true rfl)) (List.mem_of_getElem? (i := 0) rfl) (hb hby at_107) rfl fun T110 h110 W110 K110 V110 => ?_
        have z_K110 : h109.size ≤ h110.size := K110.1
        have V110 : Ary Z h110 b109 .int [(.int p0), (.int (0 : Int32))] := V110
        refine g_dup (pc' := 109) W110.here hx (hb hby at_108) rfl rfl ?_
        refine g_iconst (1 : Int32) (pc' := 110) W110.here hx (hb hby at_109) rfl rfl ?_
        refine g_iloadN (pc' := 111) W110.here hx (hb hby at_110) rfl rfl ?_
        refine w_iastore (pc' := 112) W110 hx V110 (by decide) (Nat.lt_of_lt_of_le (Nat.lt_succ_self _) (Nat.le_of_ble_eq_true rfl)) (List.mem_of_getElem? (i := 0) rfl) (hb hby at_111) rfl fun T111 h111 W111 K111 V111 => ?_
        have z_K111 : h110.size ≤ h111.size := K111.1
        have V111 : Ary Z h111 b109 .int [(.int p0), (.int p1)] := V111
        refine g_astore (pc' := 114) (Ls' := #[.val (.int p0), .val (.int p1), .val (.int p2), .val (.int p3), .val (.ref b51), .val (.ref b54), .val (.ref b56), .val (.ref b109), .val (.int (p3 &&& (3 : Int32))), .unset, .unset, .unset]) W111.here hx (hb hby at_112) rfl rfl rfl ?_
        refine g_iloadN (pc' := 115) W111.here hx (hb hby at_114) rfl rfl ?_
        refine g_iconst (2 : Int32) (pc' := 116) W111.here hx (hb hby at_115) rfl rfl ?_
        refine g_iushr (pc' := 117) W111.here hx (hb hby at_116) rfl ?_
        refine g_iconst (3 : Int32) (pc' := 118) W111.here hx (hb hby at_117) rfl rfl ?_
        refine g_iand (pc' := 119) W111.here hx (hb hby at_118) rfl ?_
        refine g_istore (pc' := 121) (Ls' := #[.val (.int p0), .val (.int p1), .val (.int p2), .val (.int p3), .val (.ref b51), .val (.ref b54), .val (.ref b56), .val (.ref b109), .val (.int (p3 &&& (3 : Int32))), .unset, .val (.int (((p3.toUInt32 >>> ((2 : Int32) &&& 31).toUInt32).toInt32) &&& (3 : Int32))), .unset]) W111.here hx (hb hby at_119) rfl rfl ?_
        refine g_iload (pc' := 123) W111.here hx (hb hby at_121) rfl rfl ?_
        by_cases hc123_112 : (((p3.toUInt32 >>> ((2 : Int32) &&& 31).toUInt32).toInt32) &&& (3 : Int32)) = (0 : Int32)
        · refine g_ifN (pc' := 126) W111.here hx (hb hby at_123) rfl (teq hc123_112).2 ?_
          refine g_aconstNull (pc' := 127) W111.here hx (hb hby at_126) rfl ?_
          refine g_astore (pc' := 129) (Ls' := #[.val (.int p0), .val (.int p1), .val (.int p2), .val (.int p3), .val (.ref b51), .val (.ref b54), .val (.ref b56), .val (.ref b109), .val (.int (p3 &&& (3 : Int32))), .val .null, .val (.int (((p3.toUInt32 >>> ((2 : Int32) &&& 31).toUInt32).toInt32) &&& (3 : Int32))), .unset]) W111.here hx (hb hby at_127) rfl rfl rfl ?_
          refine g_goto (pc' := 163) W111.here hx (hb hby at_129) rfl ?_
          refine g_aload (pc' := 165) W111.here hx (hb hby at_163) rfl rfl rfl ?_
          refine g_aload (pc' := 167) W111.here hx (hb hby at_165) rfl rfl rfl ?_
          refine w_callSp (pc' := 170) (st := []) (y := (⟨"com/example/grapple/grapple/internal/Limits", "checkPresent", "(Ljava/lang/Object;Ljava/lang/String;)Ljava/lang/Object;"⟩ : MethodName)) W111 hx [(.ref b109), .null] (hw _ (List.mem_of_getElem? w_8)) (hw _ (List.mem_of_getElem? w_9)) (hw _ (List.mem_of_getElem? w_10)) (hw _ (List.mem_of_getElem? w_11)) (by decide) (c_present l Z a0 hw hE b109 .null h111 W111.old rfl) (by rw [hml]; rfl) (lenOf pd_7 rfl) rfl (hb hby at_167) (Nat.le_of_ble_eq_true rfl) (Nat.le_of_ble_eq_true rfl) rfl rfl (Nat.le_of_ble_eq_true rfl) (Nat.le_of_ble_eq_true rfl) rfl fun T113 W113 => ?_
          refine g_astore (pc' := 172) (Ls' := #[.val (.int p0), .val (.int p1), .val (.int p2), .val (.int p3), .val (.ref b51), .val (.ref b54), .val (.ref b56), .val (.ref b109), .val (.int (p3 &&& (3 : Int32))), .val .null, .val (.int (((p3.toUInt32 >>> ((2 : Int32) &&& 31).toUInt32).toInt32) &&& (3 : Int32))), .val (.ref b109)]) W113.here hx (hb hby at_170) rfl rfl rfl ?_
          refine g_aload (pc' := 174) W113.here hx (hb hby at_172) rfl rfl rfl ?_
          refine g_aload (pc' := 176) W113.here hx (hb hby at_174) rfl rfl rfl ?_
          refine w_acmp (pc' := 179) W113 hx rfl rfl true (hb hby at_176) (decide_eq_true rfl) (by decide) (by decide) ?_
          refine g_iconst (1 : Int32) (pc' := 180) W113.here hx (hb hby at_179) rfl rfl ?_
          refine g_goto (pc' := 184) W113.here hx (hb hby at_180) rfl ?_
          refine w_retN (t := .boolean) W113 hx hh hlk hret (by simp) (hb hby at_184) (Nat.le_of_ble_eq_true rfl) (Nat.le_of_ble_eq_true rfl) ?_
          exact rfl
        · refine g_ifY (pc' := 132) W111.here hx (hb hby at_123) rfl (feq hc123_112).2 ?_
          refine g_iload (pc' := 134) W111.here hx (hb hby at_132) rfl rfl ?_
          refine g_iconst (1 : Int32) (pc' := 135) W111.here hx (hb hby at_134) rfl rfl ?_
          by_cases hc135_114 : (((p3.toUInt32 >>> ((2 : Int32) &&& 31).toUInt32).toInt32) &&& (3 : Int32)) = (1 : Int32)
          · refine g_icmpN (pc' := 138) W111.here hx (hb hby at_135) rfl (teq hc135_114).2 ?_
            refine w_new (pc' := 141) W111 hx (hw _ (List.mem_of_getElem? w_12)) (hw _ (List.mem_of_getElem? w_13)) (hw _ (List.mem_of_getElem? w_14)) (hb hby at_138) (Nat.le_of_ble_eq_true rfl) (Nat.le_of_ble_eq_true rfl) rfl fun T115 h115 b115 g115 W115 K115 A115 D115 => ?_
            have z_K115 : h111.size ≤ h115.size := K115.1
            have ne_b51_b115 : b51 ≠ b115 := by omega
            have ne_b54_b115 : b54 ≠ b115 := by omega
            have ne_b56_b115 : b56 ≠ b115 := by omega
            have ne_b109_b115 : b109 ≠ b115 := by omega
            have lt_b115 : b115 < h115.size := W115.lt (List.mem_cons_self ..)
            have F115_value : Fld Z h115 b115 "java/lang/String" "value" "[B" .null := D115 (Or.inr (hw _ (List.mem_of_getElem? w_27))) (ty := (.array .byte)) (by decide)
            have F115_coder : Fld Z h115 b115 "java/lang/String" "coder" "B" (.int (0 : Int32)) := D115 (Or.inr (hw _ (List.mem_of_getElem? w_28))) (ty := .byte) (by decide)
            refine g_dup (pc' := 142) W115.here hx (hb hby at_141) rfl rfl ?_
            refine g_aload (pc' := 144) W115.here hx (hb hby at_142) rfl rfl rfl ?_
            have c116 := ((((V56.keep K109 nin0).keep K110 (ninS ne_b56_b109 nin0)).keep K111 (ninS ne_b56_b109 nin0)).keep K115 nin0)
            refine w_special (pc' := 147) (st := [(.ref b115)]) (y := (⟨"java/lang/String", "<init>", "([C)V"⟩ : MethodName)) (a := b115) W115 hx [(.ref b56)] rfl (hw _ (List.mem_of_getElem? w_15)) (hw _ (List.mem_of_getElem? w_16)) (hw _ (List.mem_of_getElem? w_14)) (hw _ (List.mem_of_getElem? w_17)) (by decide) (c_strC l Z a0 hw hE cc fm b115 b56 [] h115 W115.old G (Nat.le_of_ble_eq_true rfl) own_all0 c116 (by have := O.1; omega) A115 _ _ F115_coder F115_value (Ne.symm ne_b56_b115)) (allS (List.mem_of_getElem? (i := 0) rfl) all0) (by rw [hml]; rfl) (lenOf pd_6 rfl) rfl (hb hby at_144) (Nat.le_of_ble_eq_true rfl) (Nat.le_of_ble_eq_true rfl) (Nat.le_of_ble_eq_true rfl) (Nat.le_of_ble_eq_true rfl) rfl fun v117 T117 h117 W117 K117 Q117 => ?_
            have z_K117 : h115.size ≤ h117.size := K117.1
            obtain ⟨rfl, sb118, S118⟩ := Q117
            have ES118 := S118.1
            have lt_sb118 : sb118 < h117.size := S118.ltb
            refine g_astore (pc' := 149) (Ls' := #[.val (.int p0), .val (.int p1), .val (.int p2), .val (.int p3), .val (.ref b51), .val (.ref b54), .val (.ref b56), .val (.ref b109), .val (.int (p3 &&& (3 : Int32))), .val (.ref b115), .val (.int (((p3.toUInt32 >>> ((2 : Int32) &&& 31).toUInt32).toInt32) &&& (3 : Int32))), .unset]) W117.here hx (hb hby at_147) rfl rfl rfl ?_
            refine g_goto (pc' := 163) W117.here hx (hb hby at_149) rfl ?_
            refine g_aload (pc' := 165) W117.here hx (hb hby at_163) rfl rfl rfl ?_
            refine g_aload (pc' := 167) W117.here hx (hb hby at_165) rfl rfl rfl ?_
            refine w_callSp (pc' := 170) (st := []) (y := (⟨"com/example/grapple/grapple/internal/Limits", "checkPresent", "(Ljava/lang/Object;Ljava/lang/String;)Ljava/lang/Object;"⟩ : MethodName)) W117 hx [(.ref b109), (.ref b115)] (hw _ (List.mem_of_getElem? w_8)) (hw _ (List.mem_of_getElem? w_9)) (hw _ (List.mem_of_getElem? w_10)) (hw _ (List.mem_of_getElem? w_11)) (by decide) (c_present l Z a0 hw hE b109 (.ref b115) h117 W117.old rfl) (by rw [hml]; rfl) (lenOf pd_7 rfl) rfl (hb hby at_167) (Nat.le_of_ble_eq_true rfl) (Nat.le_of_ble_eq_true rfl) rfl rfl (Nat.le_of_ble_eq_true rfl) (Nat.le_of_ble_eq_true rfl) rfl fun T119 W119 => ?_
            refine g_astore (pc' := 172) (Ls' := #[.val (.int p0), .val (.int p1), .val (.int p2), .val (.int p3), .val (.ref b51), .val (.ref b54), .val (.ref b56), .val (.ref b109), .val (.int (p3 &&& (3 : Int32))), .val (.ref b115), .val (.int (((p3.toUInt32 >>> ((2 : Int32) &&& 31).toUInt32).toInt32) &&& (3 : Int32))), .val (.ref b109)]) W119.here hx (hb hby at_170) rfl rfl rfl ?_
            refine g_aload (pc' := 174) W119.here hx (hb hby at_172) rfl rfl rfl ?_
            refine g_aload (pc' := 176) W119.here hx (hb hby at_174) rfl rfl rfl ?_
            refine w_acmp (pc' := 179) W119 hx rfl rfl true (hb hby at_176) (decide_eq_true rfl) (by decide) (by decide) ?_
            refine g_iconst (1 : Int32) (pc' := 180) W119.here hx (hb hby at_179) rfl rfl ?_
            refine g_goto (pc' := 184) W119.here hx (hb hby at_180) rfl ?_
            refine w_retN (t := .boolean) W119 hx hh hlk hret (by simp) (hb hby at_184) (Nat.le_of_ble_eq_true rfl) (Nat.le_of_ble_eq_true rfl) ?_
            exact rfl
          · refine g_icmpY (pc' := 152) W111.here hx (hb hby at_135) rfl (feq hc135_114).2 ?_
            refine w_new (pc' := 155) W111 hx (hw _ (List.mem_of_getElem? w_12)) (hw _ (List.mem_of_getElem? w_13)) (hw _ (List.mem_of_getElem? w_14)) (hb hby at_152) (Nat.le_of_ble_eq_true rfl) (Nat.le_of_ble_eq_true rfl) rfl fun T120 h120 b120 g120 W120 K120 A120 D120 => ?_
            have z_K120 : h111.size ≤ h120.size := K120.1
            have ne_b51_b120 : b51 ≠ b120 := by omega
            have ne_b54_b120 : b54 ≠ b120 := by omega
            have ne_b56_b120 : b56 ≠ b120 := by omega
            have ne_b109_b120 : b109 ≠ b120 := by omega
            have lt_b120 : b120 < h120.size := W120.lt (List.mem_cons_self ..)
            have F120_value : Fld Z h120 b120 "java/lang/String" "value" "[B" .null := D120 (Or.inr (hw _ (List.mem_of_getElem? w_27))) (ty := (.array .byte)) (by decide)
            have F120_coder : Fld Z h120 b120 "java/lang/String" "coder" "B" (.int (0 : Int32)) := D120 (Or.inr (hw _ (List.mem_of_getElem? w_28))) (ty := .byte) (by decide)
            refine g_dup (pc' := 156) W120.here hx (hb hby at_155) rfl rfl ?_
            refine g_aload (pc' := 158) W120.here hx (hb hby at_156) rfl rfl rfl ?_
            have c121 := (((((V55.keep K56 nin0).keep K109 nin0).keep K110 (ninS ne_b54_b109 nin0)).keep K111 (ninS ne_b54_b109 nin0)).keep K120 nin0)
            refine w_special (pc' := 161) (st := [(.ref b120)]) (y := (⟨"java/lang/String", "<init>", "([C)V"⟩ : MethodName)) (a := b120) W120 hx [(.ref b54)] rfl (hw _ (List.mem_of_getElem? w_15)) (hw _ (List.mem_of_getElem? w_16)) (hw _ (List.mem_of_getElem? w_14)) (hw _ (List.mem_of_getElem? w_17)) (by decide) (c_strC l Z a0 hw hE cc fm b120 b54 [k2] h120 W120.old G (Nat.le_of_ble_eq_true rfl) (own_allS hl2 own_all0) c121 (by have := O.1; omega) A120 _ _ F120_coder F120_value (Ne.symm ne_b54_b120)) (allS (List.mem_of_getElem? (i := 0) rfl) all0) (by rw [hml]; rfl) (lenOf pd_6 rfl) rfl (hb hby at_158) (Nat.le_of_ble_eq_true rfl) (Nat.le_of_ble_eq_true rfl) (Nat.le_of_ble_eq_true rfl) (Nat.le_of_ble_eq_true rfl) rfl fun v122 T122 h122 W122 K122 Q122 => ?_
            have z_K122 : h120.size ≤ h122.size := K122.1
            obtain ⟨rfl, sb123, S123⟩ := Q122
            have ES123 := S123.1
            have lt_sb123 : sb123 < h122.size := S123.ltb
            refine g_astore (pc' := 163) (Ls' := #[.val (.int p0), .val (.int p1), .val (.int p2), .val (.int p3), .val (.ref b51), .val (.ref b54), .val (.ref b56), .val (.ref b109), .val (.int (p3 &&& (3 : Int32))), .val (.ref b120), .val (.int (((p3.toUInt32 >>> ((2 : Int32) &&& 31).toUInt32).toInt32) &&& (3 : Int32))), .unset]) W122.here hx (hb hby at_161) rfl rfl rfl ?_
            refine g_aload (pc' := 165) W122.here hx (hb hby at_163) rfl rfl rfl ?_
            refine g_aload (pc' := 167) W122.here hx (hb hby at_165) rfl rfl rfl ?_
            refine w_callSp (pc' := 170) (st := []) (y := (⟨"com/example/grapple/grapple/internal/Limits", "checkPresent", "(Ljava/lang/Object;Ljava/lang/String;)Ljava/lang/Object;"⟩ : MethodName)) W122 hx [(.ref b109), (.ref b120)] (hw _ (List.mem_of_getElem? w_8)) (hw _ (List.mem_of_getElem? w_9)) (hw _ (List.mem_of_getElem? w_10)) (hw _ (List.mem_of_getElem? w_11)) (by decide) (c_present l Z a0 hw hE b109 (.ref b120) h122 W122.old rfl) (by rw [hml]; rfl) (lenOf pd_7 rfl) rfl (hb hby at_167) (Nat.le_of_ble_eq_true rfl) (Nat.le_of_ble_eq_true rfl) rfl rfl (Nat.le_of_ble_eq_true rfl) (Nat.le_of_ble_eq_true rfl) rfl fun T124 W124 => ?_
            refine g_astore (pc' := 172) (Ls' := #[.val (.int p0), .val (.int p1), .val (.int p2), .val (.int p3), .val (.ref b51), .val (.ref b54), .val (.ref b56), .val (.ref b109), .val (.int (p3 &&& (3 : Int32))), .val (.ref b120), .val (.int (((p3.toUInt32 >>> ((2 : Int32) &&& 31).toUInt32).toInt32) &&& (3 : Int32))), .val (.ref b109)]) W124.here hx (hb hby at_170) rfl rfl rfl ?_
            refine g_aload (pc' := 174) W124.here hx (hb hby at_172) rfl rfl rfl ?_
            refine g_aload (pc' := 176) W124.here hx (hb hby at_174) rfl rfl rfl ?_
            refine w_acmp (pc' := 179) W124 hx rfl rfl true (hb hby at_176) (decide_eq_true rfl) (by decide) (by decide) ?_
            refine g_iconst (1 : Int32) (pc' := 180) W124.here hx (hb hby at_179) rfl rfl ?_
            refine g_goto (pc' := 184) W124.here hx (hb hby at_180) rfl ?_
            refine w_retN (t := .boolean) W124 hx hh hlk hret (by simp) (hb hby at_184) (Nat.le_of_ble_eq_true rfl) (Nat.le_of_ble_eq_true rfl) ?_
            exact rfl
theorem own_steq {s : State} {args : Array Value} {t : Term} {z : Int32} (h : (Jvm.Cond.eq t (Jvm.Term.int z)).value args s none s [] = some true) : t.eval args s none [] s = some (.int z) := eqv_i (Z := s) (F := Jvm.Term.int z) (y := z) rfl h
theorem own_len256 {s : State} {args : Array Value} {t : Term} {a : Addr} {cl : Cell} {ty : FieldType} (e : t.eval args s none [] s = some (.ref a)) (A : Arr s s.heap a cl ty) (h : (Jvm.Cond.eq (Jvm.Term.length t) (Jvm.Term.int (256 : Int32))).value args s none s [] = some true) : cl.slots.size = 256 := by
  have q := own_steq h
  have hb : cl.slots.size < 2 ^ 31 := by
    rcases Nat.lt_or_ge cl.slots.size (2 ^ 31) with z | z
    · exact z
    · simp [Term.eval, e, A.fin (Vm.Alike.refl _), Nat.not_lt.mpr z] at q
  rw [len_f e (A.fin (Vm.Alike.refl _)) hb] at q
  have q2 : cl.slots.size.toInt32 = 256 := by simpa using q
  have q3 := congrArg Int32.toInt q2
  rw [len_toInt hb] at q3
  have : (256 : Int32).toInt = 256 := rfl
  omega
set_option maxRecDepth 65536 in
set_option maxHeartbeats 40000000 in
theorem comes_1 {Post : Tables → Env → Array Value → State → Outcome → State → Prop} (hpost : ∀ tb e args s v u, (limb_1_1.after args s (.returned v) u = true ∧ limb_1_2.after args s (.returned v) u = true ∧ True) → ReturnedEndW s (.returned v) u (Jvm.fieldLocs frame_1_writes args s ++ Jvm.arrayLocs frame_1_arrays args s ++ Jvm.staticLocs frame_1_statics s) 24 1152 → Post tb e args s (.returned v) u) :
    ArmFor flags0 classFile x code maxLocals ret World_1 tables_1 room_1 Calls_1 rest_1 Pre_1 Post := by
  intro l hfl _ _ p e ha hc hk s m args below hf hA hF happ hP
  obtain ⟨hcalls, hrest, hpre⟩ := hP
  obtain ⟨-, -, -, hnamed, -, -, -, hat⟩ := (Spec.applies_iff hf).mp happ
  obtain ⟨hg, hn⟩ := and_e (Cond.before_iff.mp (show (Jvm.Cond.and given_1 narrow_1).before args s = true from hpre))
  obtain ⟨hg0, hg⟩ := and_e hg
  obtain ⟨w0, w1, w2, w3, rfl⟩ : ∃ w0 w1 w2 w3 : Value, args = #[w0, w1, w2, w3] := by
    have hs : args.size = 4 := by simpa [Cond.value, given_1] using hg0
    obtain ⟨L⟩ := args
    match L, hs with
    | [w0, w1, w2, w3], _ => exact ⟨w0, w1, w2, w3, rfl⟩
  have hw := fun d (hd : d ∈ tables_1) => atoms_spec (ws := Jvm.Cond.code x code maxLocals ret :: tables_1) hat d (List.mem_cons_of_mem _ hd)
  have hfit : Fit s := fun {y c} hc i hi => by
    obtain ⟨ha, rfl⟩ := Array.getElem?_eq_some_iff.mp hc
    have q := List.all_eq_true.mp ((Array.all_eq_true_iff_forall_mem.mp hF) _ (Array.getElem_mem ha)) i (List.mem_range.mpr hi)
    simpa [Array.getElem?_eq_getElem hi] using q
  obtain ⟨hg1, hg⟩ := and_e hg
  obtain ⟨p0, ep0⟩ := is_v hg1
  obtain rfl : w0 = (.int p0) := Option.some.inj ep0
  obtain ⟨hg2, hg⟩ := and_e hg
  obtain ⟨p1, ep1⟩ := is_v hg2
  obtain rfl : w1 = (.int p1) := Option.some.inj ep1
  obtain ⟨hg3, hg⟩ := and_e hg
  obtain ⟨p2, ep2⟩ := is_v hg3
  obtain rfl : w2 = (.int p2) := Option.some.inj ep2
  have hg4 := hg
  obtain ⟨p3, ep3⟩ := is_v hg4
  obtain rfl : w3 = (.int p3) := Option.some.inj ep3
  have n1 := hn
  have hsets := (atoms_of jdkStatics_1 (show (jdkStatics_1.foldr Cond.and restOwn_1).before _ s = true by rw [← rest_1_c_eq]; exact hrest)).1
  have hheld : ∀ p ∈ consts_1, Jvm.Lit.constHeld s p.1 p.2 := hcalls.1
  obtain ⟨cc, ecc⟩ := is_v (Cond.before_iff.mp (hsets _ (List.mem_of_getElem? (i := 9) rfl)))
  have hcc : ¬ cc = 0 := fun q => by
    have q1 := not_v (Cond.before_iff.mp (hsets _ (List.mem_of_getElem? (i := 10) rfl)))
    exact absurd q (gotF (Cond.eq_ints ecc (Term.int_eval 0)) q1)
  obtain ⟨fm, efm, hfm⟩ := isR_v (Cond.before_iff.mp (hsets _ (List.mem_of_getElem? (i := 16) rfl)))
  have hG : SEnv s cc fm := ⟨Sta.start ecc (Or.inl (hsets _ (List.mem_of_getElem? (i := 8) rfl))), hcc, Sta.start efm (Or.inl (hsets _ (List.mem_of_getElem? (i := 15) rfl))), hfm⟩
  have hEW : EW s _ consts_1 := (EW.cons (hw _ (List.mem_of_getElem? w_25)) (by decide) EW.nil)
  have hCH : CHv s consts_1 s.vm s.heap := CHv.start hEW hheld (a0 := _) (hsets _ (List.mem_of_getElem? (i := 10) rfl)) (hw _ (List.mem_of_getElem? w_26)) (hw _ (List.mem_of_getElem? w_13))
  have eh := own_steq (Cond.before_iff.mp (hsets _ (List.mem_of_getElem? (i := 3) rfl)))
  have qa := Cond.before_iff.mp (hsets _ (List.mem_of_getElem? (i := 4) rfl))
  obtain ⟨ic, ec⟩ := arr_v qa
  obtain ⟨cl, AC⟩ := Arr.start ec qa
  have ql := Cond.before_iff.mp (hsets _ (List.mem_of_getElem? (i := 6) rfl))
  have hsz : cl.slots.size = 256 := own_len256 ec AC ql
  have qall := Cond.before_iff.mp (hsets _ (List.mem_of_getElem? (i := 7) rfl))
  have hel : ∀ j : Int32, ¬ (j < 0 ∨ cl.slots.size ≤ j.toNatClampNeg) → ∃ b : Nat, cl.slots[j.toNatClampNeg]? = some (.ref b) := fun j hj => by
    have nn : ¬ j < 0 := fun x => hj (Or.inl x)
    obtain ⟨u1, u2⟩ := and_e (Cond.all_elim (t := (Jvm.Term.static "java/lang/Integer$IntegerCache" "cache" "[Ljava/lang/Integer;")) ec (AC.fin (Vm.Alike.refl _)) qall j.toNatClampNeg (Nat.lt_of_not_le fun x => hj (Or.inr x)))
    obtain ⟨box, eb⟩ := exa_v u1
    exact ⟨box, (elem_f (idx := [j.toNatClampNeg]) (t := (Jvm.Term.static "java/lang/Integer$IntegerCache" "cache" "[Ljava/lang/Integer;")) (show (Jvm.Term.static "java/lang/Integer$IntegerCache" "cache" "[Ljava/lang/Integer;").eval _ s none [j.toNatClampNeg] s = some (.ref ic) from ec) (idx_at nn) (AC.fin (Vm.Alike.refl _)) nn).symm.trans eb⟩
  obtain ⟨t, o, h1, h2, h3, v, L, rfl, ⟨rfl, N, -⟩, -, hq⟩ := c_law l s _ hw hEW cc fm p0 p1 p2 p3 ic cl s.heap ⟨Nat.le_refl _, fun _ _ q => q⟩ hG (Sta.start eh (Or.inl (hsets _ (List.mem_of_getElem? (i := 1) rfl)))) (Sta.start ec (Or.inr ⟨(hw _ (List.mem_of_getElem? w_6)), (hsets _ (List.mem_of_getElem? (i := 2) rfl))⟩)) AC hsz hel
    p e ha hc hk s m _ below hf ((Spec.applies_iff_loose hf).mp happ).1 ⟨rfl, State.Warmed39.refl s, rfl, hCH, fun _ q => nomatch q⟩ trivial
  refine ⟨t, _, h1, h2, h3, hpost _ _ _ _ _ _ ⟨Cond.after_iff.mpr rfl, Cond.after_iff.mpr (eq_i res_at (Term.int_eval (1)) rfl), trivial⟩ ⟨hq.1, hq.2.1, hq.2.2.1, (hq.2.2.2.sift fun y hy => Or.inr (N y hy)).mono (by decide) (by decide)⟩⟩
theorem main_1_1 : Claimed_1_1 := comes_1 fun _ _ _ _ _ _ h hF => ⟨h.1, hF⟩
theorem main_1_2 : Claimed_1_2 := comes_1 fun _ _ _ _ _ _ h hF => ⟨h.2.1, hF⟩
end Jvm.Pilot.@@N@@
namespace Jvm.Pilot.@@N@@
open Jvm Jvm.ClassFile Sem Op Lib Jvm.Free Jvm.Stand Jvm.Pilot.@@N@@.Jvm.D
/-! MADE BY PROGRAM (witnessworld.py) out of the Statement's table words and the real class files: 24 classes; the members and pool entries that the words name. The judged class is class 1, her method 1. -/
namespace start1
open Jvm.ClassFile
def u (s : String) : CpInfo := .utf8 (stringToUtf16 s)
/-- a pool by its gaps: so many unusable entries, then the entry; so many at the end -/
def gap : Nat → List CpInfo → List CpInfo
  | 0, r => r
  | n + 1, r => .unusable :: gap n r
def poolList (es : List (Nat × CpInfo)) (last : Nat) : List CpInfo := es.foldr (fun e r => gap e.1 (e.2 :: r)) (gap last [])
def pool (es : List (Nat × CpInfo)) (last : Nat) : Array CpInfo := ⟨poolList es last⟩
def fileOf (pool : Array CpInfo) (this : Nat) (attrs : Array Attribute := #[]) (ms : Array MethodInfo := #[]) (fl : Nat := 33) (sup : Nat := 0) (ifs : Array Nat := #[]) (fds : Array FieldInfo := #[]) : ClassFile where
  minorVersion := 0
  majorVersion := 65
  constantPool := pool
  accessFlags := fl
  thisClass := this
  superClass := sup
  interfaces := ifs
  fields := fds
  methods := ms
  attributes := attrs
def plain (name : String) (sup : Option ClassId) : Class where
  name := name
  kind := .ordinary
  loader := none
  accessFlags := 33
  super := sup
  interfaces := #[]
  cf := none
  fields := #[]
  methods := #[]
  instanceTypes := #[]
  staticTypes := #[]
  resolved := #[]
  callSites := []
  init := .initialized
  statics := none
  mirror := none

def pool0 : Array CpInfo := pool [(5, u "<init>"), (0, u "()V"), (1, .class_ 10), (1, u "java/lang/Object")] 113

def k0c0 : Code := { maxStack := 0, maxLocals := 1, code := object_method_1_code, exceptionTable := #[], attributes := #[] }
def k0m0 : Method := { name := "<init>", desc := "()V", sig := { parameters := [], returnType := none }, accessFlags := 1, code := some k0c0 }
/-- java/lang/Object -/
def k0 : Class := { plain "java/lang/Object" none with
  accessFlags := 33
  interfaces := #[]
  cf := some (fileOf pool0 8 #[] #[{ accessFlags := 1, nameIndex := 5, descriptorIndex := 6, attributes := #[] }] 33 0 #[] #[])
  fields := #[]
  methods := #[k0m0]
  instanceTypes := #[]
  staticTypes := #[]
  resolved := Array.replicate 124 none
  statics := none }

def pool1 : Array CpInfo := pool [(2, .class_ 4), (1, u "java/lang/Object"), (0, u "<init>"), (0, u "()V"), (0, .class_ 8), (0, u "java/lang/String"), (0, .methodref 7 10), (0, .nameAndType 5 11), (0, u "([C)V"), (0, .methodref 13 14), (0, .class_ 15), (0, .nameAndType 16 17), (0, u "java/lang/Integer"), (0, u "valueOf"), (0, u "(I)Ljava/lang/Integer;"), (0, .methodref 19 20), (0, .class_ 21), (0, .nameAndType 22 23), (0, u "com/example/grapple/grapple/internal/Limits"), (0, u "checkPresent"), (0, u "(Ljava/lang/Object;Ljava/lang/String;)Ljava/lang/Object;"), (0, .class_ 25), (0, u "com/example/grapple/grapple/internal/LimitsCheckPresentPinLaw"), (2, u "law"), (0, u "(IIII)Z")] 5

def k1m0 : Method := { name := "<init>", desc := "()V", sig := { parameters := [], returnType := none }, accessFlags := 2, code := none }
def k1c1 : Code := { maxStack := 5, maxLocals := 12, code := code, exceptionTable := #[], attributes := #[] }
def k1m1 : Method := { name := "law", desc := "(IIII)Z", sig := { parameters := [.int, .int, .int, .int], returnType := some .boolean }, accessFlags := 9, code := some k1c1 }
/-- com/example/grapple/grapple/internal/LimitsCheckPresentPinLaw -/
def k1 : Class := { plain "com/example/grapple/grapple/internal/LimitsCheckPresentPinLaw" (some 0) with
  accessFlags := 49
  interfaces := #[]
  cf := some (fileOf pool1 24 #[] #[{ accessFlags := 2, nameIndex := 5, descriptorIndex := 6, attributes := #[] }, { accessFlags := 9, nameIndex := 28, descriptorIndex := 29, attributes := #[] }] 49 2 #[] #[])
  fields := #[]
  methods := #[k1m0, k1m1]
  instanceTypes := #[]
  staticTypes := #[]
  resolved := Array.replicate 35 none
  statics := none }

def pool2 : Array CpInfo := pool [(1, .class_ 2), (0, u "java/io/Serializable"), (0, .class_ 4), (0, u "java/lang/Object")] 2

/-- java/io/Serializable -/
def k2 : Class := { plain "java/io/Serializable" (some 0) with
  accessFlags := 1537
  interfaces := #[]
  cf := some (fileOf pool2 1 #[] #[] 1537 3 #[] #[])
  fields := #[]
  methods := #[]
  instanceTypes := #[]
  staticTypes := #[]
  resolved := Array.replicate 7 none
  statics := none }

def pool3 : Array CpInfo := pool [(1, .methodref 2 3), (0, .class_ 4), (0, .nameAndType 5 6), (0, u "java/lang/Object"), (0, u "<init>"), (0, u "()V"), (1, .class_ 10), (1, u "java/lang/Number"), (2, .class_ 14), (0, u "java/io/Serializable"), (0, u "serialVersionUID"), (0, u "J")] 20

def k3c0 : Code := { maxStack := 1, maxLocals := 1, code := jdk_18_method_1_code, exceptionTable := #[], attributes := #[] }
def k3m0 : Method := { name := "<init>", desc := "()V", sig := { parameters := [], returnType := none }, accessFlags := 1, code := some k3c0 }
/-- java/lang/Number -/
def k3 : Class := { plain "java/lang/Number" (some 0) with
  accessFlags := 1057
  interfaces := #[2]
  cf := some (fileOf pool3 8 #[] #[{ accessFlags := 1, nameIndex := 5, descriptorIndex := 6, attributes := #[] }] 1057 2 #[13] #[{ accessFlags := 26, nameIndex := 15, descriptorIndex := 16, attributes := #[] }])
  fields := #[{ name := "serialVersionUID", type := .long, accessFlags := 26, slot := 0, constantValue := 0 }]
  methods := #[k3m0]
  instanceTypes := #[]
  staticTypes := #[.long]
  resolved := Array.replicate 37 none
  statics := none }

def pool4 : Array CpInfo := pool [(1, .class_ 2), (0, u "java/lang/Comparable"), (0, .class_ 4), (0, u "java/lang/Object")] 7

/-- java/lang/Comparable -/
def k4 : Class := { plain "java/lang/Comparable" (some 0) with
  accessFlags := 1537
  interfaces := #[]
  cf := some (fileOf pool4 1 #[] #[] 1537 3 #[] #[])
  fields := #[]
  methods := #[]
  instanceTypes := #[]
  staticTypes := #[]
  resolved := Array.replicate 12 none
  statics := none }

def pool5 : Array CpInfo := pool [(1, .class_ 2), (0, u "java/lang/constant/Constable"), (0, .class_ 4), (0, u "java/lang/Object")] 6

/-- java/lang/constant/Constable -/
def k5 : Class := { plain "java/lang/constant/Constable" (some 0) with
  accessFlags := 1537
  interfaces := #[]
  cf := some (fileOf pool5 1 #[] #[] 1537 3 #[] #[])
  fields := #[]
  methods := #[]
  instanceTypes := #[]
  staticTypes := #[]
  resolved := Array.replicate 11 none
  statics := none }

def pool6 : Array CpInfo := pool [(1, .class_ 2), (0, u "java/lang/constant/ConstantDesc"), (0, .class_ 4), (0, u "java/lang/Object")] 32

/-- java/lang/constant/ConstantDesc -/
def k6 : Class := { plain "java/lang/constant/ConstantDesc" (some 0) with
  accessFlags := 1537
  interfaces := #[]
  cf := some (fileOf pool6 1 #[] #[] 1537 3 #[] #[])
  fields := #[]
  methods := #[]
  instanceTypes := #[]
  staticTypes := #[]
  resolved := Array.replicate 37 none
  statics := none }

def pool7 : Array CpInfo := pool [(1, .class_ 2), (0, u "java/lang/Integer"), (16, u "digits"), (0, u "[C"), (46, u "<init>"), (17, u "DigitOnes"), (0, u "[B"), (2, u "DigitTens"), (10, .nameAndType 67 101), (0, u "()V"), (85, u "valueOf"), (0, u "(I)Ljava/lang/Integer;"), (0, .class_ 190), (0, u "java/lang/Integer$IntegerCache"), (0, .fieldref 189 192), (0, .nameAndType 193 194), (0, u "high"), (0, u "I"), (0, .fieldref 189 196), (0, .nameAndType 197 198), (0, u "cache"), (0, u "[Ljava/lang/Integer;"), (0, .methodref 1 200), (0, .nameAndType 67 201), (0, u "(I)V"), (0, .methodref 203 100), (0, .class_ 204), (0, u "java/lang/Number"), (0, .fieldref 1 206), (0, .nameAndType 207 194), (0, u "value"), (94, u "TYPE"), (0, u "Ljava/lang/Class;"), (0, .class_ 305), (0, u "java/lang/Comparable"), (0, .class_ 307), (0, u "java/lang/constant/Constable"), (0, .class_ 309), (0, u "java/lang/constant/ConstantDesc"), (0, u "MIN_VALUE"), (1, u "MAX_VALUE"), (3, u "SIZE"), (1, u "BYTES"), (1, u "serialVersionUID"), (0, u "J")] 131

def k7c0 : Code := { maxStack := 3, maxLocals := 1, code := jdk_33_method_22_code, exceptionTable := #[], attributes := #[] }
def k7m0 : Method := { name := "valueOf", desc := "(I)Ljava/lang/Integer;", sig := { parameters := [.int], returnType := some (.object "java/lang/Integer") }, accessFlags := 9, code := some k7c0 }
def k7c1 : Code := { maxStack := 2, maxLocals := 2, code := jdk_33_method_23_code, exceptionTable := #[], attributes := #[] }
def k7m1 : Method := { name := "<init>", desc := "(I)V", sig := { parameters := [.int], returnType := none }, accessFlags := 1, code := some k7c1 }
/-- java/lang/Integer -/
def k7 : Class := { plain "java/lang/Integer" (some 3) with
  accessFlags := 49
  interfaces := #[4, 5, 6]
  cf := some (fileOf pool7 1 #[.nestMembers #[189]] #[{ accessFlags := 9, nameIndex := 187, descriptorIndex := 188, attributes := #[] }, { accessFlags := 1, nameIndex := 67, descriptorIndex := 201, attributes := #[] }] 49 203 #[304, 306, 308] #[{ accessFlags := 25, nameIndex := 310, descriptorIndex := 194, attributes := #[] }, { accessFlags := 25, nameIndex := 312, descriptorIndex := 194, attributes := #[] }, { accessFlags := 25, nameIndex := 302, descriptorIndex := 303, attributes := #[] }, { accessFlags := 24, nameIndex := 19, descriptorIndex := 20, attributes := #[] }, { accessFlags := 24, nameIndex := 89, descriptorIndex := 86, attributes := #[] }, { accessFlags := 24, nameIndex := 85, descriptorIndex := 86, attributes := #[] }, { accessFlags := 18, nameIndex := 207, descriptorIndex := 194, attributes := #[] }, { accessFlags := 25, nameIndex := 316, descriptorIndex := 194, attributes := #[] }, { accessFlags := 25, nameIndex := 318, descriptorIndex := 194, attributes := #[] }, { accessFlags := 26, nameIndex := 320, descriptorIndex := 321, attributes := #[] }])
  fields := #[{ name := "MIN_VALUE", type := .int, accessFlags := 25, slot := 0, constantValue := 0 }, { name := "MAX_VALUE", type := .int, accessFlags := 25, slot := 1, constantValue := 0 }, { name := "TYPE", type := (.object "java/lang/Class"), accessFlags := 25, slot := 2, constantValue := 0 }, { name := "digits", type := (.array .char), accessFlags := 24, slot := 3, constantValue := 0 }, { name := "DigitTens", type := (.array .byte), accessFlags := 24, slot := 4, constantValue := 0 }, { name := "DigitOnes", type := (.array .byte), accessFlags := 24, slot := 5, constantValue := 0 }, { name := "value", type := .int, accessFlags := 18, slot := 0, constantValue := 0 }, { name := "SIZE", type := .int, accessFlags := 25, slot := 6, constantValue := 0 }, { name := "BYTES", type := .int, accessFlags := 25, slot := 7, constantValue := 0 }, { name := "serialVersionUID", type := .long, accessFlags := 26, slot := 8, constantValue := 0 }]
  methods := #[k7m0, k7m1]
  instanceTypes := #[.int]
  staticTypes := #[.int, .int, (.object "java/lang/Class"), (.array .char), (.array .byte), (.array .byte), .int, .int, .long]
  resolved := Array.replicate 453 none
  statics := none }

def pool8 : Array CpInfo := pool [(2, .class_ 4), (1, u "java/lang/Object"), (0, u "<init>"), (0, u "()V"), (0, .class_ 8), (0, u "java/lang/Integer"), (7, .class_ 18), (1, u "java/lang/Integer$IntegerCache"), (0, u "$assertionsDisabled"), (0, u "Z"), (26, u "high"), (0, u "I"), (8, u "archivedCache"), (0, u "[Ljava/lang/Integer;"), (12, u "cache"), (0, u "low")] 27

def k8m0 : Method := { name := "<init>", desc := "()V", sig := { parameters := [], returnType := none }, accessFlags := 2, code := none }
/-- java/lang/Integer$IntegerCache -/
def k8 : Class := { plain "java/lang/Integer$IntegerCache" (some 0) with
  accessFlags := 48
  interfaces := #[]
  cf := some (fileOf pool8 16 #[.nestHost 7] #[{ accessFlags := 2, nameIndex := 5, descriptorIndex := 6, attributes := #[] }] 48 2 #[] #[{ accessFlags := 24, nameIndex := 72, descriptorIndex := 48, attributes := #[] }, { accessFlags := 24, nameIndex := 47, descriptorIndex := 48, attributes := #[] }, { accessFlags := 24, nameIndex := 71, descriptorIndex := 58, attributes := #[] }, { accessFlags := 8, nameIndex := 57, descriptorIndex := 58, attributes := #[] }, { accessFlags := 4120, nameIndex := 19, descriptorIndex := 20, attributes := #[] }])
  fields := #[{ name := "low", type := .int, accessFlags := 24, slot := 0, constantValue := 0 }, { name := "high", type := .int, accessFlags := 24, slot := 1, constantValue := 0 }, { name := "cache", type := (.array (.object "java/lang/Integer")), accessFlags := 24, slot := 2, constantValue := 0 }, { name := "archivedCache", type := (.array (.object "java/lang/Integer")), accessFlags := 8, slot := 3, constantValue := 0 }, { name := "$assertionsDisabled", type := .boolean, accessFlags := 4120, slot := 4, constantValue := 0 }]
  methods := #[k8m0]
  instanceTypes := #[]
  staticTypes := #[.int, .int, (.array (.object "java/lang/Integer")), (.array (.object "java/lang/Integer")), .boolean]
  resolved := Array.replicate 100 none
  statics := some 0 }

def pool9 : Array CpInfo := pool [(2, .class_ 4), (1, u "java/lang/Object"), (0, u "<init>"), (0, u "()V"), (27, .class_ 35), (0, u "com/example/grapple/grapple/internal/Limits"), (42, u "MIN_LEASE"), (0, u "Ljava/time/Duration;"), (8, u "MAX_LEASE"), (29, u "MAX_NAME_LENGTH"), (0, u "I"), (2, u "MAX_KEY_PREFIX_LENGTH"), (3, u "checkPresent"), (0, u "(Ljava/lang/Object;Ljava/lang/String;)Ljava/lang/Object;")] 40

def k9m0 : Method := { name := "<init>", desc := "()V", sig := { parameters := [], returnType := none }, accessFlags := 2, code := none }
def k9c1 : Code := { maxStack := 3, maxLocals := 2, code := prog_3_method_2_code, exceptionTable := #[], attributes := #[] }
def k9m1 : Method := { name := "checkPresent", desc := "(Ljava/lang/Object;Ljava/lang/String;)Ljava/lang/Object;", sig := { parameters := [(.object "java/lang/Object"), (.object "java/lang/String")], returnType := some (.object "java/lang/Object") }, accessFlags := 9, code := some k9c1 }
/-- com/example/grapple/grapple/internal/Limits -/
def k9 : Class := { plain "com/example/grapple/grapple/internal/Limits" (some 0) with
  accessFlags := 49
  interfaces := #[]
  cf := some (fileOf pool9 34 #[] #[{ accessFlags := 2, nameIndex := 5, descriptorIndex := 6, attributes := #[] }, { accessFlags := 9, nameIndex := 126, descriptorIndex := 127, attributes := #[] }] 49 2 #[] #[{ accessFlags := 25, nameIndex := 118, descriptorIndex := 119, attributes := #[] }, { accessFlags := 25, nameIndex := 122, descriptorIndex := 119, attributes := #[] }, { accessFlags := 25, nameIndex := 78, descriptorIndex := 79, attributes := #[] }, { accessFlags := 25, nameIndex := 88, descriptorIndex := 79, attributes := #[] }])
  fields := #[{ name := "MAX_NAME_LENGTH", type := .int, accessFlags := 25, slot := 0, constantValue := 0 }, { name := "MAX_KEY_PREFIX_LENGTH", type := .int, accessFlags := 25, slot := 1, constantValue := 0 }, { name := "MIN_LEASE", type := (.object "java/time/Duration"), accessFlags := 25, slot := 2, constantValue := 0 }, { name := "MAX_LEASE", type := (.object "java/time/Duration"), accessFlags := 25, slot := 3, constantValue := 0 }]
  methods := #[k9m0, k9m1]
  instanceTypes := #[]
  staticTypes := #[.int, .int, (.object "java/time/Duration"), (.object "java/time/Duration")]
  resolved := Array.replicate 168 none
  statics := none }

def pool10 : Array CpInfo := pool [(2, .class_ 4), (1, u "java/lang/CharSequence"), (42, .class_ 48), (0, u "java/lang/CharSequence$1CodePointIterator"), (10, .class_ 60), (0, u "java/lang/CharSequence$1CharIterator"), (5, .class_ 67), (0, u "java/lang/Object")] 63

/-- java/lang/CharSequence -/
def k10 : Class := { plain "java/lang/CharSequence" (some 0) with
  accessFlags := 1537
  interfaces := #[]
  cf := some (fileOf pool10 2 #[.nestMembers #[47, 59]] #[] 1537 66 #[] #[])
  fields := #[]
  methods := #[]
  instanceTypes := #[]
  staticTypes := #[]
  resolved := Array.replicate 131 none
  statics := none }

def pool11 : Array CpInfo := pool [(1, .methodref 2 3), (0, .class_ 4), (0, .nameAndType 5 6), (0, u "java/lang/Object"), (0, u "<init>"), (0, u "()V"), (0, .string 8), (0, u ""), (0, .fieldref 10 11), (0, .class_ 12), (0, .nameAndType 13 14), (0, u "java/lang/String"), (0, u "value"), (0, u "[B"), (0, .fieldref 10 16), (0, .nameAndType 17 18), (0, u "coder"), (0, u "B"), (2, u "hash"), (0, u "I"), (2, u "hashIsZero"), (0, u "Z"), (0, .methodref 10 28), (0, .nameAndType 5 29), (0, u "([CIILjava/lang/Void;)V"), (8, .fieldref 10 39), (0, .nameAndType 40 26), (0, u "COMPACT_STRINGS"), (1, .class_ 44), (1, u "java/lang/StringUTF16"), (0, u "compress"), (1, .methodref 42 48), (0, .nameAndType 49 50), (0, u "coderFromArrayLen"), (0, u "([BI)B"), (126, .methodref 42 178), (0, .nameAndType 45 179), (0, u "([CII)[B"), (395, .class_ 576), (0, u "java/lang/CharSequence"), (22, u "CASE_INSENSITIVE_ORDER"), (0, u "Ljava/util/Comparator;"), (409, u "([C)V"), (90, u "serialPersistentFields"), (0, u "[Ljava/io/ObjectStreamField;"), (0, .class_ 1104), (0, u "java/lang/String$CaseInsensitiveComparator"), (1, .class_ 1107), (0, u "java/io/Serializable"), (0, .class_ 1109), (0, u "java/lang/Comparable"), (0, .class_ 1111), (0, u "java/lang/constant/Constable"), (0, .class_ 1113), (0, u "java/lang/constant/ConstantDesc"), (2, u "serialVersionUID"), (0, u "J"), (3, u "REPL"), (0, u "C"), (2, u "LATIN1"), (1, u "UTF16")] 323

def k11m0 : Method := { name := "<init>", desc := "()V", sig := { parameters := [], returnType := none }, accessFlags := 1, code := none }
def k11c1 : Code := { maxStack := 5, maxLocals := 2, code := jdk_42_method_3_code, exceptionTable := #[], attributes := #[] }
def k11m1 : Method := { name := "<init>", desc := "([C)V", sig := { parameters := [(.array .char)], returnType := none }, accessFlags := 1, code := some k11c1 }
def k11c2 : Code := { maxStack := 4, maxLocals := 6, code := jdk_42_method_149_code, exceptionTable := #[], attributes := #[] }
def k11m2 : Method := { name := "<init>", desc := "([CIILjava/lang/Void;)V", sig := { parameters := [(.array .char), .int, .int, (.object "java/lang/Void")], returnType := none }, accessFlags := 2, code := some k11c2 }
/-- java/lang/String -/
def k11 : Class := { plain "java/lang/String" (some 0) with
  accessFlags := 49
  interfaces := #[2, 4, 10, 5, 6]
  cf := some (fileOf pool11 10 #[.nestMembers #[1103]] #[{ accessFlags := 1, nameIndex := 5, descriptorIndex := 6, attributes := #[] }, { accessFlags := 1, nameIndex := 5, descriptorIndex := 1010, attributes := #[] }, { accessFlags := 2, nameIndex := 5, descriptorIndex := 29, attributes := #[] }] 49 2 #[1106, 1108, 575, 1110, 1112] #[{ accessFlags := 18, nameIndex := 13, descriptorIndex := 14, attributes := #[] }, { accessFlags := 18, nameIndex := 17, descriptorIndex := 18, attributes := #[] }, { accessFlags := 2, nameIndex := 21, descriptorIndex := 22, attributes := #[] }, { accessFlags := 2, nameIndex := 25, descriptorIndex := 26, attributes := #[] }, { accessFlags := 26, nameIndex := 1116, descriptorIndex := 1117, attributes := #[] }, { accessFlags := 24, nameIndex := 40, descriptorIndex := 26, attributes := #[] }, { accessFlags := 26, nameIndex := 1101, descriptorIndex := 1102, attributes := #[] }, { accessFlags := 26, nameIndex := 1121, descriptorIndex := 1122, attributes := #[] }, { accessFlags := 25, nameIndex := 599, descriptorIndex := 600, attributes := #[] }, { accessFlags := 24, nameIndex := 1125, descriptorIndex := 18, attributes := #[] }, { accessFlags := 24, nameIndex := 1127, descriptorIndex := 18, attributes := #[] }])
  fields := #[{ name := "value", type := (.array .byte), accessFlags := 18, slot := 0, constantValue := 0 }, { name := "coder", type := .byte, accessFlags := 18, slot := 1, constantValue := 0 }, { name := "hash", type := .int, accessFlags := 2, slot := 2, constantValue := 0 }, { name := "hashIsZero", type := .boolean, accessFlags := 2, slot := 3, constantValue := 0 }, { name := "serialVersionUID", type := .long, accessFlags := 26, slot := 0, constantValue := 0 }, { name := "COMPACT_STRINGS", type := .boolean, accessFlags := 24, slot := 1, constantValue := 0 }, { name := "serialPersistentFields", type := (.array (.object "java/io/ObjectStreamField")), accessFlags := 26, slot := 2, constantValue := 0 }, { name := "REPL", type := .char, accessFlags := 26, slot := 3, constantValue := 0 }, { name := "CASE_INSENSITIVE_ORDER", type := (.object "java/util/Comparator"), accessFlags := 25, slot := 4, constantValue := 0 }, { name := "LATIN1", type := .byte, accessFlags := 24, slot := 5, constantValue := 0 }, { name := "UTF16", type := .byte, accessFlags := 24, slot := 6, constantValue := 0 }]
  methods := #[k11m0, k11m1, k11m2]
  instanceTypes := #[(.array .byte), .byte, .int, .boolean]
  staticTypes := #[.long, .boolean, (.array (.object "java/io/ObjectStreamField")), .char, (.object "java/util/Comparator"), .byte, .byte]
  resolved := Array.replicate 1451 none
  statics := some 1 }

def pool12 : Array CpInfo := pool [(6, .class_ 8), (1, u "java/lang/Object"), (0, u "<init>"), (0, u "()V"), (1, .class_ 14), (1, u "java/lang/StringUTF16"), (31, u "$assertionsDisabled"), (0, u "Z"), (13, u "HI_BYTE_SHIFT"), (0, u "I"), (2, u "LO_BYTE_SHIFT"), (49, .methodref 12 116), (0, .nameAndType 117 118), (0, u "compress"), (0, u "([CI[BII)I"), (3, u "([CII)[B"), (138, u "coderFromArrayLen"), (0, u "([BI)B"), (106, .class_ 371), (1, u "java/lang/StringUTF16$LinesSpliterator"), (58, u "MAX_LENGTH"), (196, .class_ 628), (0, u "java/lang/StringUTF16$CodePointsSpliterator"), (0, .class_ 630), (0, u "java/lang/StringUTF16$CharsSpliterator")] 4

def k12m0 : Method := { name := "<init>", desc := "()V", sig := { parameters := [], returnType := none }, accessFlags := 0, code := none }
def k12c1 : Code := { maxStack := 2, maxLocals := 2, code := jdk_52_method_15_code, exceptionTable := #[], attributes := #[] }
def k12m1 : Method := { name := "coderFromArrayLen", desc := "([BI)B", sig := { parameters := [(.array .byte), .int], returnType := some .byte }, accessFlags := 8, code := some k12c1 }
def k12c2 : Code := { maxStack := 5, maxLocals := 6, code := jdk_52_method_16_code, exceptionTable := #[], attributes := #[] }
def k12m2 : Method := { name := "compress", desc := "([CII)[B", sig := { parameters := [(.array .char), .int, .int], returnType := some (.array .byte) }, accessFlags := 9, code := some k12c2 }
def k12c3 : Code := { maxStack := 3, maxLocals := 7, code := jdk_52_method_21_code, exceptionTable := #[], attributes := #[] }
def k12m3 : Method := { name := "compress", desc := "([CI[BII)I", sig := { parameters := [(.array .char), .int, (.array .byte), .int, .int], returnType := some .int }, accessFlags := 9, code := some k12c3 }
/-- java/lang/StringUTF16 -/
def k12 : Class := { plain "java/lang/StringUTF16" (some 0) with
  accessFlags := 48
  interfaces := #[]
  cf := some (fileOf pool12 12 #[.nestMembers #[627, 629, 369]] #[{ accessFlags := 0, nameIndex := 9, descriptorIndex := 10, attributes := #[] }, { accessFlags := 8, nameIndex := 261, descriptorIndex := 262, attributes := #[] }, { accessFlags := 9, nameIndex := 117, descriptorIndex := 122, attributes := #[] }, { accessFlags := 9, nameIndex := 117, descriptorIndex := 118, attributes := #[] }] 48 6 #[] #[{ accessFlags := 26, nameIndex := 61, descriptorIndex := 62, attributes := #[] }, { accessFlags := 26, nameIndex := 65, descriptorIndex := 62, attributes := #[] }, { accessFlags := 24, nameIndex := 430, descriptorIndex := 62, attributes := #[] }, { accessFlags := 4120, nameIndex := 46, descriptorIndex := 47, attributes := #[] }])
  fields := #[{ name := "HI_BYTE_SHIFT", type := .int, accessFlags := 26, slot := 0, constantValue := 0 }, { name := "LO_BYTE_SHIFT", type := .int, accessFlags := 26, slot := 1, constantValue := 0 }, { name := "MAX_LENGTH", type := .int, accessFlags := 24, slot := 2, constantValue := 0 }, { name := "$assertionsDisabled", type := .boolean, accessFlags := 4120, slot := 3, constantValue := 0 }]
  methods := #[k12m0, k12m1, k12m2, k12m3]
  instanceTypes := #[]
  staticTypes := #[.int, .int, .int, .boolean]
  resolved := Array.replicate 635 none
  statics := none }

def pool13 : Array CpInfo := pool [(4, .class_ 6), (1, u "java/lang/Object"), (0, u "<init>"), (0, u "()V"), (5, .class_ 16), (1, u "java/lang/StringLatin1"), (104, u "$assertionsDisabled"), (0, u "Z"), (98, .class_ 223), (1, u "java/lang/StringLatin1$LinesSpliterator"), (166, .class_ 391), (0, u "java/lang/StringLatin1$CharsSpliterator")] 3

def k13m0 : Method := { name := "<init>", desc := "()V", sig := { parameters := [], returnType := none }, accessFlags := 0, code := none }
/-- java/lang/StringLatin1 -/
def k13 : Class := { plain "java/lang/StringLatin1" (some 0) with
  accessFlags := 48
  interfaces := #[]
  cf := some (fileOf pool13 14 #[.nestMembers #[390, 221]] #[{ accessFlags := 0, nameIndex := 7, descriptorIndex := 8, attributes := #[] }] 48 4 #[] #[{ accessFlags := 4120, nameIndex := 121, descriptorIndex := 122, attributes := #[] }])
  fields := #[{ name := "$assertionsDisabled", type := .boolean, accessFlags := 4120, slot := 0, constantValue := 0 }]
  methods := #[k13m0]
  instanceTypes := #[]
  staticTypes := #[.boolean]
  resolved := Array.replicate 395 none
  statics := none }

def pool14 : Array CpInfo := pool [(2, .class_ 4), (1, u "java/lang/Object"), (0, u "<init>"), (0, u "()V"), (17, .class_ 26), (1, u "jdk/internal/util/Preconditions"), (28, .class_ 56), (0, u "jdk/internal/util/Preconditions$4"), (57, .class_ 115), (0, u "jdk/internal/util/Preconditions$1"), (7, u "SIOOBE_FORMATTER"), (0, u "Ljava/util/function/BiFunction;"), (0, .class_ 126), (0, u "jdk/internal/util/Preconditions$2"), (3, u "AIOOBE_FORMATTER"), (0, .class_ 132), (0, u "jdk/internal/util/Preconditions$3"), (3, u "IOOBE_FORMATTER")] 57

def k14m0 : Method := { name := "<init>", desc := "()V", sig := { parameters := [], returnType := none }, accessFlags := 1, code := none }
/-- jdk/internal/util/Preconditions -/
def k14 : Class := { plain "jdk/internal/util/Preconditions" (some 0) with
  accessFlags := 33
  interfaces := #[]
  cf := some (fileOf pool14 24 #[.nestMembers #[55, 131, 125, 114]] #[{ accessFlags := 1, nameIndex := 5, descriptorIndex := 6, attributes := #[] }] 33 2 #[] #[{ accessFlags := 25, nameIndex := 123, descriptorIndex := 124, attributes := #[] }, { accessFlags := 25, nameIndex := 130, descriptorIndex := 124, attributes := #[] }, { accessFlags := 25, nameIndex := 136, descriptorIndex := 124, attributes := #[] }])
  fields := #[{ name := "SIOOBE_FORMATTER", type := (.object "java/util/function/BiFunction"), accessFlags := 25, slot := 0, constantValue := 0 }, { name := "AIOOBE_FORMATTER", type := (.object "java/util/function/BiFunction"), accessFlags := 25, slot := 1, constantValue := 0 }, { name := "IOOBE_FORMATTER", type := (.object "java/util/function/BiFunction"), accessFlags := 25, slot := 2, constantValue := 0 }]
  methods := #[k14m0]
  instanceTypes := #[]
  staticTypes := #[(.object "java/util/function/BiFunction"), (.object "java/util/function/BiFunction"), (.object "java/util/function/BiFunction")]
  resolved := Array.replicate 194 none
  statics := some 2 }

def pool15 : Array CpInfo := pool [(9, u "<init>"), (6, .class_ 18), (1, u "java/lang/Object"), (0, u "()V"), (1, .class_ 23), (1, u "jdk/internal/util/ArraysSupport"), (0, u "LOG2_ARRAY_LONG_INDEX_SCALE"), (0, u "I"), (2, u "U"), (0, u "Ljdk/internal/misc/Unsafe;"), (8, u "BIG_ENDIAN"), (0, u "Z"), (8, u "LOG2_BYTE_BIT_SIZE"), (4, u "LOG2_ARRAY_INT_INDEX_SCALE"), (54, u "JLA"), (0, u "Ljdk/internal/access/JavaLangAccess;"), (11, u "LOG2_ARRAY_BOOLEAN_INDEX_SCALE"), (9, u "LOG2_ARRAY_BYTE_INDEX_SCALE"), (5, u "LOG2_ARRAY_CHAR_INDEX_SCALE"), (5, u "LOG2_ARRAY_SHORT_INDEX_SCALE"), (18, u "LOG2_ARRAY_FLOAT_INDEX_SCALE"), (24, u "LOG2_ARRAY_DOUBLE_INDEX_SCALE"), (89, u "T_BOOLEAN"), (2, u "T_CHAR"), (1, u "T_FLOAT"), (1, u "T_DOUBLE"), (1, u "T_BYTE"), (1, u "T_SHORT"), (1, u "T_INT"), (1, u "T_LONG"), (1, u "SOFT_MAX_ARRAY_LENGTH")] 83

def k15m0 : Method := { name := "<init>", desc := "()V", sig := { parameters := [], returnType := none }, accessFlags := 2, code := none }
/-- jdk/internal/util/ArraysSupport -/
def k15 : Class := { plain "jdk/internal/util/ArraysSupport" (some 0) with
  accessFlags := 33
  interfaces := #[]
  cf := some (fileOf pool15 21 #[] #[{ accessFlags := 2, nameIndex := 9, descriptorIndex := 19, attributes := #[] }] 33 16 #[] #[{ accessFlags := 24, nameIndex := 28, descriptorIndex := 29, attributes := #[] }, { accessFlags := 26, nameIndex := 38, descriptorIndex := 39, attributes := #[] }, { accessFlags := 25, nameIndex := 121, descriptorIndex := 25, attributes := #[] }, { accessFlags := 25, nameIndex := 131, descriptorIndex := 25, attributes := #[] }, { accessFlags := 25, nameIndex := 137, descriptorIndex := 25, attributes := #[] }, { accessFlags := 25, nameIndex := 143, descriptorIndex := 25, attributes := #[] }, { accessFlags := 25, nameIndex := 53, descriptorIndex := 25, attributes := #[] }, { accessFlags := 25, nameIndex := 24, descriptorIndex := 25, attributes := #[] }, { accessFlags := 25, nameIndex := 162, descriptorIndex := 25, attributes := #[] }, { accessFlags := 25, nameIndex := 187, descriptorIndex := 25, attributes := #[] }, { accessFlags := 26, nameIndex := 48, descriptorIndex := 25, attributes := #[] }, { accessFlags := 25, nameIndex := 277, descriptorIndex := 25, attributes := #[] }, { accessFlags := 25, nameIndex := 280, descriptorIndex := 25, attributes := #[] }, { accessFlags := 25, nameIndex := 282, descriptorIndex := 25, attributes := #[] }, { accessFlags := 25, nameIndex := 284, descriptorIndex := 25, attributes := #[] }, { accessFlags := 25, nameIndex := 286, descriptorIndex := 25, attributes := #[] }, { accessFlags := 25, nameIndex := 288, descriptorIndex := 25, attributes := #[] }, { accessFlags := 25, nameIndex := 290, descriptorIndex := 25, attributes := #[] }, { accessFlags := 25, nameIndex := 292, descriptorIndex := 25, attributes := #[] }, { accessFlags := 26, nameIndex := 108, descriptorIndex := 109, attributes := #[] }, { accessFlags := 25, nameIndex := 294, descriptorIndex := 25, attributes := #[] }])
  fields := #[{ name := "U", type := (.object "jdk/internal/misc/Unsafe"), accessFlags := 24, slot := 0, constantValue := 0 }, { name := "BIG_ENDIAN", type := .boolean, accessFlags := 26, slot := 1, constantValue := 0 }, { name := "LOG2_ARRAY_BOOLEAN_INDEX_SCALE", type := .int, accessFlags := 25, slot := 2, constantValue := 0 }, { name := "LOG2_ARRAY_BYTE_INDEX_SCALE", type := .int, accessFlags := 25, slot := 3, constantValue := 0 }, { name := "LOG2_ARRAY_CHAR_INDEX_SCALE", type := .int, accessFlags := 25, slot := 4, constantValue := 0 }, { name := "LOG2_ARRAY_SHORT_INDEX_SCALE", type := .int, accessFlags := 25, slot := 5, constantValue := 0 }, { name := "LOG2_ARRAY_INT_INDEX_SCALE", type := .int, accessFlags := 25, slot := 6, constantValue := 0 }, { name := "LOG2_ARRAY_LONG_INDEX_SCALE", type := .int, accessFlags := 25, slot := 7, constantValue := 0 }, { name := "LOG2_ARRAY_FLOAT_INDEX_SCALE", type := .int, accessFlags := 25, slot := 8, constantValue := 0 }, { name := "LOG2_ARRAY_DOUBLE_INDEX_SCALE", type := .int, accessFlags := 25, slot := 9, constantValue := 0 }, { name := "LOG2_BYTE_BIT_SIZE", type := .int, accessFlags := 26, slot := 10, constantValue := 0 }, { name := "T_BOOLEAN", type := .int, accessFlags := 25, slot := 11, constantValue := 0 }, { name := "T_CHAR", type := .int, accessFlags := 25, slot := 12, constantValue := 0 }, { name := "T_FLOAT", type := .int, accessFlags := 25, slot := 13, constantValue := 0 }, { name := "T_DOUBLE", type := .int, accessFlags := 25, slot := 14, constantValue := 0 }, { name := "T_BYTE", type := .int, accessFlags := 25, slot := 15, constantValue := 0 }, { name := "T_SHORT", type := .int, accessFlags := 25, slot := 16, constantValue := 0 }, { name := "T_INT", type := .int, accessFlags := 25, slot := 17, constantValue := 0 }, { name := "T_LONG", type := .int, accessFlags := 25, slot := 18, constantValue := 0 }, { name := "JLA", type := (.object "jdk/internal/access/JavaLangAccess"), accessFlags := 26, slot := 19, constantValue := 0 }, { name := "SOFT_MAX_ARRAY_LENGTH", type := .int, accessFlags := 25, slot := 20, constantValue := 0 }]
  methods := #[k15m0]
  instanceTypes := #[]
  staticTypes := #[(.object "jdk/internal/misc/Unsafe"), .boolean, .int, .int, .int, .int, .int, .int, .int, .int, .int, .int, .int, .int, .int, .int, .int, .int, .int, (.object "jdk/internal/access/JavaLangAccess"), .int]
  resolved := Array.replicate 378 none
  statics := none }

def pool16 : Array CpInfo := pool [(1, u "java/lang/Cloneable"), (0, .class_ 1), (0, u "java/lang/Object"), (0, .class_ 3)] 3

/-- java/lang/Cloneable -/
def k16 : Class := { plain "java/lang/Cloneable" (some 0) with
  accessFlags := 1537
  interfaces := #[]
  cf := some (fileOf pool16 2 #[] #[] 1537 4 #[] #[])
  fields := #[]
  methods := #[]
  instanceTypes := #[]
  staticTypes := #[]
  resolved := Array.replicate 8 none
  statics := none }

/-- the primitive byte -/
def k17 : Class := { plain "byte" none with kind := .primitive 'B', accessFlags := 0x411 }
/-- [B -/
def k18 : Class := { plain "[B" (some 0) with kind := .array 17 .byte, interfaces := #[16, 2], accessFlags := 1041 }

/-- the primitive char -/
def k19 : Class := { plain "char" none with kind := .primitive 'C', accessFlags := 0x411 }
/-- [C -/
def k20 : Class := { plain "[C" (some 0) with kind := .array 19 .char, interfaces := #[16, 2], accessFlags := 1041 }

/-- the primitive int -/
def k21 : Class := { plain "int" none with kind := .primitive 'I', accessFlags := 0x411 }
/-- [I -/
def k22 : Class := { plain "[I" (some 0) with kind := .array 21 .int, interfaces := #[16, 2], accessFlags := 1041 }

/-- [Ljava/lang/Integer; -/
def k23 : Class := { plain "[Ljava/lang/Integer;" (some 0) with kind := .array 7 (.object "java/lang/Integer"), interfaces := #[16, 2], accessFlags := 1041 }

def heap : Heap := #[{ cls := 8, slots := #[.int 0, .int 127, .ref 3, .null, .int 0], vm := .statics 8 },
  { cls := 11, slots := #[.long 0, .int 1, .null, .int 0, .null, .int 0, .int 0], vm := .statics 11 },
  { cls := 14, slots := #[.null, .null, .null], vm := .statics 14 },
  { cls := 23, slots := #[.ref 4, .ref 5, .ref 6, .ref 7, .ref 8, .ref 9, .ref 10, .ref 11, .ref 12, .ref 13, .ref 14, .ref 15, .ref 16, .ref 17, .ref 18, .ref 19, .ref 20, .ref 21, .ref 22, .ref 23, .ref 24, .ref 25, .ref 26, .ref 27, .ref 28, .ref 29, .ref 30, .ref 31, .ref 32, .ref 33, .ref 34, .ref 35, .ref 36, .ref 37, .ref 38, .ref 39, .ref 40, .ref 41, .ref 42, .ref 43, .ref 44, .ref 45, .ref 46, .ref 47, .ref 48, .ref 49, .ref 50, .ref 51, .ref 52, .ref 53, .ref 54, .ref 55, .ref 56, .ref 57, .ref 58, .ref 59, .ref 60, .ref 61, .ref 62, .ref 63, .ref 64, .ref 65, .ref 66, .ref 67, .ref 68, .ref 69, .ref 70, .ref 71, .ref 72, .ref 73, .ref 74, .ref 75, .ref 76, .ref 77, .ref 78, .ref 79, .ref 80, .ref 81, .ref 82, .ref 83, .ref 84, .ref 85, .ref 86, .ref 87, .ref 88, .ref 89, .ref 90, .ref 91, .ref 92, .ref 93, .ref 94, .ref 95, .ref 96, .ref 97, .ref 98, .ref 99, .ref 100, .ref 101, .ref 102, .ref 103, .ref 104, .ref 105, .ref 106, .ref 107, .ref 108, .ref 109, .ref 110, .ref 111, .ref 112, .ref 113, .ref 114, .ref 115, .ref 116, .ref 117, .ref 118, .ref 119, .ref 120, .ref 121, .ref 122, .ref 123, .ref 124, .ref 125, .ref 126, .ref 127, .ref 128, .ref 129, .ref 130, .ref 131, .ref 132, .ref 133, .ref 134, .ref 135, .ref 136, .ref 137, .ref 138, .ref 139, .ref 140, .ref 141, .ref 142, .ref 143, .ref 144, .ref 145, .ref 146, .ref 147, .ref 148, .ref 149, .ref 150, .ref 151, .ref 152, .ref 153, .ref 154, .ref 155, .ref 156, .ref 157, .ref 158, .ref 159, .ref 160, .ref 161, .ref 162, .ref 163, .ref 164, .ref 165, .ref 166, .ref 167, .ref 168, .ref 169, .ref 170, .ref 171, .ref 172, .ref 173, .ref 174, .ref 175, .ref 176, .ref 177, .ref 178, .ref 179, .ref 180, .ref 181, .ref 182, .ref 183, .ref 184, .ref 185, .ref 186, .ref 187, .ref 188, .ref 189, .ref 190, .ref 191, .ref 192, .ref 193, .ref 194, .ref 195, .ref 196, .ref 197, .ref 198, .ref 199, .ref 200, .ref 201, .ref 202, .ref 203, .ref 204, .ref 205, .ref 206, .ref 207, .ref 208, .ref 209, .ref 210, .ref 211, .ref 212, .ref 213, .ref 214, .ref 215, .ref 216, .ref 217, .ref 218, .ref 219, .ref 220, .ref 221, .ref 222, .ref 223, .ref 224, .ref 225, .ref 226, .ref 227, .ref 228, .ref 229, .ref 230, .ref 231, .ref 232, .ref 233, .ref 234, .ref 235, .ref 236, .ref 237, .ref 238, .ref 239, .ref 240, .ref 241, .ref 242, .ref 243, .ref 244, .ref 245, .ref 246, .ref 247, .ref 248, .ref 249, .ref 250, .ref 251, .ref 252, .ref 253, .ref 254, .ref 255, .ref 256, .ref 257, .ref 258, .ref 259], vm := .none },
  { cls := 7, slots := #[.int (-128)], vm := .none },
  { cls := 7, slots := #[.int (-127)], vm := .none },
  { cls := 7, slots := #[.int (-126)], vm := .none },
  { cls := 7, slots := #[.int (-125)], vm := .none },
  { cls := 7, slots := #[.int (-124)], vm := .none },
  { cls := 7, slots := #[.int (-123)], vm := .none },
  { cls := 7, slots := #[.int (-122)], vm := .none },
  { cls := 7, slots := #[.int (-121)], vm := .none },
  { cls := 7, slots := #[.int (-120)], vm := .none },
  { cls := 7, slots := #[.int (-119)], vm := .none },
  { cls := 7, slots := #[.int (-118)], vm := .none },
  { cls := 7, slots := #[.int (-117)], vm := .none },
  { cls := 7, slots := #[.int (-116)], vm := .none },
  { cls := 7, slots := #[.int (-115)], vm := .none },
  { cls := 7, slots := #[.int (-114)], vm := .none },
  { cls := 7, slots := #[.int (-113)], vm := .none },
  { cls := 7, slots := #[.int (-112)], vm := .none },
  { cls := 7, slots := #[.int (-111)], vm := .none },
  { cls := 7, slots := #[.int (-110)], vm := .none },
  { cls := 7, slots := #[.int (-109)], vm := .none },
  { cls := 7, slots := #[.int (-108)], vm := .none },
  { cls := 7, slots := #[.int (-107)], vm := .none },
  { cls := 7, slots := #[.int (-106)], vm := .none },
  { cls := 7, slots := #[.int (-105)], vm := .none },
  { cls := 7, slots := #[.int (-104)], vm := .none },
  { cls := 7, slots := #[.int (-103)], vm := .none },
  { cls := 7, slots := #[.int (-102)], vm := .none },
  { cls := 7, slots := #[.int (-101)], vm := .none },
  { cls := 7, slots := #[.int (-100)], vm := .none },
  { cls := 7, slots := #[.int (-99)], vm := .none },
  { cls := 7, slots := #[.int (-98)], vm := .none },
  { cls := 7, slots := #[.int (-97)], vm := .none },
  { cls := 7, slots := #[.int (-96)], vm := .none },
  { cls := 7, slots := #[.int (-95)], vm := .none },
  { cls := 7, slots := #[.int (-94)], vm := .none },
  { cls := 7, slots := #[.int (-93)], vm := .none },
  { cls := 7, slots := #[.int (-92)], vm := .none },
  { cls := 7, slots := #[.int (-91)], vm := .none },
  { cls := 7, slots := #[.int (-90)], vm := .none },
  { cls := 7, slots := #[.int (-89)], vm := .none },
  { cls := 7, slots := #[.int (-88)], vm := .none },
  { cls := 7, slots := #[.int (-87)], vm := .none },
  { cls := 7, slots := #[.int (-86)], vm := .none },
  { cls := 7, slots := #[.int (-85)], vm := .none },
  { cls := 7, slots := #[.int (-84)], vm := .none },
  { cls := 7, slots := #[.int (-83)], vm := .none },
  { cls := 7, slots := #[.int (-82)], vm := .none },
  { cls := 7, slots := #[.int (-81)], vm := .none },
  { cls := 7, slots := #[.int (-80)], vm := .none },
  { cls := 7, slots := #[.int (-79)], vm := .none },
  { cls := 7, slots := #[.int (-78)], vm := .none },
  { cls := 7, slots := #[.int (-77)], vm := .none },
  { cls := 7, slots := #[.int (-76)], vm := .none },
  { cls := 7, slots := #[.int (-75)], vm := .none },
  { cls := 7, slots := #[.int (-74)], vm := .none },
  { cls := 7, slots := #[.int (-73)], vm := .none },
  { cls := 7, slots := #[.int (-72)], vm := .none },
  { cls := 7, slots := #[.int (-71)], vm := .none },
  { cls := 7, slots := #[.int (-70)], vm := .none },
  { cls := 7, slots := #[.int (-69)], vm := .none },
  { cls := 7, slots := #[.int (-68)], vm := .none },
  { cls := 7, slots := #[.int (-67)], vm := .none },
  { cls := 7, slots := #[.int (-66)], vm := .none },
  { cls := 7, slots := #[.int (-65)], vm := .none },
  { cls := 7, slots := #[.int (-64)], vm := .none },
  { cls := 7, slots := #[.int (-63)], vm := .none },
  { cls := 7, slots := #[.int (-62)], vm := .none },
  { cls := 7, slots := #[.int (-61)], vm := .none },
  { cls := 7, slots := #[.int (-60)], vm := .none },
  { cls := 7, slots := #[.int (-59)], vm := .none },
  { cls := 7, slots := #[.int (-58)], vm := .none },
  { cls := 7, slots := #[.int (-57)], vm := .none },
  { cls := 7, slots := #[.int (-56)], vm := .none },
  { cls := 7, slots := #[.int (-55)], vm := .none },
  { cls := 7, slots := #[.int (-54)], vm := .none },
  { cls := 7, slots := #[.int (-53)], vm := .none },
  { cls := 7, slots := #[.int (-52)], vm := .none },
  { cls := 7, slots := #[.int (-51)], vm := .none },
  { cls := 7, slots := #[.int (-50)], vm := .none },
  { cls := 7, slots := #[.int (-49)], vm := .none },
  { cls := 7, slots := #[.int (-48)], vm := .none },
  { cls := 7, slots := #[.int (-47)], vm := .none },
  { cls := 7, slots := #[.int (-46)], vm := .none },
  { cls := 7, slots := #[.int (-45)], vm := .none },
  { cls := 7, slots := #[.int (-44)], vm := .none },
  { cls := 7, slots := #[.int (-43)], vm := .none },
  { cls := 7, slots := #[.int (-42)], vm := .none },
  { cls := 7, slots := #[.int (-41)], vm := .none },
  { cls := 7, slots := #[.int (-40)], vm := .none },
  { cls := 7, slots := #[.int (-39)], vm := .none },
  { cls := 7, slots := #[.int (-38)], vm := .none },
  { cls := 7, slots := #[.int (-37)], vm := .none },
  { cls := 7, slots := #[.int (-36)], vm := .none },
  { cls := 7, slots := #[.int (-35)], vm := .none },
  { cls := 7, slots := #[.int (-34)], vm := .none },
  { cls := 7, slots := #[.int (-33)], vm := .none },
  { cls := 7, slots := #[.int (-32)], vm := .none },
  { cls := 7, slots := #[.int (-31)], vm := .none },
  { cls := 7, slots := #[.int (-30)], vm := .none },
  { cls := 7, slots := #[.int (-29)], vm := .none },
  { cls := 7, slots := #[.int (-28)], vm := .none },
  { cls := 7, slots := #[.int (-27)], vm := .none },
  { cls := 7, slots := #[.int (-26)], vm := .none },
  { cls := 7, slots := #[.int (-25)], vm := .none },
  { cls := 7, slots := #[.int (-24)], vm := .none },
  { cls := 7, slots := #[.int (-23)], vm := .none },
  { cls := 7, slots := #[.int (-22)], vm := .none },
  { cls := 7, slots := #[.int (-21)], vm := .none },
  { cls := 7, slots := #[.int (-20)], vm := .none },
  { cls := 7, slots := #[.int (-19)], vm := .none },
  { cls := 7, slots := #[.int (-18)], vm := .none },
  { cls := 7, slots := #[.int (-17)], vm := .none },
  { cls := 7, slots := #[.int (-16)], vm := .none },
  { cls := 7, slots := #[.int (-15)], vm := .none },
  { cls := 7, slots := #[.int (-14)], vm := .none },
  { cls := 7, slots := #[.int (-13)], vm := .none },
  { cls := 7, slots := #[.int (-12)], vm := .none },
  { cls := 7, slots := #[.int (-11)], vm := .none },
  { cls := 7, slots := #[.int (-10)], vm := .none },
  { cls := 7, slots := #[.int (-9)], vm := .none },
  { cls := 7, slots := #[.int (-8)], vm := .none },
  { cls := 7, slots := #[.int (-7)], vm := .none },
  { cls := 7, slots := #[.int (-6)], vm := .none },
  { cls := 7, slots := #[.int (-5)], vm := .none },
  { cls := 7, slots := #[.int (-4)], vm := .none },
  { cls := 7, slots := #[.int (-3)], vm := .none },
  { cls := 7, slots := #[.int (-2)], vm := .none },
  { cls := 7, slots := #[.int (-1)], vm := .none },
  { cls := 7, slots := #[.int (0)], vm := .none },
  { cls := 7, slots := #[.int (1)], vm := .none },
  { cls := 7, slots := #[.int (2)], vm := .none },
  { cls := 7, slots := #[.int (3)], vm := .none },
  { cls := 7, slots := #[.int (4)], vm := .none },
  { cls := 7, slots := #[.int (5)], vm := .none },
  { cls := 7, slots := #[.int (6)], vm := .none },
  { cls := 7, slots := #[.int (7)], vm := .none },
  { cls := 7, slots := #[.int (8)], vm := .none },
  { cls := 7, slots := #[.int (9)], vm := .none },
  { cls := 7, slots := #[.int (10)], vm := .none },
  { cls := 7, slots := #[.int (11)], vm := .none },
  { cls := 7, slots := #[.int (12)], vm := .none },
  { cls := 7, slots := #[.int (13)], vm := .none },
  { cls := 7, slots := #[.int (14)], vm := .none },
  { cls := 7, slots := #[.int (15)], vm := .none },
  { cls := 7, slots := #[.int (16)], vm := .none },
  { cls := 7, slots := #[.int (17)], vm := .none },
  { cls := 7, slots := #[.int (18)], vm := .none },
  { cls := 7, slots := #[.int (19)], vm := .none },
  { cls := 7, slots := #[.int (20)], vm := .none },
  { cls := 7, slots := #[.int (21)], vm := .none },
  { cls := 7, slots := #[.int (22)], vm := .none },
  { cls := 7, slots := #[.int (23)], vm := .none },
  { cls := 7, slots := #[.int (24)], vm := .none },
  { cls := 7, slots := #[.int (25)], vm := .none },
  { cls := 7, slots := #[.int (26)], vm := .none },
  { cls := 7, slots := #[.int (27)], vm := .none },
  { cls := 7, slots := #[.int (28)], vm := .none },
  { cls := 7, slots := #[.int (29)], vm := .none },
  { cls := 7, slots := #[.int (30)], vm := .none },
  { cls := 7, slots := #[.int (31)], vm := .none },
  { cls := 7, slots := #[.int (32)], vm := .none },
  { cls := 7, slots := #[.int (33)], vm := .none },
  { cls := 7, slots := #[.int (34)], vm := .none },
  { cls := 7, slots := #[.int (35)], vm := .none },
  { cls := 7, slots := #[.int (36)], vm := .none },
  { cls := 7, slots := #[.int (37)], vm := .none },
  { cls := 7, slots := #[.int (38)], vm := .none },
  { cls := 7, slots := #[.int (39)], vm := .none },
  { cls := 7, slots := #[.int (40)], vm := .none },
  { cls := 7, slots := #[.int (41)], vm := .none },
  { cls := 7, slots := #[.int (42)], vm := .none },
  { cls := 7, slots := #[.int (43)], vm := .none },
  { cls := 7, slots := #[.int (44)], vm := .none },
  { cls := 7, slots := #[.int (45)], vm := .none },
  { cls := 7, slots := #[.int (46)], vm := .none },
  { cls := 7, slots := #[.int (47)], vm := .none },
  { cls := 7, slots := #[.int (48)], vm := .none },
  { cls := 7, slots := #[.int (49)], vm := .none },
  { cls := 7, slots := #[.int (50)], vm := .none },
  { cls := 7, slots := #[.int (51)], vm := .none },
  { cls := 7, slots := #[.int (52)], vm := .none },
  { cls := 7, slots := #[.int (53)], vm := .none },
  { cls := 7, slots := #[.int (54)], vm := .none },
  { cls := 7, slots := #[.int (55)], vm := .none },
  { cls := 7, slots := #[.int (56)], vm := .none },
  { cls := 7, slots := #[.int (57)], vm := .none },
  { cls := 7, slots := #[.int (58)], vm := .none },
  { cls := 7, slots := #[.int (59)], vm := .none },
  { cls := 7, slots := #[.int (60)], vm := .none },
  { cls := 7, slots := #[.int (61)], vm := .none },
  { cls := 7, slots := #[.int (62)], vm := .none },
  { cls := 7, slots := #[.int (63)], vm := .none },
  { cls := 7, slots := #[.int (64)], vm := .none },
  { cls := 7, slots := #[.int (65)], vm := .none },
  { cls := 7, slots := #[.int (66)], vm := .none },
  { cls := 7, slots := #[.int (67)], vm := .none },
  { cls := 7, slots := #[.int (68)], vm := .none },
  { cls := 7, slots := #[.int (69)], vm := .none },
  { cls := 7, slots := #[.int (70)], vm := .none },
  { cls := 7, slots := #[.int (71)], vm := .none },
  { cls := 7, slots := #[.int (72)], vm := .none },
  { cls := 7, slots := #[.int (73)], vm := .none },
  { cls := 7, slots := #[.int (74)], vm := .none },
  { cls := 7, slots := #[.int (75)], vm := .none },
  { cls := 7, slots := #[.int (76)], vm := .none },
  { cls := 7, slots := #[.int (77)], vm := .none },
  { cls := 7, slots := #[.int (78)], vm := .none },
  { cls := 7, slots := #[.int (79)], vm := .none },
  { cls := 7, slots := #[.int (80)], vm := .none },
  { cls := 7, slots := #[.int (81)], vm := .none },
  { cls := 7, slots := #[.int (82)], vm := .none },
  { cls := 7, slots := #[.int (83)], vm := .none },
  { cls := 7, slots := #[.int (84)], vm := .none },
  { cls := 7, slots := #[.int (85)], vm := .none },
  { cls := 7, slots := #[.int (86)], vm := .none },
  { cls := 7, slots := #[.int (87)], vm := .none },
  { cls := 7, slots := #[.int (88)], vm := .none },
  { cls := 7, slots := #[.int (89)], vm := .none },
  { cls := 7, slots := #[.int (90)], vm := .none },
  { cls := 7, slots := #[.int (91)], vm := .none },
  { cls := 7, slots := #[.int (92)], vm := .none },
  { cls := 7, slots := #[.int (93)], vm := .none },
  { cls := 7, slots := #[.int (94)], vm := .none },
  { cls := 7, slots := #[.int (95)], vm := .none },
  { cls := 7, slots := #[.int (96)], vm := .none },
  { cls := 7, slots := #[.int (97)], vm := .none },
  { cls := 7, slots := #[.int (98)], vm := .none },
  { cls := 7, slots := #[.int (99)], vm := .none },
  { cls := 7, slots := #[.int (100)], vm := .none },
  { cls := 7, slots := #[.int (101)], vm := .none },
  { cls := 7, slots := #[.int (102)], vm := .none },
  { cls := 7, slots := #[.int (103)], vm := .none },
  { cls := 7, slots := #[.int (104)], vm := .none },
  { cls := 7, slots := #[.int (105)], vm := .none },
  { cls := 7, slots := #[.int (106)], vm := .none },
  { cls := 7, slots := #[.int (107)], vm := .none },
  { cls := 7, slots := #[.int (108)], vm := .none },
  { cls := 7, slots := #[.int (109)], vm := .none },
  { cls := 7, slots := #[.int (110)], vm := .none },
  { cls := 7, slots := #[.int (111)], vm := .none },
  { cls := 7, slots := #[.int (112)], vm := .none },
  { cls := 7, slots := #[.int (113)], vm := .none },
  { cls := 7, slots := #[.int (114)], vm := .none },
  { cls := 7, slots := #[.int (115)], vm := .none },
  { cls := 7, slots := #[.int (116)], vm := .none },
  { cls := 7, slots := #[.int (117)], vm := .none },
  { cls := 7, slots := #[.int (118)], vm := .none },
  { cls := 7, slots := #[.int (119)], vm := .none },
  { cls := 7, slots := #[.int (120)], vm := .none },
  { cls := 7, slots := #[.int (121)], vm := .none },
  { cls := 7, slots := #[.int (122)], vm := .none },
  { cls := 7, slots := #[.int (123)], vm := .none },
  { cls := 7, slots := #[.int (124)], vm := .none },
  { cls := 7, slots := #[.int (125)], vm := .none },
  { cls := 7, slots := #[.int (126)], vm := .none },
  { cls := 7, slots := #[.int (127)], vm := .none }]
def classes : Array Class := #[k0, k1, k2, k3, k4, k5, k6, k7, k8, k9, k10, k11, k12, k13, k14, k15, k16, k17, k18, k19, k20, k21, k22, k23]
def interned : List (Array UInt16 × Addr) := []
def slotsUsed : Nat := 527
def theMethod : MethodId := ⟨1, 1⟩
def args0 : Array Value := #[.int 65, .int 66, .int 67, .int 4]
def aboutOver (below : List Frame) : State where
  vm := { classes := classes, interned := interned.toArray }
  heap := heap
  slotsUsed := slotsUsed
  threads := #[{ frames := .invoking theMethod args0 :: below }]
def below0 : List Frame := [.native { method := ⟨0, 0⟩, args := #[] }]
def about1 : State := aboutOver below0
def p0 : Program := .bare "" "" ""
def e0 : Env := launch0.env 0 0 0
theorem w_frames : about1.frames = Frame.invoking theMethod args0 :: below0 := rfl
set_option maxRecDepth 65536 in
theorem w_args : argsFit about1.vm theMethod args0 = true := by decide +kernel
set_option maxRecDepth 65536 in
theorem w_heap : heapFits about1 = true := by decide +kernel
set_option maxRecDepth 65536 in
theorem w_runnable : about1.curStatus? = some .runnable := by decide +kernel
set_option maxRecDepth 65536 in
theorem w_alone : about1.alone = true := by decide +kernel
set_option maxRecDepth 65536 in
theorem w_named : about1.methodNamed? x = some theMethod := by decide +kernel
set_option maxRecDepth 65536 in
theorem w_hears : about1.hears theMethod below0 = true := by decide +kernel
set_option maxRecDepth 65536 in
theorem w_ripe : about1.ripe theMethod args0 below0 = true := by decide +kernel
theorem w_running : about1.status = .running := rfl
set_option maxRecDepth 65536 in
theorem w_room : about1.hasRoom e0.platform room_1 = true :=
  launch0.hasRoom_least _ room_1 (by decide +kernel) (by decide +kernel) (by decide +kernel) (by decide +kernel) (by decide +kernel) (by decide +kernel)
theorem allAtoms_all (ts : List Jvm.Cond) (a : Array Jvm.Value) (st : Jvm.State) : (allAtoms ts).before a st = ts.all (fun c => c.before a st) := by
  induction ts with
  | nil => rfl
  | cons c t ih =>
    show (Jvm.Cond.and c (allAtoms t)).before a st = _
    rw [Jvm.Cond.before_and, ih, List.all_cons]
def words1 : List Jvm.Cond := Jvm.Cond.code x code maxLocals ret :: tables_1
/-- a 'code' word, met by the world's own term for the bytes: nothing is compared byte by byte -/
theorem code_word {y : MethodName} {bytes : ByteArray} {mx : Nat} {rt : Option FieldType} {a : Array Value} {s : State} {m : MethodId} {meth : Method} {c : Code} (h1 : s.methodNamed? y = some m) (h2 : s.vm.method? m = some meth) (h3 : meth.code = some c) (h4 : c.code = bytes)
    (h5 : (c.maxLocals == mx && c.exceptionTable.isEmpty && decide (c.maxStack ≤ mostOperands) && decide (meth.sig.returnType = rt) && !meth.locks && decide (parseMethodDescriptor y.desc = some meth.sig)) = true) : (Jvm.Cond.code y bytes mx rt).before a s = true := by
  simp only [Bool.and_eq_true, beq_iff_eq, Bool.not_eq_true', decide_eq_true_eq] at h5
  obtain ⟨⟨⟨⟨⟨g1, g2⟩, g3⟩, g4⟩, g5⟩, g6⟩ := h5
  simp [Cond.before, Cond.holds, Cond.value, h1, h2, h3, h4, g1, g2, g3, g4, g5, g6]
def isCode : Jvm.Cond → Bool
  | .code _ _ _ _ => true
  | _ => false
theorem all_split {L : List Jvm.Cond} {P : Jvm.Cond → Bool} (h1 : L.all (fun c => isCode c || P c) = true) (h2 : ∀ c ∈ L.filter isCode, P c = true) : L.all P = true := by
  refine List.all_eq_true.mpr fun c hc => ?_
  have h := List.all_eq_true.mp h1 c hc
  rcases Bool.eq_false_or_eq_true (isCode c) with hi | hi
  · exact h2 c (List.mem_filter.mpr ⟨hc, hi⟩)
  · simpa [hi] using h
set_option maxRecDepth 65536 in
theorem w_c0 : (Jvm.Cond.code x code maxLocals ret).before args0 about1 = true := code_word (m := ⟨1, 1⟩) (meth := k1m1) (c := k1c1) (by decide +kernel) rfl rfl rfl (by decide +kernel)
set_option maxRecDepth 65536 in
theorem w_c1 : (Jvm.Cond.code ({ cls := "java/lang/Integer", name := "valueOf", desc := "(I)Ljava/lang/Integer;" } : Jvm.MethodName) jdk_33_method_22_code (1 : Nat) (Option.some (Jvm.ClassFile.FieldType.object "java/lang/Integer"))).before args0 about1 = true := code_word (m := ⟨7, 0⟩) (meth := k7m0) (c := k7c0) (by decide +kernel) rfl rfl rfl (by decide +kernel)
set_option maxRecDepth 65536 in
theorem w_c2 : (Jvm.Cond.code ({ cls := "com/example/grapple/grapple/internal/Limits", name := "checkPresent", desc := "(Ljava/lang/Object;Ljava/lang/String;)Ljava/lang/Object;" } : Jvm.MethodName) prog_3_method_2_code (2 : Nat) (Option.some (Jvm.ClassFile.FieldType.object "java/lang/Object"))).before args0 about1 = true := code_word (m := ⟨9, 1⟩) (meth := k9m1) (c := k9c1) (by decide +kernel) rfl rfl rfl (by decide +kernel)
set_option maxRecDepth 65536 in
theorem w_c3 : (Jvm.Cond.code ({ cls := "java/lang/String", name := "<init>", desc := "([C)V" } : Jvm.MethodName) jdk_42_method_3_code (2 : Nat) (Option.none : Option Jvm.ClassFile.FieldType)).before args0 about1 = true := code_word (m := ⟨11, 1⟩) (meth := k11m1) (c := k11c1) (by decide +kernel) rfl rfl rfl (by decide +kernel)
set_option maxRecDepth 65536 in
theorem w_c4 : (Jvm.Cond.code ({ cls := "java/lang/String", name := "<init>", desc := "([CIILjava/lang/Void;)V" } : Jvm.MethodName) jdk_42_method_149_code (6 : Nat) (Option.none : Option Jvm.ClassFile.FieldType)).before args0 about1 = true := code_word (m := ⟨11, 2⟩) (meth := k11m2) (c := k11c2) (by decide +kernel) rfl rfl rfl (by decide +kernel)
set_option maxRecDepth 65536 in
theorem w_c5 : (Jvm.Cond.code ({ cls := "java/lang/Object", name := "<init>", desc := "()V" } : Jvm.MethodName) object_method_1_code (1 : Nat) (Option.none : Option Jvm.ClassFile.FieldType)).before args0 about1 = true := code_word (m := ⟨0, 0⟩) (meth := k0m0) (c := k0c0) (by decide +kernel) rfl rfl rfl (by decide +kernel)
set_option maxRecDepth 65536 in
theorem w_c6 : (Jvm.Cond.code ({ cls := "java/lang/StringUTF16", name := "compress", desc := "([CII)[B" } : Jvm.MethodName) jdk_52_method_16_code (6 : Nat) (Option.some (Jvm.ClassFile.FieldType.array Jvm.ClassFile.FieldType.byte))).before args0 about1 = true := code_word (m := ⟨12, 2⟩) (meth := k12m2) (c := k12c2) (by decide +kernel) rfl rfl rfl (by decide +kernel)
set_option maxRecDepth 65536 in
theorem w_c7 : (Jvm.Cond.code ({ cls := "java/lang/StringUTF16", name := "compress", desc := "([CI[BII)I" } : Jvm.MethodName) jdk_52_method_21_code (7 : Nat) (Option.some Jvm.ClassFile.FieldType.int)).before args0 about1 = true := code_word (m := ⟨12, 3⟩) (meth := k12m3) (c := k12c3) (by decide +kernel) rfl rfl rfl (by decide +kernel)
set_option maxRecDepth 65536 in
theorem w_c8 : (Jvm.Cond.code ({ cls := "java/lang/StringUTF16", name := "coderFromArrayLen", desc := "([BI)B" } : Jvm.MethodName) jdk_52_method_15_code (2 : Nat) (Option.some Jvm.ClassFile.FieldType.byte)).before args0 about1 = true := code_word (m := ⟨12, 1⟩) (meth := k12m1) (c := k12c1) (by decide +kernel) rfl rfl rfl (by decide +kernel)
set_option maxRecDepth 65536 in
theorem w_c9 : (Jvm.Cond.code ({ cls := "java/lang/Integer", name := "<init>", desc := "(I)V" } : Jvm.MethodName) jdk_33_method_23_code (2 : Nat) (Option.none : Option Jvm.ClassFile.FieldType)).before args0 about1 = true := code_word (m := ⟨7, 1⟩) (meth := k7m1) (c := k7c1) (by decide +kernel) rfl rfl rfl (by decide +kernel)
set_option maxRecDepth 65536 in
theorem w_c10 : (Jvm.Cond.code ({ cls := "java/lang/Number", name := "<init>", desc := "()V" } : Jvm.MethodName) jdk_18_method_1_code (1 : Nat) (Option.none : Option Jvm.ClassFile.FieldType)).before args0 about1 = true := code_word (m := ⟨3, 0⟩) (meth := k3m0) (c := k3c0) (by decide +kernel) rfl rfl rfl (by decide +kernel)
def codes1 : List Jvm.Cond := [Jvm.Cond.code x code maxLocals ret, Jvm.Cond.code ({ cls := "java/lang/Integer", name := "valueOf", desc := "(I)Ljava/lang/Integer;" } : Jvm.MethodName) jdk_33_method_22_code (1 : Nat) (Option.some (Jvm.ClassFile.FieldType.object "java/lang/Integer")), Jvm.Cond.code ({ cls := "com/example/grapple/grapple/internal/Limits", name := "checkPresent", desc := "(Ljava/lang/Object;Ljava/lang/String;)Ljava/lang/Object;" } : Jvm.MethodName) prog_3_method_2_code (2 : Nat) (Option.some (Jvm.ClassFile.FieldType.object "java/lang/Object")), Jvm.Cond.code ({ cls := "java/lang/String", name := "<init>", desc := "([C)V" } : Jvm.MethodName) jdk_42_method_3_code (2 : Nat) (Option.none : Option Jvm.ClassFile.FieldType), Jvm.Cond.code ({ cls := "java/lang/String", name := "<init>", desc := "([CIILjava/lang/Void;)V" } : Jvm.MethodName) jdk_42_method_149_code (6 : Nat) (Option.none : Option Jvm.ClassFile.FieldType), Jvm.Cond.code ({ cls := "java/lang/Object", name := "<init>", desc := "()V" } : Jvm.MethodName) object_method_1_code (1 : Nat) (Option.none : Option Jvm.ClassFile.FieldType), Jvm.Cond.code ({ cls := "java/lang/StringUTF16", name := "compress", desc := "([CII)[B" } : Jvm.MethodName) jdk_52_method_16_code (6 : Nat) (Option.some (Jvm.ClassFile.FieldType.array Jvm.ClassFile.FieldType.byte)), Jvm.Cond.code ({ cls := "java/lang/StringUTF16", name := "compress", desc := "([CI[BII)I" } : Jvm.MethodName) jdk_52_method_21_code (7 : Nat) (Option.some Jvm.ClassFile.FieldType.int), Jvm.Cond.code ({ cls := "java/lang/StringUTF16", name := "coderFromArrayLen", desc := "([BI)B" } : Jvm.MethodName) jdk_52_method_15_code (2 : Nat) (Option.some Jvm.ClassFile.FieldType.byte), Jvm.Cond.code ({ cls := "java/lang/Integer", name := "<init>", desc := "(I)V" } : Jvm.MethodName) jdk_33_method_23_code (2 : Nat) (Option.none : Option Jvm.ClassFile.FieldType), Jvm.Cond.code ({ cls := "java/lang/Number", name := "<init>", desc := "()V" } : Jvm.MethodName) jdk_18_method_1_code (1 : Nat) (Option.none : Option Jvm.ClassFile.FieldType)]
set_option maxRecDepth 65536 in
theorem codes_eq : words1.filter isCode = codes1 := rfl
theorem w_codes : ∀ c ∈ words1.filter isCode, c.before args0 about1 = true := by
  rw [codes_eq]
  intro c hc
  simp only [codes1, List.mem_cons, List.not_mem_nil, or_false] at hc
  rcases hc with rfl | rfl | rfl | rfl | rfl | rfl | rfl | rfl | rfl | rfl | rfl
  · exact w_c0
  · exact w_c1
  · exact w_c2
  · exact w_c3
  · exact w_c4
  · exact w_c5
  · exact w_c6
  · exact w_c7
  · exact w_c8
  · exact w_c9
  · exact w_c10
set_option maxRecDepth 65536 in
theorem w_t1 : (words1.take 24).all (fun c => isCode c || c.before args0 about1) = true := by decide +kernel
set_option maxRecDepth 65536 in
theorem w_t2 : ((words1.drop 24).take 24).all (fun c => isCode c || c.before args0 about1) = true := by decide +kernel
set_option maxRecDepth 65536 in
theorem w_t3 : ((words1.drop 24).drop 24).all (fun c => isCode c || c.before args0 about1) = true := by decide +kernel
theorem w_tables : (allAtoms (Jvm.Cond.code x code maxLocals ret :: tables_1)).before args0 about1 = true := by
  rw [allAtoms_all]
  show words1.all (fun c => c.before args0 about1) = true
  refine all_split ?_ w_codes
  rw [← List.take_append_drop 24 words1, List.all_append, w_t1, ← List.take_append_drop 24 (words1.drop 24), List.all_append, w_t2, w_t3]
  rfl
set_option maxRecDepth 65536 in
theorem w_rest : rest_1_c.before args0 about1 = true := by decide +kernel
set_option maxRecDepth 65536 in
theorem w_case : (Jvm.Cond.and given_1 narrow_1).before args0 about1 = true := by decide +kernel
set_option maxRecDepth 65536 in
theorem w_consts : constsHeld consts_1 about1 := Jvm.Lit.constsHeldB_iff.mp (by decide +kernel)
theorem w_applies : (headSpec (Jvm.Cond.code x code maxLocals ret :: tables_1) room_1).applies x e0.platform about1 = true :=
  (Spec.applies_iff w_frames).mpr ⟨w_running, w_runnable, w_alone, w_named, w_hears, w_ripe, w_room, w_tables⟩
theorem atStart : AtStart classFile x code maxLocals ret World_1 tables_1 room_1 Calls_1 rest_1 Pre_1 launch0 p0 e0 about1 theMethod args0 below0 :=
  ⟨lists_1, trivial, launch0.admits_env _ _ _, launch0.least_env, fairChoices_fair.cas, fairChoices_fair.clock, w_frames, w_args, w_heap, w_applies, ⟨w_consts, trivial⟩, w_rest, w_case⟩
end start1
theorem witness_1 : WitnessClaimed_1 := ⟨start1.p0, start1.e0, start1.about1, start1.theMethod, start1.args0, start1.below0, start1.atStart⟩
end Jvm.Pilot.@@N@@
