import JvmDerived
import JvmDerived.Pilot.@@N@@Statement
import JvmDerived.Pilot.@@N@@Code
set_option linter.unusedVariables false
set_option linter.unusedSimpArgs false
namespace Jvm.Pilot.@@N@@
open Jvm Jvm.ClassFile Sem Op Lib Jvm.Free Jvm.Stand Jvm.LawKit Jvm.RoadKit Bundle Jvm.Pilot.@@N@@.Jvm.D
section OwnBase
def Gets (tb : Tables) (e : Env) (below : List Frame) (P : Outcome → State → Prop) (T : State) (g : JFrame) : Prop := ∃ t o, Steps tb e below (T.setTop g) t ∧ t.status = .running ∧ Ended t below o ∧ P o t
theorem Gets.by {tb : Tables} {e : Env} {below : List Frame} {P : Outcome → State → Prop} {T T' : State} {g g' : JFrame} (h : Gets tb e below P T' g') (k : ∀ t, Steps tb e below (T'.setTop g') t → Steps tb e below (T.setTop g) t) : Gets tb e below P T g := by
  obtain ⟨t, o, h1, h2⟩ := h
  exact ⟨t, o, k t h1, h2⟩
theorem g_iloadN {tb : Tables} [Ours tb] {e : Env} {below : List Frame} {T : State} {m : MethodId} {c : Code} {P : Outcome → State → Prop} {pc pc' : Nat} {Ls : Array Slot} {st : List Value} {j : Fin 4} {v : Int32} (H : At T m c below) (hx : tb.exec = Jvm.exec) (hd : decode c.code pc = .ok (.iload_n j, 1)) (hl : Ls[j.val]? = some (.val (.int v))) (hp : pc + 1 = pc')
    (k : Gets tb e below P T (mkF m pc' Ls (.int v :: st))) : Gets tb e below P T (mkF m pc Ls (st)) := by
  subst hp; refine k.by fun t qq => ?_; exact XS.iloadN H hx rfl hd hl qq
theorem g_iload {tb : Tables} [Ours tb] {e : Env} {below : List Frame} {T : State} {m : MethodId} {c : Code} {P : Outcome → State → Prop} {pc pc' : Nat} {Ls : Array Slot} {st : List Value} {j : Nat} {v : Int32} (H : At T m c below) (hx : tb.exec = Jvm.exec) (hd : decode c.code pc = .ok (.iload j, 2)) (hl : Ls[j]? = some (.val (.int v))) (hp : pc + 2 = pc')
    (k : Gets tb e below P T (mkF m pc' Ls (.int v :: st))) : Gets tb e below P T (mkF m pc Ls (st)) := by
  subst hp; refine k.by fun t qq => ?_; exact XS.iload H hx rfl hd hl qq
theorem g_istoreN {tb : Tables} [Ours tb] {e : Env} {below : List Frame} {T : State} {m : MethodId} {c : Code} {P : Outcome → State → Prop} {pc pc' : Nat} {Ls : Array Slot} {st : List Value} {j : Fin 4} {v : Int32} {Ls' : Array Slot} (H : At T m c below) (hx : tb.exec = Jvm.exec) (hd : decode c.code pc = .ok (.istore_n j, 1)) (hl : storeLocals Ls j.val (.int v) = some Ls') (hp : pc + 1 = pc')
    (k : Gets tb e below P T (mkF m pc' Ls' (st))) : Gets tb e below P T (mkF m pc Ls (.int v :: st)) := by
  subst hp; refine k.by fun t qq => ?_; exact XS.istoreN H hx rfl hd rfl hl qq
theorem g_istore {tb : Tables} [Ours tb] {e : Env} {below : List Frame} {T : State} {m : MethodId} {c : Code} {P : Outcome → State → Prop} {pc pc' : Nat} {Ls : Array Slot} {st : List Value} {j : Nat} {v : Int32} {Ls' : Array Slot} (H : At T m c below) (hx : tb.exec = Jvm.exec) (hd : decode c.code pc = .ok (.istore j, 2)) (hl : storeLocals Ls j (.int v) = some Ls') (hp : pc + 2 = pc')
    (k : Gets tb e below P T (mkF m pc' Ls' (st))) : Gets tb e below P T (mkF m pc Ls (.int v :: st)) := by
  subst hp; refine k.by fun t qq => ?_; exact XS.istore H hx rfl hd rfl hl qq
theorem g_lloadN {tb : Tables} [Ours tb] {e : Env} {below : List Frame} {T : State} {m : MethodId} {c : Code} {P : Outcome → State → Prop} {pc pc' : Nat} {Ls : Array Slot} {st : List Value} {j : Fin 4} {v : Int64} (H : At T m c below) (hx : tb.exec = Jvm.exec) (hd : decode c.code pc = .ok (.lload_n j, 1)) (hl : Ls[j.val]? = some (.val (.long v))) (hp : pc + 1 = pc')
    (k : Gets tb e below P T (mkF m pc' Ls (.long v :: st))) : Gets tb e below P T (mkF m pc Ls (st)) := by
  subst hp; refine k.by fun t qq => ?_; exact XS.lloadN H hx rfl hd hl qq
theorem g_lload {tb : Tables} [Ours tb] {e : Env} {below : List Frame} {T : State} {m : MethodId} {c : Code} {P : Outcome → State → Prop} {pc pc' : Nat} {Ls : Array Slot} {st : List Value} {j : Nat} {v : Int64} (H : At T m c below) (hx : tb.exec = Jvm.exec) (hd : decode c.code pc = .ok (.lload j, 2)) (hl : Ls[j]? = some (.val (.long v))) (hp : pc + 2 = pc')
    (k : Gets tb e below P T (mkF m pc' Ls (.long v :: st))) : Gets tb e below P T (mkF m pc Ls (st)) := by
  subst hp; refine k.by fun t qq => ?_; exact XS.lload H hx rfl hd hl qq
theorem g_lstoreN {tb : Tables} [Ours tb] {e : Env} {below : List Frame} {T : State} {m : MethodId} {c : Code} {P : Outcome → State → Prop} {pc pc' : Nat} {Ls : Array Slot} {st : List Value} {j : Fin 4} {v : Int64} {Ls' : Array Slot} (H : At T m c below) (hx : tb.exec = Jvm.exec) (hd : decode c.code pc = .ok (.lstore_n j, 1)) (hl : storeLocals Ls j.val (.long v) = some Ls') (hp : pc + 1 = pc')
    (k : Gets tb e below P T (mkF m pc' Ls' (st))) : Gets tb e below P T (mkF m pc Ls (.long v :: st)) := by
  subst hp; refine k.by fun t qq => ?_; exact XS.lstoreN H hx rfl hd rfl hl qq
theorem g_lstore {tb : Tables} [Ours tb] {e : Env} {below : List Frame} {T : State} {m : MethodId} {c : Code} {P : Outcome → State → Prop} {pc pc' : Nat} {Ls : Array Slot} {st : List Value} {j : Nat} {v : Int64} {Ls' : Array Slot} (H : At T m c below) (hx : tb.exec = Jvm.exec) (hd : decode c.code pc = .ok (.lstore j, 2)) (hl : storeLocals Ls j (.long v) = some Ls') (hp : pc + 2 = pc')
    (k : Gets tb e below P T (mkF m pc' Ls' (st))) : Gets tb e below P T (mkF m pc Ls (.long v :: st)) := by
  subst hp; refine k.by fun t qq => ?_; exact XS.lstore H hx rfl hd rfl hl qq
theorem g_aloadN {tb : Tables} [Ours tb] {e : Env} {below : List Frame} {T : State} {m : MethodId} {c : Code} {P : Outcome → State → Prop} {pc pc' : Nat} {Ls : Array Slot} {st : List Value} {j : Fin 4} {v : Value} (H : At T m c below) (hx : tb.exec = Jvm.exec) (hd : decode c.code pc = .ok (.aload_n j, 1)) (hl : Ls[j.val]? = some (.val v)) (hv : v.isRef = true) (hp : pc + 1 = pc')
    (k : Gets tb e below P T (mkF m pc' Ls (v :: st))) : Gets tb e below P T (mkF m pc Ls (st)) := by
  subst hp; refine k.by fun t qq => ?_; exact XS.aloadN H hx rfl hd hl hv qq
theorem g_aload {tb : Tables} [Ours tb] {e : Env} {below : List Frame} {T : State} {m : MethodId} {c : Code} {P : Outcome → State → Prop} {pc pc' : Nat} {Ls : Array Slot} {st : List Value} {j : Nat} {v : Value} (H : At T m c below) (hx : tb.exec = Jvm.exec) (hd : decode c.code pc = .ok (.aload j, 2)) (hl : Ls[j]? = some (.val v)) (hv : v.isRef = true) (hp : pc + 2 = pc')
    (k : Gets tb e below P T (mkF m pc' Ls (v :: st))) : Gets tb e below P T (mkF m pc Ls (st)) := by
  subst hp; refine k.by fun t qq => ?_; exact XS.aload H hx rfl hd hl hv qq
theorem g_astoreN {tb : Tables} [Ours tb] {e : Env} {below : List Frame} {T : State} {m : MethodId} {c : Code} {P : Outcome → State → Prop} {pc pc' : Nat} {Ls : Array Slot} {st : List Value} {j : Fin 4} {v : Value} {Ls' : Array Slot} (H : At T m c below) (hx : tb.exec = Jvm.exec) (hd : decode c.code pc = .ok (.astore_n j, 1)) (hv : v.isRef = true) (hl : storeLocals Ls j.val v = some Ls') (hp : pc + 1 = pc')
    (k : Gets tb e below P T (mkF m pc' Ls' (st))) : Gets tb e below P T (mkF m pc Ls (v :: st)) := by
  subst hp; refine k.by fun t qq => ?_; exact XS.astoreN H hx rfl hd rfl hv hl qq
theorem g_astore {tb : Tables} [Ours tb] {e : Env} {below : List Frame} {T : State} {m : MethodId} {c : Code} {P : Outcome → State → Prop} {pc pc' : Nat} {Ls : Array Slot} {st : List Value} {j : Nat} {v : Value} {Ls' : Array Slot} (H : At T m c below) (hx : tb.exec = Jvm.exec) (hd : decode c.code pc = .ok (.astore j, 2)) (hv : v.isRef = true) (hl : storeLocals Ls j v = some Ls') (hp : pc + 2 = pc')
    (k : Gets tb e below P T (mkF m pc' Ls' (st))) : Gets tb e below P T (mkF m pc Ls (v :: st)) := by
  subst hp; refine k.by fun t qq => ?_; exact XS.astore H hx rfl hd rfl hv hl qq
theorem g_iconst {tb : Tables} [Ours tb] {e : Env} {below : List Frame} {T : State} {m : MethodId} {c : Code} {P : Outcome → State → Prop} {pc pc' : Nat} {Ls : Array Slot} {st : List Value} {i : Int} (v : Int32) (H : At T m c below) (hx : tb.exec = Jvm.exec) (hd : decode c.code pc = .ok (.iconst i, 1)) (hv : Int32.ofInt i = v) (hp : pc + 1 = pc')
    (k : Gets tb e below P T (mkF m pc' Ls (.int v :: st))) : Gets tb e below P T (mkF m pc Ls st) := by
  subst hp; subst hv; refine k.by fun t qq => ?_; exact XS.iconst H hx rfl hd qq
theorem g_bipush {tb : Tables} [Ours tb] {e : Env} {below : List Frame} {T : State} {m : MethodId} {c : Code} {P : Outcome → State → Prop} {pc pc' : Nat} {Ls : Array Slot} {st : List Value} {i : Int} (v : Int32) (H : At T m c below) (hx : tb.exec = Jvm.exec) (hd : decode c.code pc = .ok (.bipush i, 2)) (hv : (Int8.ofInt i).toInt32 = v) (hp : pc + 2 = pc')
    (k : Gets tb e below P T (mkF m pc' Ls (.int v :: st))) : Gets tb e below P T (mkF m pc Ls st) := by
  subst hp; subst hv; refine k.by fun t qq => ?_; exact XS.bipush H hx rfl hd qq
theorem g_sipush {tb : Tables} [Ours tb] {e : Env} {below : List Frame} {T : State} {m : MethodId} {c : Code} {P : Outcome → State → Prop} {pc pc' : Nat} {Ls : Array Slot} {st : List Value} {i : Int} (v : Int32) (H : At T m c below) (hx : tb.exec = Jvm.exec) (hd : decode c.code pc = .ok (.sipush i, 3)) (hv : (Int16.ofInt i).toInt32 = v) (hp : pc + 3 = pc')
    (k : Gets tb e below P T (mkF m pc' Ls (.int v :: st))) : Gets tb e below P T (mkF m pc Ls st) := by
  subst hp; subst hv; refine k.by fun t qq => ?_; exact XS.sipush H hx rfl hd qq
theorem g_aconstNull {tb : Tables} [Ours tb] {e : Env} {below : List Frame} {T : State} {m : MethodId} {c : Code} {P : Outcome → State → Prop} {pc pc' : Nat} {Ls : Array Slot} {st : List Value}  (H : At T m c below) (hx : tb.exec = Jvm.exec) (hd : decode c.code pc = .ok (.aconst_null, 1))  (hp : pc + 1 = pc')
    (k : Gets tb e below P T (mkF m pc' Ls (.null :: st))) : Gets tb e below P T (mkF m pc Ls (st)) := by
  subst hp; refine k.by fun t qq => ?_; exact XS.aconstNull H hx rfl hd  qq
theorem g_iadd {tb : Tables} [Ours tb] {e : Env} {below : List Frame} {T : State} {m : MethodId} {c : Code} {P : Outcome → State → Prop} {pc pc' : Nat} {Ls : Array Slot} {st : List Value} {x y : Int32} (H : At T m c below) (hx : tb.exec = Jvm.exec) (hd : decode c.code pc = .ok (.iadd, 1))  (hp : pc + 1 = pc')
    (k : Gets tb e below P T (mkF m pc' Ls (.int (x + y) :: st))) : Gets tb e below P T (mkF m pc Ls (.int y :: .int x :: st)) := by
  subst hp; refine k.by fun t qq => ?_; exact XS.iadd H hx rfl hd rfl qq
theorem g_isub {tb : Tables} [Ours tb] {e : Env} {below : List Frame} {T : State} {m : MethodId} {c : Code} {P : Outcome → State → Prop} {pc pc' : Nat} {Ls : Array Slot} {st : List Value} {x y : Int32} (H : At T m c below) (hx : tb.exec = Jvm.exec) (hd : decode c.code pc = .ok (.isub, 1))  (hp : pc + 1 = pc')
    (k : Gets tb e below P T (mkF m pc' Ls (.int (x - y) :: st))) : Gets tb e below P T (mkF m pc Ls (.int y :: .int x :: st)) := by
  subst hp; refine k.by fun t qq => ?_; exact XS.isub H hx rfl hd rfl qq
theorem g_imul {tb : Tables} [Ours tb] {e : Env} {below : List Frame} {T : State} {m : MethodId} {c : Code} {P : Outcome → State → Prop} {pc pc' : Nat} {Ls : Array Slot} {st : List Value} {x y : Int32} (H : At T m c below) (hx : tb.exec = Jvm.exec) (hd : decode c.code pc = .ok (.imul, 1))  (hp : pc + 1 = pc')
    (k : Gets tb e below P T (mkF m pc' Ls (.int (x * y) :: st))) : Gets tb e below P T (mkF m pc Ls (.int y :: .int x :: st)) := by
  subst hp; refine k.by fun t qq => ?_; exact XS.imul H hx rfl hd rfl qq
theorem g_iand {tb : Tables} [Ours tb] {e : Env} {below : List Frame} {T : State} {m : MethodId} {c : Code} {P : Outcome → State → Prop} {pc pc' : Nat} {Ls : Array Slot} {st : List Value} {x y : Int32} (H : At T m c below) (hx : tb.exec = Jvm.exec) (hd : decode c.code pc = .ok (.iand, 1))  (hp : pc + 1 = pc')
    (k : Gets tb e below P T (mkF m pc' Ls (.int (x &&& y) :: st))) : Gets tb e below P T (mkF m pc Ls (.int y :: .int x :: st)) := by
  subst hp; refine k.by fun t qq => ?_; exact XS.iand H hx rfl hd rfl qq
theorem g_ior {tb : Tables} [Ours tb] {e : Env} {below : List Frame} {T : State} {m : MethodId} {c : Code} {P : Outcome → State → Prop} {pc pc' : Nat} {Ls : Array Slot} {st : List Value} {x y : Int32} (H : At T m c below) (hx : tb.exec = Jvm.exec) (hd : decode c.code pc = .ok (.ior, 1))  (hp : pc + 1 = pc')
    (k : Gets tb e below P T (mkF m pc' Ls (.int (x ||| y) :: st))) : Gets tb e below P T (mkF m pc Ls (.int y :: .int x :: st)) := by
  subst hp; refine k.by fun t qq => ?_; exact XS.ior H hx rfl hd rfl qq
theorem g_ixor {tb : Tables} [Ours tb] {e : Env} {below : List Frame} {T : State} {m : MethodId} {c : Code} {P : Outcome → State → Prop} {pc pc' : Nat} {Ls : Array Slot} {st : List Value} {x y : Int32} (H : At T m c below) (hx : tb.exec = Jvm.exec) (hd : decode c.code pc = .ok (.ixor, 1))  (hp : pc + 1 = pc')
    (k : Gets tb e below P T (mkF m pc' Ls (.int (x ^^^ y) :: st))) : Gets tb e below P T (mkF m pc Ls (.int y :: .int x :: st)) := by
  subst hp; refine k.by fun t qq => ?_; exact XS.ixor H hx rfl hd rfl qq
theorem g_ishl {tb : Tables} [Ours tb] {e : Env} {below : List Frame} {T : State} {m : MethodId} {c : Code} {P : Outcome → State → Prop} {pc pc' : Nat} {Ls : Array Slot} {st : List Value} {x y : Int32} (H : At T m c below) (hx : tb.exec = Jvm.exec) (hd : decode c.code pc = .ok (.ishl, 1))  (hp : pc + 1 = pc')
    (k : Gets tb e below P T (mkF m pc' Ls (.int (x <<< (y &&& 31)) :: st))) : Gets tb e below P T (mkF m pc Ls (.int y :: .int x :: st)) := by
  subst hp; refine k.by fun t qq => ?_; exact XS.ishl H hx rfl hd rfl qq
theorem g_ishr {tb : Tables} [Ours tb] {e : Env} {below : List Frame} {T : State} {m : MethodId} {c : Code} {P : Outcome → State → Prop} {pc pc' : Nat} {Ls : Array Slot} {st : List Value} {x y : Int32} (H : At T m c below) (hx : tb.exec = Jvm.exec) (hd : decode c.code pc = .ok (.ishr, 1))  (hp : pc + 1 = pc')
    (k : Gets tb e below P T (mkF m pc' Ls (.int (x >>> (y &&& 31)) :: st))) : Gets tb e below P T (mkF m pc Ls (.int y :: .int x :: st)) := by
  subst hp; refine k.by fun t qq => ?_; exact XS.ishr H hx rfl hd rfl qq
theorem g_iushr {tb : Tables} [Ours tb] {e : Env} {below : List Frame} {T : State} {m : MethodId} {c : Code} {P : Outcome → State → Prop} {pc pc' : Nat} {Ls : Array Slot} {st : List Value} {x y : Int32} (H : At T m c below) (hx : tb.exec = Jvm.exec) (hd : decode c.code pc = .ok (.iushr, 1))  (hp : pc + 1 = pc')
    (k : Gets tb e below P T (mkF m pc' Ls (.int ((x.toUInt32 >>> (y &&& 31).toUInt32).toInt32) :: st))) : Gets tb e below P T (mkF m pc Ls (.int y :: .int x :: st)) := by
  subst hp; refine k.by fun t qq => ?_; exact XS.iushr H hx rfl hd rfl qq
theorem g_ladd {tb : Tables} [Ours tb] {e : Env} {below : List Frame} {T : State} {m : MethodId} {c : Code} {P : Outcome → State → Prop} {pc pc' : Nat} {Ls : Array Slot} {st : List Value} {x y : Int64} (H : At T m c below) (hx : tb.exec = Jvm.exec) (hd : decode c.code pc = .ok (.ladd, 1))  (hp : pc + 1 = pc')
    (k : Gets tb e below P T (mkF m pc' Ls (.long (x + y) :: st))) : Gets tb e below P T (mkF m pc Ls (.long y :: .long x :: st)) := by
  subst hp; refine k.by fun t qq => ?_; exact XS.ladd H hx rfl hd rfl qq
theorem g_lsub {tb : Tables} [Ours tb] {e : Env} {below : List Frame} {T : State} {m : MethodId} {c : Code} {P : Outcome → State → Prop} {pc pc' : Nat} {Ls : Array Slot} {st : List Value} {x y : Int64} (H : At T m c below) (hx : tb.exec = Jvm.exec) (hd : decode c.code pc = .ok (.lsub, 1))  (hp : pc + 1 = pc')
    (k : Gets tb e below P T (mkF m pc' Ls (.long (x - y) :: st))) : Gets tb e below P T (mkF m pc Ls (.long y :: .long x :: st)) := by
  subst hp; refine k.by fun t qq => ?_; exact XS.lsub H hx rfl hd rfl qq
theorem g_lmul {tb : Tables} [Ours tb] {e : Env} {below : List Frame} {T : State} {m : MethodId} {c : Code} {P : Outcome → State → Prop} {pc pc' : Nat} {Ls : Array Slot} {st : List Value} {x y : Int64} (H : At T m c below) (hx : tb.exec = Jvm.exec) (hd : decode c.code pc = .ok (.lmul, 1))  (hp : pc + 1 = pc')
    (k : Gets tb e below P T (mkF m pc' Ls (.long (x * y) :: st))) : Gets tb e below P T (mkF m pc Ls (.long y :: .long x :: st)) := by
  subst hp; refine k.by fun t qq => ?_; exact XS.lmul H hx rfl hd rfl qq
theorem g_land {tb : Tables} [Ours tb] {e : Env} {below : List Frame} {T : State} {m : MethodId} {c : Code} {P : Outcome → State → Prop} {pc pc' : Nat} {Ls : Array Slot} {st : List Value} {x y : Int64} (H : At T m c below) (hx : tb.exec = Jvm.exec) (hd : decode c.code pc = .ok (.land, 1))  (hp : pc + 1 = pc')
    (k : Gets tb e below P T (mkF m pc' Ls (.long (x &&& y) :: st))) : Gets tb e below P T (mkF m pc Ls (.long y :: .long x :: st)) := by
  subst hp; refine k.by fun t qq => ?_; exact XS.land H hx rfl hd rfl qq
theorem g_lor {tb : Tables} [Ours tb] {e : Env} {below : List Frame} {T : State} {m : MethodId} {c : Code} {P : Outcome → State → Prop} {pc pc' : Nat} {Ls : Array Slot} {st : List Value} {x y : Int64} (H : At T m c below) (hx : tb.exec = Jvm.exec) (hd : decode c.code pc = .ok (.lor, 1))  (hp : pc + 1 = pc')
    (k : Gets tb e below P T (mkF m pc' Ls (.long (x ||| y) :: st))) : Gets tb e below P T (mkF m pc Ls (.long y :: .long x :: st)) := by
  subst hp; refine k.by fun t qq => ?_; exact XS.lor H hx rfl hd rfl qq
theorem g_lxor {tb : Tables} [Ours tb] {e : Env} {below : List Frame} {T : State} {m : MethodId} {c : Code} {P : Outcome → State → Prop} {pc pc' : Nat} {Ls : Array Slot} {st : List Value} {x y : Int64} (H : At T m c below) (hx : tb.exec = Jvm.exec) (hd : decode c.code pc = .ok (.lxor, 1))  (hp : pc + 1 = pc')
    (k : Gets tb e below P T (mkF m pc' Ls (.long (x ^^^ y) :: st))) : Gets tb e below P T (mkF m pc Ls (.long y :: .long x :: st)) := by
  subst hp; refine k.by fun t qq => ?_; exact XS.lxor H hx rfl hd rfl qq
theorem g_lshl {tb : Tables} [Ours tb] {e : Env} {below : List Frame} {T : State} {m : MethodId} {c : Code} {P : Outcome → State → Prop} {pc pc' : Nat} {Ls : Array Slot} {st : List Value} {x : Int64} {y : Int32} (H : At T m c below) (hx : tb.exec = Jvm.exec) (hd : decode c.code pc = .ok (.lshl, 1))  (hp : pc + 1 = pc')
    (k : Gets tb e below P T (mkF m pc' Ls (.long (x <<< (y &&& 0x3f).toInt64) :: st))) : Gets tb e below P T (mkF m pc Ls (.int y :: .long x :: st)) := by
  subst hp; refine k.by fun t qq => ?_; exact XS.lshl H hx rfl hd rfl qq
theorem g_lshr {tb : Tables} [Ours tb] {e : Env} {below : List Frame} {T : State} {m : MethodId} {c : Code} {P : Outcome → State → Prop} {pc pc' : Nat} {Ls : Array Slot} {st : List Value} {x : Int64} {y : Int32} (H : At T m c below) (hx : tb.exec = Jvm.exec) (hd : decode c.code pc = .ok (.lshr, 1))  (hp : pc + 1 = pc')
    (k : Gets tb e below P T (mkF m pc' Ls (.long (x >>> (y &&& 0x3f).toInt64) :: st))) : Gets tb e below P T (mkF m pc Ls (.int y :: .long x :: st)) := by
  subst hp; refine k.by fun t qq => ?_; exact XS.lshr H hx rfl hd rfl qq
theorem g_lushr {tb : Tables} [Ours tb] {e : Env} {below : List Frame} {T : State} {m : MethodId} {c : Code} {P : Outcome → State → Prop} {pc pc' : Nat} {Ls : Array Slot} {st : List Value} {x : Int64} {y : Int32} (H : At T m c below) (hx : tb.exec = Jvm.exec) (hd : decode c.code pc = .ok (.lushr, 1))  (hp : pc + 1 = pc')
    (k : Gets tb e below P T (mkF m pc' Ls (.long ((x.toUInt64 >>> (y &&& 0x3f).toInt64.toUInt64).toInt64) :: st))) : Gets tb e below P T (mkF m pc Ls (.int y :: .long x :: st)) := by
  subst hp; refine k.by fun t qq => ?_; exact XS.lushr H hx rfl hd rfl qq
theorem g_lcmp {tb : Tables} [Ours tb] {e : Env} {below : List Frame} {T : State} {m : MethodId} {c : Code} {P : Outcome → State → Prop} {pc pc' : Nat} {Ls : Array Slot} {st : List Value} {x y : Int64} (H : At T m c below) (hx : tb.exec = Jvm.exec) (hd : decode c.code pc = .ok (.lcmp, 1))  (hp : pc + 1 = pc')
    (k : Gets tb e below P T (mkF m pc' Ls (.int (lcmpW x y) :: st))) : Gets tb e below P T (mkF m pc Ls (.long y :: .long x :: st)) := by
  subst hp; refine k.by fun t qq => ?_; exact XS.lcmp H hx rfl hd rfl qq
theorem g_ineg {tb : Tables} [Ours tb] {e : Env} {below : List Frame} {T : State} {m : MethodId} {c : Code} {P : Outcome → State → Prop} {pc pc' : Nat} {Ls : Array Slot} {st : List Value} {x : Int32} (H : At T m c below) (hx : tb.exec = Jvm.exec) (hd : decode c.code pc = .ok (.ineg, 1))  (hp : pc + 1 = pc')
    (k : Gets tb e below P T (mkF m pc' Ls (.int (-x) :: st))) : Gets tb e below P T (mkF m pc Ls (.int x :: st)) := by
  subst hp; refine k.by fun t qq => ?_; exact XS.ineg H hx rfl hd rfl qq
theorem g_i2b {tb : Tables} [Ours tb] {e : Env} {below : List Frame} {T : State} {m : MethodId} {c : Code} {P : Outcome → State → Prop} {pc pc' : Nat} {Ls : Array Slot} {st : List Value} {x : Int32} (H : At T m c below) (hx : tb.exec = Jvm.exec) (hd : decode c.code pc = .ok (.i2b, 1))  (hp : pc + 1 = pc')
    (k : Gets tb e below P T (mkF m pc' Ls (.int (x.toInt8.toInt32) :: st))) : Gets tb e below P T (mkF m pc Ls (.int x :: st)) := by
  subst hp; refine k.by fun t qq => ?_; exact XS.i2b H hx rfl hd rfl qq
theorem g_i2s {tb : Tables} [Ours tb] {e : Env} {below : List Frame} {T : State} {m : MethodId} {c : Code} {P : Outcome → State → Prop} {pc pc' : Nat} {Ls : Array Slot} {st : List Value} {x : Int32} (H : At T m c below) (hx : tb.exec = Jvm.exec) (hd : decode c.code pc = .ok (.i2s, 1))  (hp : pc + 1 = pc')
    (k : Gets tb e below P T (mkF m pc' Ls (.int (x.toInt16.toInt32) :: st))) : Gets tb e below P T (mkF m pc Ls (.int x :: st)) := by
  subst hp; refine k.by fun t qq => ?_; exact XS.i2s H hx rfl hd rfl qq
theorem g_i2c {tb : Tables} [Ours tb] {e : Env} {below : List Frame} {T : State} {m : MethodId} {c : Code} {P : Outcome → State → Prop} {pc pc' : Nat} {Ls : Array Slot} {st : List Value} {x : Int32} (H : At T m c below) (hx : tb.exec = Jvm.exec) (hd : decode c.code pc = .ok (.i2c, 1))  (hp : pc + 1 = pc')
    (k : Gets tb e below P T (mkF m pc' Ls (.int (x.toUInt32.toUInt16.toUInt32.toInt32) :: st))) : Gets tb e below P T (mkF m pc Ls (.int x :: st)) := by
  subst hp; refine k.by fun t qq => ?_; exact XS.i2c H hx rfl hd rfl qq
theorem g_i2l {tb : Tables} [Ours tb] {e : Env} {below : List Frame} {T : State} {m : MethodId} {c : Code} {P : Outcome → State → Prop} {pc pc' : Nat} {Ls : Array Slot} {st : List Value} {x : Int32} (H : At T m c below) (hx : tb.exec = Jvm.exec) (hd : decode c.code pc = .ok (.i2l, 1))  (hp : pc + 1 = pc')
    (k : Gets tb e below P T (mkF m pc' Ls (.long x.toInt64 :: st))) : Gets tb e below P T (mkF m pc Ls (.int x :: st)) := by
  subst hp; refine k.by fun t qq => ?_; exact XS.i2l H hx rfl hd rfl qq
theorem g_l2i {tb : Tables} [Ours tb] {e : Env} {below : List Frame} {T : State} {m : MethodId} {c : Code} {P : Outcome → State → Prop} {pc pc' : Nat} {Ls : Array Slot} {st : List Value} {x : Int64} (H : At T m c below) (hx : tb.exec = Jvm.exec) (hd : decode c.code pc = .ok (.l2i, 1))  (hp : pc + 1 = pc')
    (k : Gets tb e below P T (mkF m pc' Ls (.int x.toInt32 :: st))) : Gets tb e below P T (mkF m pc Ls (.long x :: st)) := by
  subst hp; refine k.by fun t qq => ?_; exact XS.l2i H hx rfl hd rfl qq
theorem g_lneg {tb : Tables} [Ours tb] {e : Env} {below : List Frame} {T : State} {m : MethodId} {c : Code} {P : Outcome → State → Prop} {pc pc' : Nat} {Ls : Array Slot} {st : List Value} {x : Int64} (H : At T m c below) (hx : tb.exec = Jvm.exec) (hd : decode c.code pc = .ok (.lneg, 1))  (hp : pc + 1 = pc')
    (k : Gets tb e below P T (mkF m pc' Ls (.long (-x) :: st))) : Gets tb e below P T (mkF m pc Ls (.long x :: st)) := by
  subst hp; refine k.by fun t qq => ?_; exact XS.lneg H hx rfl hd rfl qq
theorem g_idiv {tb : Tables} [Ours tb] {e : Env} {below : List Frame} {T : State} {m : MethodId} {c : Code} {P : Outcome → State → Prop} {pc pc' : Nat} {Ls : Array Slot} {st : List Value} {x y : Int32} (H : At T m c below) (hx : tb.exec = Jvm.exec) (hd : decode c.code pc = .ok (.idiv, 1)) (hy : y ≠ 0) (hp : pc + 1 = pc')
    (k : Gets tb e below P T (mkF m pc' Ls (.int (x / y) :: st))) : Gets tb e below P T (mkF m pc Ls (.int y :: .int x :: st)) := by
  subst hp; refine k.by fun t qq => ?_; exact XS.idiv H hx rfl hd rfl hy qq
theorem g_dup {tb : Tables} [Ours tb] {e : Env} {below : List Frame} {T : State} {m : MethodId} {c : Code} {P : Outcome → State → Prop} {pc pc' : Nat} {Ls : Array Slot} {st : List Value} {v : Value} (H : At T m c below) (hx : tb.exec = Jvm.exec) (hd : decode c.code pc = .ok (.dup, 1)) (hv : v.category = 1) (hp : pc + 1 = pc')
    (k : Gets tb e below P T (mkF m pc' Ls (v :: v :: st))) : Gets tb e below P T (mkF m pc Ls (v :: st)) := by
  subst hp; refine k.by fun t qq => ?_; exact XS.dup H hx rfl hd rfl hv qq
theorem g_pop {tb : Tables} [Ours tb] {e : Env} {below : List Frame} {T : State} {m : MethodId} {c : Code} {P : Outcome → State → Prop} {pc pc' : Nat} {Ls : Array Slot} {st : List Value} {v : Value} (H : At T m c below) (hx : tb.exec = Jvm.exec) (hd : decode c.code pc = .ok (.pop, 1)) (hv : v.category = 1) (hp : pc + 1 = pc')
    (k : Gets tb e below P T (mkF m pc' Ls (st))) : Gets tb e below P T (mkF m pc Ls (v :: st)) := by
  subst hp; refine k.by fun t qq => ?_; exact XS.pop H hx rfl hd rfl hv qq
theorem g_dupX1 {tb : Tables} [Ours tb] {e : Env} {below : List Frame} {T : State} {m : MethodId} {c : Code} {P : Outcome → State → Prop} {pc pc' : Nat} {Ls : Array Slot} {st : List Value} {v w : Value} (H : At T m c below) (hx : tb.exec = Jvm.exec) (hd : decode c.code pc = .ok (.dup_x1, 1)) (hv : v.category = 1) (hw : w.category = 1) (hp : pc + 1 = pc')
    (k : Gets tb e below P T (mkF m pc' Ls (v :: w :: v :: st))) : Gets tb e below P T (mkF m pc Ls (v :: w :: st)) := by
  subst hp; refine k.by fun t qq => ?_; exact XS.dupX1 H hx rfl hd rfl hv hw qq
theorem g_iinc {tb : Tables} [Ours tb] {e : Env} {below : List Frame} {T : State} {m : MethodId} {c : Code} {P : Outcome → State → Prop} {pc pc' : Nat} {Ls : Array Slot} {st : List Value} {j : Nat} {cst : Int} {x : Int32} {Ls' : Array Slot} (H : At T m c below) (hx : tb.exec = Jvm.exec) (hd : decode c.code pc = .ok (.iinc j cst, 3)) (hl : Ls[j]? = some (.val (.int x))) (hs : storeLocals Ls j (.int (x + Int32.ofInt cst)) = some Ls') (hp : pc + 3 = pc')
    (k : Gets tb e below P T (mkF m pc' Ls' (st))) : Gets tb e below P T (mkF m pc Ls (st)) := by
  subst hp; refine k.by fun t qq => ?_; exact XS.iinc H hx rfl hd hl hs qq
theorem g_lconst {tb : Tables} [Ours tb] {e : Env} {below : List Frame} {T : State} {m : MethodId} {c : Code} {P : Outcome → State → Prop} {pc pc' : Nat} {Ls : Array Slot} {st : List Value} {j : Fin 2} (v : Int64) (H : At T m c below) (hx : tb.exec = Jvm.exec) (hd : decode c.code pc = .ok (.lconst j, 1)) (hv : Int64.ofNat j = v) (hp : pc + 1 = pc')
    (k : Gets tb e below P T (mkF m pc' Ls (.long v :: st))) : Gets tb e below P T (mkF m pc Ls st) := by
  subst hp; subst hv; refine k.by fun t qq => ?_; exact XS.lconst H hx rfl hd qq
theorem g_irem {tb : Tables} [Ours tb] {e : Env} {below : List Frame} {T : State} {m : MethodId} {c : Code} {P : Outcome → State → Prop} {pc pc' : Nat} {Ls : Array Slot} {st : List Value} {x y : Int32} (H : At T m c below) (hx : tb.exec = Jvm.exec) (hd : decode c.code pc = .ok (.irem, 1)) (hy : y ≠ 0) (hp : pc + 1 = pc')
    (k : Gets tb e below P T (mkF m pc' Ls (.int (x % y) :: st))) : Gets tb e below P T (mkF m pc Ls (.int y :: .int x :: st)) := by
  subst hp
  have q : x - x / y * y = x % y := irem_eq_mod x y
  rw [← q] at k
  refine k.by fun t qq => ?_; exact XS.irem H hx rfl hd rfl hy qq
theorem g_goto {tb : Tables} [Ours tb] {e : Env} {below : List Frame} {T : State} {m : MethodId} {c : Code} {P : Outcome → State → Prop} {pc pc' : Nat} {Ls : Array Slot} {st : List Value} {o : Int} (H : At T m c below) (hx : tb.exec = Jvm.exec) (hd : decode c.code pc = .ok (.goto o, 3)) (hp : (pc : Int) + o = (pc' : Int))
    (k : Gets tb e below P T (mkF m pc' Ls st)) : Gets tb e below P T (mkF m pc Ls st) := by
  refine k.by fun t qq => ?_
  exact XS.goto H hx rfl (pc0 := pc) (pc' := pc') rfl hd (by rw [hp]; exact Int.natCast_nonneg _) (by rw [hp]; rfl) qq
theorem g_ifY {tb : Tables} [Ours tb] {e : Env} {below : List Frame} {T : State} {m : MethodId} {c : Code} {P : Outcome → State → Prop} {pc pc' : Nat} {Ls : Array Slot} {st : List Value} {o : Int} {cd : ClassFile.Cond} {x : Int32} (H : At T m c below) (hx : tb.exec = Jvm.exec) (hd : decode c.code pc = .ok (.ifCond cd o, 3)) (hp : (pc : Int) + o = (pc' : Int)) (q : if_icmp.holds cd x 0 = true)
    (k : Gets tb e below P T (mkF m pc' Ls st)) : Gets tb e below P T (mkF m pc Ls (.int x :: st)) := by
  refine k.by fun t qq => ?_
  exact XS.ifYes H hx rfl (pc0 := pc) (pc' := pc') rfl hd rfl ((if0 _ _).trans q) (by rw [hp]; exact Int.natCast_nonneg _) (by rw [hp]; rfl) qq
theorem g_ifN {tb : Tables} [Ours tb] {e : Env} {below : List Frame} {T : State} {m : MethodId} {c : Code} {P : Outcome → State → Prop} {pc pc' : Nat} {Ls : Array Slot} {st : List Value} {o : Int} {cd : ClassFile.Cond} {x : Int32} (H : At T m c below) (hx : tb.exec = Jvm.exec) (hd : decode c.code pc = .ok (.ifCond cd o, 3)) (hp : pc + 3 = pc') (q : if_icmp.holds cd x 0 = false)
    (k : Gets tb e below P T (mkF m pc' Ls st)) : Gets tb e below P T (mkF m pc Ls (.int x :: st)) := by
  subst hp; refine k.by fun t qq => ?_; exact XS.ifNo H hx rfl hd rfl ((if0 _ _).trans q) qq
theorem g_icmpY {tb : Tables} [Ours tb] {e : Env} {below : List Frame} {T : State} {m : MethodId} {c : Code} {P : Outcome → State → Prop} {pc pc' : Nat} {Ls : Array Slot} {st : List Value} {o : Int} {cd : ClassFile.Cond} {x y : Int32} (H : At T m c below) (hx : tb.exec = Jvm.exec) (hd : decode c.code pc = .ok (.if_icmp cd o, 3)) (hp : (pc : Int) + o = (pc' : Int)) (q : if_icmp.holds cd x y = true)
    (k : Gets tb e below P T (mkF m pc' Ls st)) : Gets tb e below P T (mkF m pc Ls (.int y :: .int x :: st)) := by
  refine k.by fun t qq => ?_
  exact XS.icmpYes H hx rfl (pc0 := pc) (pc' := pc') rfl hd rfl q (by rw [hp]; exact Int.natCast_nonneg _) (by rw [hp]; rfl) qq
theorem g_icmpN {tb : Tables} [Ours tb] {e : Env} {below : List Frame} {T : State} {m : MethodId} {c : Code} {P : Outcome → State → Prop} {pc pc' : Nat} {Ls : Array Slot} {st : List Value} {o : Int} {cd : ClassFile.Cond} {x y : Int32} (H : At T m c below) (hx : tb.exec = Jvm.exec) (hd : decode c.code pc = .ok (.if_icmp cd o, 3)) (hp : pc + 3 = pc') (q : if_icmp.holds cd x y = false)
    (k : Gets tb e below P T (mkF m pc' Ls st)) : Gets tb e below P T (mkF m pc Ls (.int y :: .int x :: st)) := by
  subst hp; refine k.by fun t qq => ?_; exact XS.icmpNo H hx rfl hd rfl q qq
theorem g_nullY {tb : Tables} [Ours tb] {e : Env} {below : List Frame} {T : State} {m : MethodId} {c : Code} {P : Outcome → State → Prop} {pc pc' : Nat} {Ls : Array Slot} {st : List Value} {o : Int} (H : At T m c below) (hx : tb.exec = Jvm.exec) (hd : decode c.code pc = .ok (.ifnull o, 3)) (hp : (pc : Int) + o = (pc' : Int))
    (k : Gets tb e below P T (mkF m pc' Ls st)) : Gets tb e below P T (mkF m pc Ls (.null :: st)) := by
  refine k.by fun t qq => ?_
  exact XS.ifnullYes H hx rfl (pc0 := pc) (pc' := pc') rfl hd rfl (by rw [hp]; exact Int.natCast_nonneg _) (by rw [hp]; rfl) qq
theorem g_nullN {tb : Tables} [Ours tb] {e : Env} {below : List Frame} {T : State} {m : MethodId} {c : Code} {P : Outcome → State → Prop} {pc pc' : Nat} {Ls : Array Slot} {st : List Value} {o : Int} {b : Addr} (H : At T m c below) (hx : tb.exec = Jvm.exec) (hd : decode c.code pc = .ok (.ifnull o, 3)) (hp : pc + 3 = pc')
    (k : Gets tb e below P T (mkF m pc' Ls st)) : Gets tb e below P T (mkF m pc Ls (.ref b :: st)) := by
  subst hp; refine k.by fun t qq => ?_; exact XS.ifnullNo H hx rfl hd rfl qq
theorem g_nonnullY {tb : Tables} [Ours tb] {e : Env} {below : List Frame} {T : State} {m : MethodId} {c : Code} {P : Outcome → State → Prop} {pc pc' : Nat} {Ls : Array Slot} {st : List Value} {o : Int} {b : Addr} (H : At T m c below) (hx : tb.exec = Jvm.exec) (hd : decode c.code pc = .ok (.ifnonnull o, 3)) (hp : (pc : Int) + o = (pc' : Int))
    (k : Gets tb e below P T (mkF m pc' Ls st)) : Gets tb e below P T (mkF m pc Ls (.ref b :: st)) := by
  refine k.by fun t qq => ?_
  exact XS.ifnonnullYes H hx rfl (pc0 := pc) (pc' := pc') rfl hd rfl (by rw [hp]; exact Int.natCast_nonneg _) (by rw [hp]; rfl) qq
theorem g_nonnullN {tb : Tables} [Ours tb] {e : Env} {below : List Frame} {T : State} {m : MethodId} {c : Code} {P : Outcome → State → Prop} {pc pc' : Nat} {Ls : Array Slot} {st : List Value} {o : Int} (H : At T m c below) (hx : tb.exec = Jvm.exec) (hd : decode c.code pc = .ok (.ifnonnull o, 3)) (hp : pc + 3 = pc')
    (k : Gets tb e below P T (mkF m pc' Ls st)) : Gets tb e below P T (mkF m pc Ls (.null :: st)) := by
  subst hp; refine k.by fun t qq => ?_; exact XS.ifnonnullNo H hx rfl hd rfl qq
theorem g_tsw {tb : Tables} [Ours tb] {e : Env} {below : List Frame} {T : State} {m : MethodId} {c : Code} {P : Outcome → State → Prop} {pc pc' : Nat} {Ls : Array Slot} {st : List Value} {dflt low high : Int} {offs : Array Int} {len : Nat} {o : Int} {i : Int32} (H : At T m c below) (hx : tb.exec = Jvm.exec) (hd : decode c.code pc = .ok (.tableswitch dflt low high offs, len)) (hin : ¬ (i.toInt < low ∨ i.toInt > high)) (hoff : offs[(i.toInt - low).toNat]? = some o) (hp : (pc : Int) + o = (pc' : Int))
    (k : Gets tb e below P T (mkF m pc' Ls st)) : Gets tb e below P T (mkF m pc Ls (.int i :: st)) := by
  refine k.by fun t qq => ?_
  exact XS.tswIn H hx rfl (pc0 := pc) (pc' := pc') rfl hd rfl hin hoff (by rw [hp]; exact Int.natCast_nonneg _) (by rw [hp]; rfl) qq
theorem g_iincV {tb : Tables} [Ours tb] {e : Env} {below : List Frame} {T : State} {m : MethodId} {c : Code} {P : Outcome → State → Prop} {pc pc' : Nat} {Ls Ls' : Array Slot} {st : List Value} {j : Nat} {cst : Int} {x : Int32} (v : Int32) (H : At T m c below) (hx : tb.exec = Jvm.exec) (hd : decode c.code pc = .ok (.iinc j cst, 3)) (hv : x + Int32.ofInt cst = v) (hl : Ls[j]? = some (.val (.int x))) (hs : storeLocals Ls j (.int v) = some Ls') (hp : pc + 3 = pc')
    (k : Gets tb e below P T (mkF m pc' Ls' st)) : Gets tb e below P T (mkF m pc Ls st) := by
  subst hp; subst hv; refine k.by fun t qq => ?_; exact XS.iinc H hx rfl hd hl hs qq
/-- an array's exact content -/
def Ary (Z : State) (h : Heap) (a : Addr) (ty : FieldType) (vs : List Value) : Prop := ∃ cl : Cell, Arr Z h a cl ty ∧ cl.slots.toList = vs ∧ vs.length < 2 ^ 31 ∧ ∀ v ∈ vs, fits ty v = true
theorem Ary.lt {Z : State} {h : Heap} {a : Addr} {ty : FieldType} {vs : List Value} (F : Ary Z h a ty vs) : a < h.size := by obtain ⟨c, A, -⟩ := F; exact A.lt
theorem Ary.len {Z : State} {h : Heap} {a : Addr} {ty : FieldType} {vs : List Value} (F : Ary Z h a ty vs) : vs.length < 2 ^ 31 := by obtain ⟨c, A, -, q, -⟩ := F; exact q
theorem Ary.keep {Z : State} {h h' : Heap} {a : Addr} {ty : FieldType} {vs : List Value} {ws : List Addr} (F : Ary Z h a ty vs) (K : Keep h h' ws) (q : a ∉ ws) : Ary Z h' a ty vs := by obtain ⟨c, A, r⟩ := F; exact ⟨c, ⟨K.2.1 a c A.1 q, A.2⟩, r⟩
theorem Ary.ext {Z : State} {h h' : Heap} {a : Addr} {ty : FieldType} {vs : List Value} (F : Ary Z h a ty vs) (E : Ext h h') : Ary Z h' a ty vs := by obtain ⟨c, A, r⟩ := F; exact ⟨c, A.ext E, r⟩
theorem Ary.made {Z : State} {h : Heap} {a : Addr} {ty : FieldType} {k : ClassId} {n : Int32} (A : Arr Z h a (newA k ty n) ty) (hn : ¬ n < 0) (hf : fits ty (defaultValue ty) = true) : Ary Z h a ty (List.replicate n.toNatClampNeg (defaultValue ty)) :=
  ⟨_, A, by simp [newA], by rw [List.length_replicate]; exact (back32 hn).2, fun v hv => by rw [(List.mem_replicate.mp hv).2]; exact hf⟩
theorem Ary.of_arv {Z : State} {h : Heap} {a : Addr} {ty : FieldType} {k : ClassId} {z : Int32} {vs : List Value} {d : Value} (F : Arv Z h a k ty z vs d) (hl : z.toNatClampNeg = vs.length) : Ary Z h a ty vs := by
  obtain ⟨c, A, -, sz, hz, H, G⟩ := F
  have e : c.slots.toList = vs := by
    apply List.ext_getElem?
    intro i
    by_cases hi : i < c.slots.size
    · have q := H i hi
      have hi' : i < vs.length := by omega
      rw [Array.getElem?_toList, q]
      simp [List.getD_eq_getElem?_getD, hi']
    · have hi' : vs.length ≤ i := by omega
      rw [Array.getElem?_toList, Array.getElem?_eq_none (by omega), List.getElem?_eq_none hi']
  refine ⟨c, A, e, by rw [← hl]; exact (back32 hz).2, fun v hv => ?_⟩
  obtain ⟨i, hi, rfl⟩ := List.mem_iff_getElem.mp hv
  have q := G i (by omega)
  rwa [List.getD_eq_getElem?_getD, List.getElem?_eq_getElem hi] at q
theorem Ary.wrote {Z : State} {h h' : Heap} {a : Addr} {ty : FieldType} {vs : List Value} {cl : Cell} {v : Value} {i : Nat} (A : Arr Z h a cl ty) (e : cl.slots.toList = vs) (hl : vs.length < 2 ^ 31) (hf : ∀ w ∈ vs, fits ty w = true) (hv : fits ty v = true) (W : Wr h h' a i v) : Ary Z h' a ty (vs.set i v) := by
  refine ⟨cl.setSlot i v, A.same W, ?_, by rw [List.length_set]; exact hl, fun w hw => ?_⟩
  · rw [← e]; simp [Cell.setSlot]
  · rcases List.mem_or_eq_of_mem_set hw with q | q
    · exact hf w q
    · rw [q]; exact hv
theorem size_of_list {cl : Cell} {vs : List Value} (e : cl.slots.toList = vs) : cl.slots.size = vs.length := by rw [← e]; simp
theorem at_of_list {cl : Cell} {vs : List Value} (e : cl.slots.toList = vs) (i : Nat) : cl.slots[i]? = vs[i]? := by rw [← e]; simp
theorem i32_nat {n : Nat} (h : n < 2 ^ 31) : n.toInt32.toNatClampNeg = n := by simp only [Int32.toNatClampNeg, len_toInt h]; rfl
end OwnBase
section OwnWalk
variable {p : Program} {l : Launch} {e : Env} {R : Room} {s : State} {m : MethodId} {args : Array Value} {below : List Frame} {meth : Method} {c : Code} {T : State} {Z : State} {a0 : Array Value} {h : Heap} {EL : List (String × Nat)} {own : String} {cells slots : Nat} {ws nw : List Addr} {P : Outcome → State → Prop} {pc pc' : Nat} {Ls : Array Slot} {st : List Value}
/-- where a walk stands -/
def Wk (p : Program) (l : Launch) (e : Env) (R : Room) (s : State) (m : MethodId) (args : Array Value) (below : List Frame) (meth : Method) (c : Code) (Z : State) (EL : List (String × Nat)) (own : String) (ws nw : List Addr) (T : State) (h : Heap) (cells slots : Nat) : Prop :=
  ∃ (locs : List Loc), Stand p l e R s m args below meth c T locs cells slots ∧ T.heap = h ∧ Z.Warmed39 s.vm ∧ s.vm.findClass own = some m.cls ∧ Fr Z.heap.size locs ∧ Ext Z.heap h ∧ Keep s.heap h ws ∧
    (∀ x : Nat, x ∈ ws → Z.heap.size ≤ x ∧ x < h.size) ∧ (∀ x : Nat, x ∈ nw → s.heap.size ≤ x ∧ Z.heap.size ≤ x ∧ x < h.size)
theorem Wk.here (W : Wk p l e R s m args below meth c Z EL own ws nw T h cells slots) : At T m c below := by obtain ⟨_, X, -⟩ := W; exact X.here
theorem Wk.old (W : Wk p l e R s m args below meth c Z EL own ws nw T h cells slots) : Ext Z.heap h := by obtain ⟨_, -, -, -, -, -, E, -⟩ := W; exact E
theorem Wk.lt (W : Wk p l e R s m args below meth c Z EL own ws nw T h cells slots) {x : Nat} (q : x ∈ nw) : x < h.size := by obtain ⟨_, -, -, -, -, -, -, -, -, n⟩ := W; exact (n x q).2.2
theorem Wk.kept (W : Wk p l e R s m args below meth c Z EL own ws nw T h cells slots) : Keep s.heap h ws := by obtain ⟨_, -, -, -, -, -, -, K, -⟩ := W; exact K
/-- a callee's contract: from the arguments as' and the heap h0 it returns a value v and a heap h' with Q v h'; of the cells of h0 at the most those at ws are written -/
def ConL (wl : List Cond) (l : Launch) (Z : State) (EL : List (String × Nat)) (y : MethodName) (bytes : ByteArray) (maxL : Nat) (ret : Option FieldType) (rm : Room) (as' : Array Value) (h0 : Heap) (ws : List Addr) (Q : Option Value → Heap → Prop) : Prop :=
  MetFree l y (head1 (Cond.code y bytes maxL ret :: wl) rm) (fun a U => a = as' ∧ Z.Warmed39 U.vm ∧ U.heap = h0) (fun _ _ _ _ _ => True)
    (fun _ U o U' => ∃ v L, o = .returned v ∧ (Q v U'.heap ∧ Fr Z.heap.size L ∧ Keep h0 U'.heap ws ∧ Ext Z.heap U'.heap) ∧ FrameEnd U o U' L rm.cells rm.slots)
abbrev Con := ConL []
/-- what a contract's body is to come to -/
def Post (s : State) (Z : State) (EL : List (String × Nat)) (rm : Room) (h0 : Heap) (ws : List Addr) (Q : Option Value → Heap → Prop) (o : Outcome) (t : State) : Prop :=
  ∃ v L, o = .returned v ∧ (Q v t.heap ∧ Fr Z.heap.size L ∧ Keep h0 t.heap ws ∧ Ext Z.heap t.heap) ∧ FrameEnd s o t L rm.cells rm.slots
theorem Con.of {wl : List Cond} {y : MethodName} {bytes : ByteArray} {maxL : Nat} {ret : Option FieldType} {rm : Room} {as' : Array Value} {h0 : Heap} {Q : Option Value → Heap → Prop} (Ls : Array Slot)
    (hy : plainFor y = true) (hE : EW Z a0 EL) (O : Ext Z.heap h0) (hws : ∀ x : Nat, x ∈ ws → Z.heap.size ≤ x ∧ x < h0.size) (hent : ∀ m, entryFrame m as' maxL = mkF m 0 Ls [])
    (body : ∀ (p : Program) (e : Env) (s : State) (m : MethodId) (below : List Frame) (meth : Method) (c : Code) (T : State), p.tables.exec = Jvm.exec → c.code = bytes → c.maxLocals = maxL → meth.name = y.name → meth.sig.returnType = ret → meth.locks = false → s.heap = h0 →
      Wk p l e rm s m as' below meth c Z EL y.cls ws [] T h0 0 0 → Gets p.tables e below (Post s Z EL rm h0 ws Q) T (mkF m 0 Ls [])) :
    ConL wl l Z EL y bytes maxL ret rm as' h0 ws Q := by
  refine MetFree.of_bodySF hy hisR ?_
  intro p e s m args below meth c s₁ Bd hml0 hP hK
  obtain ⟨rfl, hZ, hh⟩ := hP
  have hh' : s.heap = h0 := hh
  have hl : meth.locks = false := Bd.notSynchronized
  have e0 : s₁.heap = h0 := by rw [← hh, Bd.state]; rfl
  have X0 : Stand p l e rm s m args below meth c s₁ [] 0 0 := Stand.of_body Bd
  have W : Wk p l e rm s m args below meth c Z EL y.cls ws [] s₁ h0 0 0 :=
    ⟨[], X0, e0, hZ, findClass_of_methodNamed Bd.named, Fr.nil _, O, by rw [hh']; exact Keep.refl _ _, fun x hx => ⟨(hws x hx).1, (hws x hx).2⟩, fun x hx => (nomatch hx)⟩
  obtain ⟨t, o, h1, h2, h3, h4⟩ := body p e s m below meth c s₁ Bd.exec Bd.bytes hml0 (name_of_methodNamed Bd.named Bd.method).1 Bd.returns hl hh' W
  exact ⟨t, o, by rw [hent m]; exact h1, h2, h3, h4⟩
/-! ends -/
theorem w_end {rm : Room} {h0 : Heap} {Q : Option Value → Heap → Prop} (W : Wk p l e R s m args below meth c Z EL own ws nw T h cells slots) (hh : s.heap = h0) {v : Option Value} {g : JFrame} (hl : meth.locks = false) (hv : meth.sig.returnType = none → v = none)
    (st : ∀ {locs : List Loc} {fs : List Frame}, Stand p l e R s m args below meth c T locs cells slots → (∀ (f : JFrame) (acts : List Action), f.method = m → f.locked = none → f.entered = [] → (doReturn e (T.setTop f) acts v).1 = T.setFrames fs) → Steps p.tables e below (T.setTop g) (T.setFrames fs))
    (hc : cells ≤ rm.cells) (hs : slots ≤ rm.slots) (q : Q v h) : Gets p.tables e below (Post s Z EL rm h0 ws Q) T g := by
  obtain ⟨locs, X, eT, hZ, hown, hF, hO, hK, -, -⟩ := W
  obtain ⟨fs, h1, h2, h3, r1, r2⟩ := X.leave hv hl
  subst hh
  refine ⟨_, _, st X h1, h2, h3, v, locs, rfl, ⟨?_, hF, ?_, ?_⟩, ⟨_, rfl⟩, r1, r2.mono hc hs⟩
  · show Q v T.heap; rw [eT]; exact q
  · show Keep _ T.heap _; rw [eT]; exact hK
  · show Ext _ T.heap; rw [eT]; exact hO
theorem w_retI {rm : Room} {h0 : Heap} {Q : Option Value → Heap → Prop} {z : Int32} (W : Wk p l e R s m args below meth c Z EL own ws nw T h cells slots) (hx : p.tables.exec = Jvm.exec) (hh : s.heap = h0) (hl : meth.locks = false) (hret : meth.sig.returnType = some .int) (hd : decode c.code pc = .ok (.ireturn, 1)) (hc : cells ≤ rm.cells) (hs : slots ≤ rm.slots) (q : Q (some (.int z)) h) :
    Gets p.tables e below (Post s Z EL rm h0 ws Q) T (mkF m pc Ls (.int z :: st)) :=
  w_end W hh hl (fun q => by rw [hret] at q; cases q) (fun X hr => retOut X hx hret rfl (Or.inl ⟨rfl, Or.inl rfl, z, rfl⟩) hd hr) hc hs q
theorem w_retN {rm : Room} {h0 : Heap} {Q : Option Value → Heap → Prop} {z : Int32} {t : FieldType} (W : Wk p l e R s m args below meth c Z EL own ws nw T h cells slots) (hx : p.tables.exec = Jvm.exec) (hh : s.heap = h0) (hl : meth.locks = false) (hret : meth.sig.returnType = some t) (ht : t = .boolean ∨ t = .byte ∨ t = .char ∨ t = .short) (hd : decode c.code pc = .ok (.ireturn, 1)) (hc : cells ≤ rm.cells) (hs : slots ≤ rm.slots) (q : Q (some (.int (nar t z))) h) :
    Gets p.tables e below (Post s Z EL rm h0 ws Q) T (mkF m pc Ls (.int z :: st)) :=
  w_end W hh hl (fun q => by rw [hret] at q; cases q) (fun X hr => retN X hx hret ht hd hr) hc hs q
theorem w_retJ {rm : Room} {h0 : Heap} {Q : Option Value → Heap → Prop} {z : Int64} (W : Wk p l e R s m args below meth c Z EL own ws nw T h cells slots) (hx : p.tables.exec = Jvm.exec) (hh : s.heap = h0) (hl : meth.locks = false) (hret : meth.sig.returnType = some .long) (hd : decode c.code pc = .ok (.lreturn, 1)) (hc : cells ≤ rm.cells) (hs : slots ≤ rm.slots) (q : Q (some (.long z)) h) :
    Gets p.tables e below (Post s Z EL rm h0 ws Q) T (mkF m pc Ls (.long z :: st)) :=
  w_end W hh hl (fun q => by rw [hret] at q; cases q) (fun X hr => retOut X hx hret rfl (Or.inr (Or.inl ⟨rfl, rfl, z, rfl⟩)) hd hr) hc hs q
theorem w_retA {rm : Room} {h0 : Heap} {Q : Option Value → Heap → Prop} {w : Value} {t : FieldType} (W : Wk p l e R s m args below meth c Z EL own ws nw T h cells slots) (hx : p.tables.exec = Jvm.exec) (hh : s.heap = h0) (hl : meth.locks = false) (hret : meth.sig.returnType = some t) (ht : t.isReference = true) (hw : w.isRef = true) (hd : decode c.code pc = .ok (.areturn, 1)) (hc : cells ≤ rm.cells) (hs : slots ≤ rm.slots) (q : Q (some w) h) :
    Gets p.tables e below (Post s Z EL rm h0 ws Q) T (mkF m pc Ls (w :: st)) :=
  w_end W hh hl (fun q => by rw [hret] at q; cases q) (fun X hr => retOut X hx hret (by cases t <;> cases w <;> simp [FieldType.isReference, Value.isRef, narrow] at ht hw ⊢) (Or.inr (Or.inr (Or.inr (Or.inr ⟨rfl, ht, hw⟩)))) hd hr) hc hs q
theorem w_retV {rm : Room} {h0 : Heap} {Q : Option Value → Heap → Prop} (W : Wk p l e R s m args below meth c Z EL own ws nw T h cells slots) (hx : p.tables.exec = Jvm.exec) (hh : s.heap = h0) (hl : meth.locks = false) (hret : meth.sig.returnType = none) (hd : decode c.code pc = .ok (.return_, 1)) (hc : cells ≤ rm.cells) (hs : slots ≤ rm.slots) (q : Q none h) :
    Gets p.tables e below (Post s Z EL rm h0 ws Q) T (mkF m pc Ls []) :=
  w_end W hh hl (fun _ => rfl) (fun X hr => X.returnOut hx hret hd hr) hc hs q
/-! steps that leave the heap as it is -/
theorem w_get (W : Wk p l e R s m args below meth c Z EL own ws nw T h cells slots) (hx : p.tables.exec = Jvm.exec) {R0 O n d : String} {index : Nat} (w : (Cond.fieldLink own index R0 n d).before a0 Z = true) (via : Via Z R0 O n d) {a : Nat} {v : Value} (F : Fld Z h a O n d v) (hd : decode c.code pc = .ok (.getfield index, 3)) (hp : pc + 3 = pc')
    (k : ∀ T', Wk p l e R s m args below meth c Z EL own ws nw T' h cells slots → Gets p.tables e below P T' (mkF m pc' Ls (v :: st))) : Gets p.tables e below P T (mkF m pc Ls (.ref a :: st)) := by
  subst hp
  obtain ⟨locs, X, eT, hZ, hown, r⟩ := W
  obtain ⟨T', X', e', stp⟩ := getF X hx hZ hown (host := "") (Or.inl w) via eT F (g := mkF m pc Ls (.ref a :: st)) rfl rfl hd
  exact (k T' ⟨locs, X', e', hZ, hown, r⟩).by stp
theorem w_getS (W : Wk p l e R s m args below meth c Z EL own ws nw T h cells slots) (hx : p.tables.exec = Jvm.exec) {R0 O n d : String} {index : Nat} (w : (Cond.fieldLink own index R0 n d).before a0 Z = true) (via : Via Z R0 O n d) {v : Value} (F : Sta Z Z.heap O n d v) (hd : decode c.code pc = .ok (.getstatic index, 3)) (hp : pc + 3 = pc')
    (k : ∀ T', Wk p l e R s m args below meth c Z EL own ws nw T' h cells slots → Gets p.tables e below P T' (mkF m pc' Ls (v :: st))) : Gets p.tables e below P T (mkF m pc Ls st) := by
  subst hp
  have O := W.old
  obtain ⟨locs, X, eT, hZ, hown, r⟩ := W
  obtain ⟨T', X', e', stp⟩ := getS X hx hZ hown (host := "") w via eT (F.ext O) (g := mkF m pc Ls st) rfl hd
  exact (k T' ⟨locs, X', e', hZ, hown, r⟩).by stp
theorem w_ldcI (W : Wk p l e R s m args below meth c Z EL own ws nw T h cells slots) (hx : p.tables.exec = Jvm.exec) {index : Nat} {v : Int32} (w : (Cond.constant own index v).before a0 Z = true) (hd : decode c.code pc = .ok (.ldc index, 2)) (hp : pc + 2 = pc')
    (k : Gets p.tables e below P T (mkF m pc' Ls (.int v :: st))) : Gets p.tables e below P T (mkF m pc Ls st) := by
  subst hp
  obtain ⟨locs, X, eT, hZ, hown, r⟩ := W
  exact k.by fun t q => Jvm.Stand.ldcI X hx hown (mv hZ w) (g := mkF m pc Ls st) rfl hd q
theorem w_ldc2J (W : Wk p l e R s m args below meth c Z EL own ws nw T h cells slots) (hx : p.tables.exec = Jvm.exec) {index : Nat} {v : Int64} (w : (Cond.constantLong own index v).before a0 Z = true) (hd : decode c.code pc = .ok (.ldc2_w index, 3)) (hp : pc + 3 = pc')
    (k : Gets p.tables e below P T (mkF m pc' Ls (.long v :: st))) : Gets p.tables e below P T (mkF m pc Ls st) := by
  subst hp
  obtain ⟨locs, X, eT, hZ, hown, r⟩ := W
  exact k.by fun t q => Jvm.Stand.ldc2J X hx hown (mv hZ w) (g := mkF m pc Ls st) rfl hd q
theorem w_acmp (W : Wk p l e R s m args below meth c Z EL own ws nw T h cells slots) (hx : p.tables.exec = Jvm.exec) {cd : ACond} {x y : Value} {o : Int} (h1 : x.isRef = true) (h2 : y.isRef = true) (same : Bool) (hd : decode c.code pc = .ok (.if_acmp cd o, 3)) (hq : decide (x = y) = same) (ho : 0 ≤ (pc : Int) + o) (hp : pc' = if acV cd same = true then ((pc : Int) + o).toNat else pc + 3)
    (k : Gets p.tables e below P T (mkF m pc' Ls st)) : Gets p.tables e below P T (mkF m pc Ls (y :: x :: st)) := by
  obtain ⟨locs, X, r⟩ := W
  exact k.by fun t q => Jvm.RoadKit.acmp (g := mkF m pc Ls (y :: x :: st)) X hx rfl h1 h2 (pc0 := pc) (pc' := pc') rfl hd rfl hq ho hp q
theorem w_cast (W : Wk p l e R s m args below meth c Z EL own ws nw T h cells slots) (hx : p.tables.exec = Jvm.exec) {K : String} {index : Nat} (w : (Cond.classLink own index K).before a0 Z = true) {a : Nat} (F : Ins Z h a K true) (hd : decode c.code pc = .ok (.checkcast index, 3)) (hp : pc + 3 = pc')
    (k : ∀ T', Wk p l e R s m args below meth c Z EL own ws nw T' h cells slots → Gets p.tables e below P T' (mkF m pc' Ls (.ref a :: st))) : Gets p.tables e below P T (mkF m pc Ls (.ref a :: st)) := by
  subst hp
  obtain ⟨locs, X, eT, hZ, hown, r⟩ := W
  obtain ⟨T', X', e', stp⟩ := castY X hx hZ hown w eT F (g := mkF m pc Ls (.ref a :: st)) rfl rfl hd
  exact (k T' ⟨locs, X', e', hZ, hown, r⟩).by stp
theorem w_inst (W : Wk p l e R s m args below meth c Z EL own ws nw T h cells slots) (hx : p.tables.exec = Jvm.exec) {K : String} {index : Nat} (w : (Cond.classLink own index K).before a0 Z = true) {a : Nat} (F : Ins Z h a K true) (hd : decode c.code pc = .ok (.instanceof index, 3)) (hp : pc + 3 = pc')
    (k : ∀ T', Wk p l e R s m args below meth c Z EL own ws nw T' h cells slots → Gets p.tables e below P T' (mkF m pc' Ls (.int 1 :: st))) : Gets p.tables e below P T (mkF m pc Ls (.ref a :: st)) := by
  subst hp
  obtain ⟨locs, X, eT, hZ, hown, r⟩ := W
  obtain ⟨T', X', e', stp⟩ := instY X hx hZ hown w eT F (g := mkF m pc Ls (.ref a :: st)) rfl rfl hd
  exact (k T' ⟨locs, X', e', hZ, hown, r⟩).by stp
theorem w_len (W : Wk p l e R s m args below meth c Z EL own ws nw T h cells slots) (hx : p.tables.exec = Jvm.exec) {a : Nat} {ty : FieldType} {vs : List Value} (F : Ary Z h a ty vs) (hd : decode c.code pc = .ok (.arraylength, 1)) (hp : pc + 1 = pc')
    (k : Gets p.tables e below P T (mkF m pc' Ls (.int vs.length.toInt32 :: st))) : Gets p.tables e below P T (mkF m pc Ls (.ref a :: st)) := by
  subst hp
  obtain ⟨locs, X, eT, hZ, hown, r⟩ := W
  obtain ⟨cl, A, e1, -, -⟩ := F
  refine k.by fun t q => X.arraylength hx (by rw [eT]; exact A.1) (State.isArrayOf_alike hZ.alike A.2.1) (g := mkF m pc Ls (.ref a :: st)) rfl rfl hd t ?_
  rw [size_of_list e1]; exact q
theorem in_of {cl : Cell} {vs : List Value} {j : Int32} {v : Value} (e : cl.slots.toList = vs) (hj : ¬ j < 0) (hv : vs[j.toNatClampNeg]? = some v) : ¬ (j < 0 ∨ cl.slots.size ≤ j.toNatClampNeg) ∧ cl.slots[j.toNatClampNeg]? = some v := by
  refine ⟨fun q => q.elim hj fun q => ?_, by rw [at_of_list e]; exact hv⟩
  have := (List.getElem?_eq_some_iff.mp hv).1
  rw [size_of_list e] at q; omega
theorem w_caload (W : Wk p l e R s m args below meth c Z EL own ws nw T h cells slots) (hx : p.tables.exec = Jvm.exec) {a : Nat} {vs : List Value} {j : Int32} {v : Value} (F : Ary Z h a .char vs) (hj : ¬ j < 0) (hv : vs[j.toNatClampNeg]? = some v) (hd : decode c.code pc = .ok (.caload, 1)) (hp : pc + 1 = pc')
    (k : Gets p.tables e below P T (mkF m pc' Ls (v :: st))) : Gets p.tables e below P T (mkF m pc Ls (.int j :: .ref a :: st)) := by
  subst hp
  obtain ⟨locs, X, eT, hZ, hown, r⟩ := W
  obtain ⟨cl, A, e1, -, -⟩ := F
  obtain ⟨q1, q2⟩ := in_of e1 hj hv
  exact k.by fun t q => X.caload hx (by rw [eT]; exact A.1) (State.isArrayOf_alike hZ.alike A.2.1) A.2.2 q1 q2 (g := mkF m pc Ls (.int j :: .ref a :: st)) rfl rfl hd t q
theorem w_baload (W : Wk p l e R s m args below meth c Z EL own ws nw T h cells slots) (hx : p.tables.exec = Jvm.exec) {a : Nat} {vs : List Value} {j : Int32} {v : Value} (F : Ary Z h a .byte vs) (hj : ¬ j < 0) (hv : vs[j.toNatClampNeg]? = some v) (hd : decode c.code pc = .ok (.baload, 1)) (hp : pc + 1 = pc')
    (k : Gets p.tables e below P T (mkF m pc' Ls (v :: st))) : Gets p.tables e below P T (mkF m pc Ls (.int j :: .ref a :: st)) := by
  subst hp
  obtain ⟨locs, X, eT, hZ, hown, r⟩ := W
  obtain ⟨cl, A, e1, -, -⟩ := F
  obtain ⟨q1, q2⟩ := in_of e1 hj hv
  exact k.by fun t q => X.baloadBytes hx (by rw [eT]; exact A.1) (State.isArrayOf_alike hZ.alike A.2.1) A.2.2 q1 q2 (g := mkF m pc Ls (.int j :: .ref a :: st)) rfl rfl hd t q
theorem w_iaload (W : Wk p l e R s m args below meth c Z EL own ws nw T h cells slots) (hx : p.tables.exec = Jvm.exec) {a : Nat} {vs : List Value} {j : Int32} {v : Value} (F : Ary Z h a .int vs) (hj : ¬ j < 0) (hv : vs[j.toNatClampNeg]? = some v) (hd : decode c.code pc = .ok (.iaload, 1)) (hp : pc + 1 = pc')
    (k : Gets p.tables e below P T (mkF m pc' Ls (v :: st))) : Gets p.tables e below P T (mkF m pc Ls (.int j :: .ref a :: st)) := by
  subst hp
  obtain ⟨locs, X, eT, hZ, hown, r⟩ := W
  obtain ⟨cl, A, e1, -, -⟩ := F
  obtain ⟨q1, q2⟩ := in_of e1 hj hv
  exact k.by fun t q => X.iaload hx (by rw [eT]; exact A.1) (State.isArrayOf_alike hZ.alike A.2.1) A.2.2 q1 q2 (g := mkF m pc Ls (.int j :: .ref a :: st)) rfl rfl hd t q
theorem w_aaload (W : Wk p l e R s m args below meth c Z EL own ws nw T h cells slots) (hx : p.tables.exec = Jvm.exec) {a : Nat} {ty : FieldType} {vs : List Value} {j : Int32} {v : Value} (F : Ary Z h a ty vs) (hty : ty.isReference = true) (hj : ¬ j < 0) (hv : vs[j.toNatClampNeg]? = some v) (hd : decode c.code pc = .ok (.aaload, 1)) (hp : pc + 1 = pc')
    (k : Gets p.tables e below P T (mkF m pc' Ls (v :: st))) : Gets p.tables e below P T (mkF m pc Ls (.int j :: .ref a :: st)) := by
  subst hp
  obtain ⟨locs, X, eT, hZ, hown, r⟩ := W
  obtain ⟨cl, A, e1, -, -⟩ := F
  obtain ⟨q1, q2⟩ := in_of e1 hj hv
  exact k.by fun t q => X.aaload hx (by rw [eT]; exact A.1) (State.isArrayOf_alike hZ.alike A.2.1) hty A.2.2 q1 q2 (g := mkF m pc Ls (.int j :: .ref a :: st)) rfl rfl hd t q
theorem w_aaloadA (W : Wk p l e R s m args below meth c Z EL own ws nw T h cells slots) (hx : p.tables.exec = Jvm.exec) {a : Nat} {ty : FieldType} {cl : Cell} {j : Int32} {v : Value} (A : Arr Z h a cl ty) (hty : ty.isReference = true) (hin : ¬ (j < 0 ∨ cl.slots.size ≤ j.toNatClampNeg)) (hv : cl.slots[j.toNatClampNeg]? = some v) (hd : decode c.code pc = .ok (.aaload, 1)) (hp : pc + 1 = pc')
    (k : Gets p.tables e below P T (mkF m pc' Ls (v :: st))) : Gets p.tables e below P T (mkF m pc Ls (.int j :: .ref a :: st)) := by
  subst hp
  obtain ⟨locs, X, eT, hZ, hown, r⟩ := W
  exact k.by fun t q => X.aaload hx (by rw [eT]; exact A.1) (State.isArrayOf_alike hZ.alike A.2.1) hty A.2.2 hin hv (g := mkF m pc Ls (.int j :: .ref a :: st)) rfl rfl hd t q
theorem w_initO (W : Wk p l e R s m args below meth c Z EL own ws nw T h cells slots) (hx : p.tables.exec = Jvm.exec) {idx : Nat} (w1 : (Cond.methodLink own idx Lib.objectInit).before a0 Z = true) (w2 : (Cond.instanceMethod Lib.objectInit).before a0 Z = true) (w3 : (Cond.code Lib.objectInit ⟨#[0xb1]⟩ 1 none).before a0 Z = true) {a : Nat} (hsz : Ls.size = c.maxLocals) (hd : decode c.code pc = .ok (.invokespecial idx, 3)) (hf : 1 ≤ R.frames) (hW : (st.map fun v => v.category).sum + 12 ≤ R.locals) (hp : pc + 3 = pc')
    (k : ∀ T', Wk p l e R s m args below meth c Z EL own ws nw T' h cells slots → Gets p.tables e below P T' (mkF m pc' Ls st)) : Gets p.tables e below P T (mkF m pc Ls (.ref a :: st)) := by
  subst hp
  obtain ⟨locs, X, eT, hZ, hown, r⟩ := W
  obtain ⟨T', X', e', stp⟩ := initO X hx hZ hown w1 w2 w3 eT (g := mkF m pc Ls (.ref a :: st)) rfl hsz rfl hd hf (W := (st.map fun v => v.category).sum) (by show 2 * 0 + _ ≤ _; omega) hW
  exact (k T' ⟨locs, X', e', hZ, hown, r⟩).by stp
/-! steps that move the heap -/
theorem w_new (W : Wk p l e R s m args below meth c Z EL own ws nw T h cells slots) (hx : p.tables.exec = Jvm.exec) {C : String} {index n : Nat} (w : (Cond.classLink own index C).before a0 Z = true) (wi : (Cond.instantiable C n).before a0 Z = true) (wz : (Cond.initialized C).before a0 Z = true) (hd : decode c.code pc = .ok (.new index, 3)) (hc : cells + 1 ≤ R.cells) (hl : slots + n ≤ R.slots) (hp : pc + 3 = pc')
    (k : ∀ (T' : State) (h' : Heap) (b : Nat), b = h.size → Wk p l e R s m args below meth c Z EL own ws (b :: nw) T' h' (cells + 1) (slots + n) → Keep h h' [] → Exa Z h' b C → (∀ {O nm d : String} {ty : FieldType}, Laid Z a0 C O nm d → parseFieldDescriptor d = some ty → Fld Z h' b O nm d (defaultValue ty)) → Gets p.tables e below P T' (mkF m pc' Ls (.ref b :: st))) : Gets p.tables e below P T (mkF m pc Ls st) := by
  subst hp
  obtain ⟨locs, X, eT, hZ, hown, hF, hO, hK, n1, n2⟩ := W
  obtain ⟨T', h', X', e', E, A, D, -, stp⟩ := newO X hx hZ hown w wi wz eT (g := mkF m pc Ls st) rfl hd hc hl
  have hn : h.size < h'.size := A.lt
  have hs : s.heap.size ≤ h.size := hK.1
  refine (k T' h' h.size rfl ⟨locs, X', e', hZ, hown, hF, ⟨Nat.le_trans hO.1 E.1, fun a c q => E.2 a c (hO.2 a c q)⟩, hK.ext E, fun x hx => ?_, fun x hx => ?_⟩ ((Keep.refl h []).ext E) A D).by stp
  · obtain ⟨a, b⟩ := n1 x hx
    exact ⟨a, Nat.lt_of_lt_of_le b E.1⟩
  · rcases List.mem_cons.mp hx with rfl | hx
    · exact ⟨hs, hO.1, hn⟩
    · obtain ⟨a, b, c⟩ := n2 x hx
      exact ⟨a, b, Nat.lt_of_lt_of_le c E.1⟩
theorem w_newarr (W : Wk p l e R s m args below meth c Z EL own ws nw T h cells slots) (hx : p.tables.exec = Jvm.exec) {aty : ArrayType} (w : (Cond.arrayClass (newarray.typeOf aty)).before a0 Z = true) {n : Int32} (hd : decode c.code pc = .ok (.newarray aty, 2)) (hn : ¬ n < 0) {cap : Nat} (hcap : n.toNatClampNeg ≤ cap) (hb : cap * 8 ≤ 536870912) (hc : cells + 1 ≤ R.cells) (hl : slots + cap ≤ R.slots) (hf : fits (newarray.typeOf aty) (defaultValue (newarray.typeOf aty)) = true) (hp : pc + 2 = pc')
    (k : ∀ (T' : State) (h' : Heap) (b : Nat), b = h.size → Wk p l e R s m args below meth c Z EL own ws (b :: nw) T' h' (cells + 1) (slots + cap) → Keep h h' [] → Ary Z h' b (newarray.typeOf aty) (List.replicate n.toNatClampNeg (defaultValue (newarray.typeOf aty))) → Gets p.tables e below P T' (mkF m pc' Ls (.ref b :: st))) : Gets p.tables e below P T (mkF m pc Ls (.int n :: st)) := by
  subst hp
  obtain ⟨locs, X, eT, hZ, hown, hF, hO, hK, n1, n2⟩ := W
  obtain ⟨T', h', cA, X', e', E, A, stp⟩ := newP X hx hZ w eT (g := mkF m pc Ls (.int n :: st)) rfl hd rfl hn hcap hb hc hl
  have hn' : h.size < h'.size := A.lt
  have hs : s.heap.size ≤ h.size := hK.1
  refine (k T' h' h.size rfl ⟨locs, X', e', hZ, hown, hF, ⟨Nat.le_trans hO.1 E.1, fun a c q => E.2 a c (hO.2 a c q)⟩, hK.ext E, fun x hx => ?_, fun x hx => ?_⟩ ((Keep.refl h []).ext E) (Ary.made A hn hf)).by stp
  · obtain ⟨a, b⟩ := n1 x hx
    exact ⟨a, Nat.lt_of_lt_of_le b E.1⟩
  · rcases List.mem_cons.mp hx with rfl | hx
    · exact ⟨hs, hO.1, hn'⟩
    · obtain ⟨a, b, c⟩ := n2 x hx
      exact ⟨a, b, Nat.lt_of_lt_of_le c E.1⟩
theorem Wk.wrote {locs : List Loc} {T' : State} {h' : Heap} {a : Nat} {sl : Nat} {v : Value} (ha : a ∈ ws ++ nw) (WW : Wr h h' a sl v) (X' : Stand p l e R s m args below meth c T' (locs ++ [⟨a, sl⟩]) cells slots) (e' : T'.heap = h')
    (r : Z.Warmed39 s.vm ∧ s.vm.findClass own = some m.cls ∧ Fr Z.heap.size locs ∧ Ext Z.heap h ∧ Keep s.heap h ws ∧ (∀ x : Nat, x ∈ ws → Z.heap.size ≤ x ∧ x < h.size) ∧ (∀ x : Nat, x ∈ nw → s.heap.size ≤ x ∧ Z.heap.size ≤ x ∧ x < h.size)) :
    Wk p l e R s m args below meth c Z EL own ws nw T' h' cells slots := by
  obtain ⟨hZ, hown, hF, hO, hK, n1, n2⟩ := r
  have sz := WW.size
  have key : Z.heap.size ≤ a ∧ (a ∈ ws ∨ s.heap.size ≤ a) := by
    rcases List.mem_append.mp ha with q | q
    · exact ⟨(n1 a q).1, Or.inl q⟩
    · exact ⟨(n2 a q).2.1, Or.inr (n2 a q).1⟩
  have K1 : Keep h h' [a] := Keep.of_wr WW
  refine ⟨locs ++ [⟨a, sl⟩], X', e', hZ, hown, Fr.snoc X' hF key.1, ⟨by have := hO.1; omega, fun x cc q => K1.2.1 x cc (hO.2 x cc q) fun z => ?_⟩, hK.wr WW key.2, fun x hx => ?_, fun x hx => ?_⟩
  · cases List.mem_singleton.mp z
    have := (Array.getElem?_eq_some_iff.mp q).1
    omega
  · obtain ⟨q1, q2⟩ := n1 x hx
    exact ⟨q1, by omega⟩
  · obtain ⟨q1, q2, q3⟩ := n2 x hx
    exact ⟨q1, q2, by omega⟩
theorem w_put (W : Wk p l e R s m args below meth c Z EL own ws nw T h cells slots) (hx : p.tables.exec = Jvm.exec) {R0 O n d C : String} {index kk : Nat} {ty : FieldType} (w : (Cond.fieldLink own index R0 n d).before a0 Z = true) (via : Via Z R0 O n d) {a : Nat} {v old : Value} (F : Fld Z h a O n d old) (E : Exa Z h a C) (L : (Cond.lays C O n d).before a0 Z = true ∨ ((Cond.laysFinal C O n d).before a0 Z = true ∧ own = O ∧ meth.name = "<init>")) (wi : (Cond.instantiable C kk).before a0 Z = true)
    (hty : parseFieldDescriptor d = some ty) (hn : narrow ty v = v) (hf : fits ty v = true) (ha : a ∈ ws ++ nw) (hd : decode c.code pc = .ok (.putfield index, 3)) (hp : pc + 3 = pc')
    (k : ∀ T' h', Wk p l e R s m args below meth c Z EL own ws nw T' h' cells slots → Keep h h' [a] → Wr h h' a (Jvm.RoadKit.slotOf Z O n d) v → Fld Z h' a O n d v → Exa Z h' a C → Gets p.tables e below P T' (mkF m pc' Ls st)) : Gets p.tables e below P T (mkF m pc Ls (v :: .ref a :: st)) := by
  subst hp
  obtain ⟨locs, X, eT, r⟩ := W
  obtain ⟨T', h', X', e', WW, stp⟩ := putF X hx r.1 r.2.1 (host := "") (Or.inl w) via eT F E L wi hty hn hf (g := mkF m pc Ls (v :: .ref a :: st)) rfl rfl hd
  exact (k T' h' (Wk.wrote ha WW X' e' r) (Keep.of_wr WW) WW (F.same WW) (E.wr WW)).by stp
theorem w_putN (W : Wk p l e R s m args below meth c Z EL own ws nw T h cells slots) (hx : p.tables.exec = Jvm.exec) {R0 O n d C : String} {index kk : Nat} {ty : FieldType} (w : (Cond.fieldLink own index R0 n d).before a0 Z = true) (via : Via Z R0 O n d) {a : Nat} {v v' old : Value} (F : Fld Z h a O n d old) (E : Exa Z h a C) (L : (Cond.lays C O n d).before a0 Z = true ∨ ((Cond.laysFinal C O n d).before a0 Z = true ∧ own = O ∧ meth.name = "<init>")) (wi : (Cond.instantiable C kk).before a0 Z = true)
    (hty : parseFieldDescriptor d = some ty) (hn : narrow ty v = v') (hf : fits ty v' = true) (ha : a ∈ ws ++ nw) (hd : decode c.code pc = .ok (.putfield index, 3)) (hp : pc + 3 = pc')
    (k : ∀ T' h', Wk p l e R s m args below meth c Z EL own ws nw T' h' cells slots → Keep h h' [a] → Wr h h' a (Jvm.RoadKit.slotOf Z O n d) v' → Fld Z h' a O n d v' → Exa Z h' a C → Gets p.tables e below P T' (mkF m pc' Ls st)) : Gets p.tables e below P T (mkF m pc Ls (v :: .ref a :: st)) := by
  subst hp
  obtain ⟨locs, X, eT, r⟩ := W
  obtain ⟨T', h', X', e', WW, stp⟩ := putFN X hx r.1 r.2.1 w via eT F E L wi hty hn hf (g := mkF m pc Ls (v :: .ref a :: st)) rfl rfl hd
  exact (k T' h' (Wk.wrote ha WW X' e' r) (Keep.of_wr WW) WW (F.same WW) (E.wr WW)).by stp
theorem w_castore (W : Wk p l e R s m args below meth c Z EL own ws nw T h cells slots) (hx : p.tables.exec = Jvm.exec) {a : Nat} {vs : List Value} {j x : Int32} (F : Ary Z h a .char vs) (hj : ¬ j < 0) (hi : j.toNatClampNeg < vs.length) (ha : a ∈ ws ++ nw) {x' : Int32} (hq : nar .char x = x') (hd : decode c.code pc = .ok (.castore, 1)) (hp : pc + 1 = pc')
    (k : ∀ T' h', Wk p l e R s m args below meth c Z EL own ws nw T' h' cells slots → Keep h h' [a] → Ary Z h' a .char (vs.set j.toNatClampNeg (.int x')) → Gets p.tables e below P T' (mkF m pc' Ls st)) : Gets p.tables e below P T (mkF m pc Ls (.int x :: .int j :: .ref a :: st)) := by
  subst hp; subst hq
  obtain ⟨locs, X, eT, r⟩ := W
  obtain ⟨cl, A, e1, e2, e3⟩ := F
  obtain ⟨T', h', X', e', WW, stp⟩ := stC X hx r.1 eT A (j := j) (x := x) (fun q => q.elim hj fun q => by rw [size_of_list e1] at q; omega) (g := mkF m pc Ls (.int x :: .int j :: .ref a :: st)) rfl rfl hd
  exact (k T' h' (Wk.wrote ha WW X' e' r) (Keep.of_wr WW) (Ary.wrote A e1 e2 e3 (fits_nar_char x) WW)).by stp
theorem w_bastore (W : Wk p l e R s m args below meth c Z EL own ws nw T h cells slots) (hx : p.tables.exec = Jvm.exec) {a : Nat} {vs : List Value} {j x : Int32} (F : Ary Z h a .byte vs) (hj : ¬ j < 0) (hi : j.toNatClampNeg < vs.length) (ha : a ∈ ws ++ nw) {x' : Int32} (hq : x.toInt8.toInt32 = x') (hd : decode c.code pc = .ok (.bastore, 1)) (hp : pc + 1 = pc')
    (k : ∀ T' h', Wk p l e R s m args below meth c Z EL own ws nw T' h' cells slots → Keep h h' [a] → Ary Z h' a .byte (vs.set j.toNatClampNeg (.int x')) → Gets p.tables e below P T' (mkF m pc' Ls st)) : Gets p.tables e below P T (mkF m pc Ls (.int x :: .int j :: .ref a :: st)) := by
  subst hp; subst hq
  obtain ⟨locs, X, eT, r⟩ := W
  obtain ⟨cl, A, e1, e2, e3⟩ := F
  obtain ⟨T', h', X', e', WW, stp⟩ := stB X hx r.1 eT A (j := j) (x := x) (fun q => q.elim hj fun q => by rw [size_of_list e1] at q; omega) (g := mkF m pc Ls (.int x :: .int j :: .ref a :: st)) rfl rfl hd
  exact (k T' h' (Wk.wrote ha WW X' e' r) (Keep.of_wr WW) (Ary.wrote A e1 e2 e3 (fits_nar_byte x) WW)).by stp
theorem w_iastore (W : Wk p l e R s m args below meth c Z EL own ws nw T h cells slots) (hx : p.tables.exec = Jvm.exec) {a : Nat} {vs : List Value} {j x : Int32} (F : Ary Z h a .int vs) (hj : ¬ j < 0) (hi : j.toNatClampNeg < vs.length) (ha : a ∈ ws ++ nw) (hd : decode c.code pc = .ok (.iastore, 1)) (hp : pc + 1 = pc')
    (k : ∀ T' h', Wk p l e R s m args below meth c Z EL own ws nw T' h' cells slots → Keep h h' [a] → Ary Z h' a .int (vs.set j.toNatClampNeg (.int x)) → Gets p.tables e below P T' (mkF m pc' Ls st)) : Gets p.tables e below P T (mkF m pc Ls (.int x :: .int j :: .ref a :: st)) := by
  subst hp
  obtain ⟨locs, X, eT, r⟩ := W
  obtain ⟨cl, A, e1, e2, e3⟩ := F
  obtain ⟨T', h', X', e', WW, stp⟩ := stI X hx r.1 eT A (j := j) (x := x) (fun q => q.elim hj fun q => by rw [size_of_list e1] at q; omega) (g := mkF m pc Ls (.int x :: .int j :: .ref a :: st)) rfl rfl hd
  exact (k T' h' (Wk.wrote ha WW X' e' r) (Keep.of_wr WW) (Ary.wrote A e1 e2 e3 rfl WW)).by stp
/-! calls -/
theorem backC {y : MethodName} {bytes : ByteArray} {maxL : Nat} {ret : Option FieldType} {rm : Room} {len W : Nat} {as' : Array Value} {Q : Option Value → Heap → Prop} {wsc : List Addr}
    (hM : Con l Z EL y bytes maxL ret rm as' h wsc Q) (hZ : Z.Warmed39 s.vm) (wc : (Cond.code y bytes maxL ret).before a0 Z = true) (wz : (Cond.initialized y.cls).before a0 Z = true) (hf : rm.frames + 1 ≤ R.frames) (hl : W + (maxL + 11) + rm.locals ≤ R.locals) :
    Back l R p e below s args y len W (fun A a => a = as' ∧ A.U.heap = h ∧ A.cells + rm.cells ≤ R.cells ∧ A.slots + rm.slots ≤ R.slots)
      (fun A _ v B => ∃ L, (Q v B.U.heap ∧ Fr Z.heap.size L ∧ Keep h B.U.heap wsc ∧ Ext Z.heap B.U.heap) ∧ B.locs = A.locs ++ L ∧ B.cells = A.cells + rm.cells ∧ B.slots = A.slots + rm.slots) :=
  backOf (Q := fun v h' L => Q v h' ∧ Fr Z.heap.size L ∧ Keep h h' wsc ∧ Ext Z.heap h') hM hZ wc wz hf hl
theorem Wk.called {locs L : List Loc} {T' : State} {h' : Heap} {wsc : List Addr} {c' s' : Nat} (hw : ∀ x ∈ wsc, x ∈ ws ++ nw) (X' : Stand p l e R s m args below meth c T' (locs ++ L) c' s') (e' : T'.heap = h') (F : Fr Z.heap.size L) (K : Keep h h' wsc) (O' : Ext Z.heap h')
    (r : Z.Warmed39 s.vm ∧ s.vm.findClass own = some m.cls ∧ Fr Z.heap.size locs ∧ Ext Z.heap h ∧ Keep s.heap h ws ∧ (∀ x : Nat, x ∈ ws → Z.heap.size ≤ x ∧ x < h.size) ∧ (∀ x : Nat, x ∈ nw → s.heap.size ≤ x ∧ Z.heap.size ≤ x ∧ x < h.size)) :
    Wk p l e R s m args below meth c Z EL own ws nw T' h' c' s' := by
  obtain ⟨hZ, hown, hF, hO, hK, n1, n2⟩ := r
  have sz := K.1
  refine ⟨locs ++ L, X', e', hZ, hown, Fr.app hF F, O', hK.trans K (fun x hx => ?_), fun x hx => ?_, fun x hx => ?_⟩
  · rcases List.mem_append.mp (hw x hx) with q | q
    · exact Or.inl q
    · exact Or.inr (n2 x q).1
  · obtain ⟨q1, q2⟩ := n1 x hx
    exact ⟨q1, by omega⟩
  · obtain ⟨q1, q2, q3⟩ := n2 x hx
    exact ⟨q1, q2, by omega⟩
theorem w_callS (W : Wk p l e R s m args below meth c Z EL own ws nw T h cells slots) (hx : p.tables.exec = Jvm.exec) {index : Nat} {y : MethodName} {bytes : ByteArray} {maxL : Nat} {ret : Option FieldType} {rm : Room} {Q : Option Value → Heap → Prop} {wsc : List Addr} (argsL : List Value)
    (w1 : (Cond.methodLink own index y).before a0 Z = true) (w2 : (Cond.static y).before a0 Z = true) (w3 : (Cond.initialized y.cls).before a0 Z = true) (w4 : (Cond.code y bytes maxL ret).before a0 Z = true) (hy : y.cls ≠ "java/lang/invoke/MethodHandle" ∧ y.cls ≠ "java/lang/invoke/VarHandle")
    (H : Con l Z EL y bytes maxL ret rm argsL.toArray h wsc Q) (hwc : ∀ x ∈ wsc, x ∈ ws ++ nw) (hsz : Ls.size = c.maxLocals) (hlen : ∀ sig, parseMethodDescriptor y.desc = some sig → argsL.length = sig.parameters.length) {stk : List Value} (hstk : stk = argsL.reverse ++ st) (hd : decode c.code pc = .ok (.invokestatic index, 3))
    (hf : rm.frames + 1 ≤ R.frames) (hl : (st.map fun v => v.category).sum + (maxL + 11) + rm.locals ≤ R.locals) (hc : cells + rm.cells ≤ R.cells) (hs : slots + rm.slots ≤ R.slots) (hp : pc + 3 = pc')
    (k : ∀ v T' h', Wk p l e R s m args below meth c Z EL own ws nw T' h' (cells + rm.cells) (slots + rm.slots) → Keep h h' wsc → Q v h' → Gets p.tables e below P T' (mkF m pc' Ls (v.toList ++ st))) : Gets p.tables e below P T (mkF m pc Ls stk) := by
  subst hp
  obtain ⟨locs, X, eT, r⟩ := W
  obtain ⟨hZ, hown, hF, hO, hK, n1, n2⟩ := id r
  obtain ⟨v, vm1, ⟨T', L', c', s'⟩, -, X', ⟨L, ⟨q1, q2, q3, q4⟩, l1, l2, l3⟩, stp⟩ := Jvm.LawKit.callS X hx (y := y) hown (mv hZ w1) (mv hZ w2) (mv hZ w3) (mv hZ w4) hy (backC (W := (st.map fun v => v.category).sum) H hZ w4 w3 hf hl) (g := mkF m pc Ls stk) rfl hsz (argsL := argsL) (rest := st) hlen hstk (by show 2 * 0 + _ ≤ _; omega) hd (fun _ _ => ⟨rfl, eT, hc, hs⟩)
  dsimp only [Pt.U, Pt.locs, Pt.cells, Pt.slots] at X' q1 q3 q4 l1 l2 l3 stp
  subst l1 l2 l3
  exact (k v T' _ (Wk.called (h' := T'.heap) hwc X' rfl q2 q3 q4 r) q3 q1).by fun t q => stp t q
theorem w_special (W : Wk p l e R s m args below meth c Z EL own ws nw T h cells slots) (hx : p.tables.exec = Jvm.exec) {index : Nat} {y : MethodName} {bytes : ByteArray} {maxL : Nat} {rm : Room} {Q : Option Value → Heap → Prop} {wsc : List Addr} {a : Nat} (argsL : List Value) (hy1 : y.name = "<init>")
    (w1 : (Cond.methodLink own index y).before a0 Z = true) (w2 : (Cond.instanceMethod y).before a0 Z = true) (w3 : (Cond.initialized y.cls).before a0 Z = true) (w4 : (Cond.code y bytes maxL none).before a0 Z = true) (hy : y.cls ≠ "java/lang/invoke/MethodHandle" ∧ y.cls ≠ "java/lang/invoke/VarHandle")
    (H : Con l Z EL y bytes maxL none rm (.ref a :: argsL).toArray h wsc Q) (hwc : ∀ x ∈ wsc, x ∈ ws ++ nw) (hsz : Ls.size = c.maxLocals) (hlen : ∀ sig, parseMethodDescriptor y.desc = some sig → argsL.length = sig.parameters.length) {stk : List Value} (hstk : stk = argsL.reverse ++ .ref a :: st) (hd : decode c.code pc = .ok (.invokespecial index, 3))
    (hf : rm.frames + 1 ≤ R.frames) (hl : (st.map fun v => v.category).sum + (maxL + 11) + rm.locals ≤ R.locals) (hc : cells + rm.cells ≤ R.cells) (hs : slots + rm.slots ≤ R.slots) (hp : pc + 3 = pc')
    (k : ∀ v T' h', Wk p l e R s m args below meth c Z EL own ws nw T' h' (cells + rm.cells) (slots + rm.slots) → Keep h h' wsc → Q v h' → Gets p.tables e below P T' (mkF m pc' Ls (v.toList ++ st))) : Gets p.tables e below P T (mkF m pc Ls stk) := by
  subst hp
  obtain ⟨locs, X, eT, r⟩ := W
  obtain ⟨hZ, hown, hF, hO, hK, n1, n2⟩ := id r
  obtain ⟨v, vm1, ⟨T', L', c', s'⟩, -, X', ⟨L, ⟨q1, q2, q3, q4⟩, l1, l2, l3⟩, stp⟩ := X.specialBack hx (y := y) hy1 hown (mv hZ w1) (mv hZ w2) (mv hZ w4) hy (backC (W := (st.map fun v => v.category).sum) H hZ w4 w3 hf hl) (g := mkF m pc Ls stk) rfl hsz (Steps.refl _) (a := a) (argsL := argsL) (rest := st) hlen hstk (by show 2 * 0 + _ ≤ _; omega) hd (fun _ _ => ⟨rfl, eT, hc, hs⟩)
  dsimp only [Pt.U, Pt.locs, Pt.cells, Pt.slots] at X' q1 q3 q4 l1 l2 l3 stp
  subst l1 l2 l3
  exact (k v T' _ (Wk.called (h' := T'.heap) hwc X' rfl q2 q3 q4 r) q3 q1).by fun t q => stp.trans q
theorem w_virtual (W : Wk p l e R s m args below meth c Z EL own ws nw T h cells slots) (hx : p.tables.exec = Jvm.exec) {index : Nat} {y z : MethodName} {C : String} {bytes : ByteArray} {maxL : Nat} {ret : Option FieldType} {rm : Room} {Q : Option Value → Heap → Prop} {wsc : List Addr} {a : Nat} (argsL : List Value)
    (w1 : (Cond.methodLink own index y).before a0 Z = true) (w2 : (Cond.declares y).before a0 Z = true) (hnf : ∀ {U : State}, Z.Warmed39 U.vm → NotFace U y) (w3 : (Cond.selects C y z).before a0 Z = true) (w5 : (Cond.instanceMethod z).before a0 Z = true) (w6 : (Cond.initialized z.cls).before a0 Z = true) (w4 : (Cond.code z bytes maxL ret).before a0 Z = true) (hy : y.cls ≠ "java/lang/invoke/MethodHandle" ∧ y.cls ≠ "java/lang/invoke/VarHandle")
    (H : Con l Z EL z bytes maxL ret rm (.ref a :: argsL).toArray h wsc Q) (E : Exa Z h a C) (hwc : ∀ x ∈ wsc, x ∈ ws ++ nw) (hsz : Ls.size = c.maxLocals) (hlen : ∀ sig, parseMethodDescriptor y.desc = some sig → argsL.length = sig.parameters.length) {stk : List Value} (hstk : stk = argsL.reverse ++ .ref a :: st) (hd : decode c.code pc = .ok (.invokevirtual index, 3))
    (hf : rm.frames + 1 ≤ R.frames) (hl : (st.map fun v => v.category).sum + (maxL + 11) + rm.locals ≤ R.locals) (hc : cells + rm.cells ≤ R.cells) (hs : slots + rm.slots ≤ R.slots) (hp : pc + 3 = pc')
    (k : ∀ v T' h', Wk p l e R s m args below meth c Z EL own ws nw T' h' (cells + rm.cells) (slots + rm.slots) → Keep h h' wsc → Q v h' → Gets p.tables e below P T' (mkF m pc' Ls (v.toList ++ st))) : Gets p.tables e below P T (mkF m pc Ls stk) := by
  subst hp
  obtain ⟨locs, X, eT, r⟩ := W
  obtain ⟨hZ, hown, hF, hO, hK, n1, n2⟩ := id r
  obtain ⟨cq, kq, qa, qb, qc⟩ := isOf hZ eT E
  obtain ⟨v, vm1, ⟨T', L', c', s'⟩, -, X', ⟨L, ⟨q1, q2, q3, q4⟩, l1, l2, l3⟩, stp⟩ := X.virtualBack hx (y := y) (z := z) hown (mv hZ w1) (mv hZ w2) (hnf (U := s) hZ) (mv hZ w3) (mv hZ w5) hy (backC (W := (st.map fun v => v.category).sum) H hZ w4 w6 hf hl) qa qc (g := mkF m pc Ls stk) rfl hsz (Steps.refl _) (argsL := argsL) (rest := st) hlen hstk (by show 2 * 0 + _ ≤ _; omega) hd (fun _ _ => ⟨rfl, eT, hc, hs⟩)
  dsimp only [Pt.U, Pt.locs, Pt.cells, Pt.slots] at X' q1 q3 q4 l1 l2 l3 stp
  subst l1 l2 l3
  exact (k v T' _ (Wk.called (h' := T'.heap) hwc X' rfl q2 q3 q4 r) q3 q1).by fun t q => stp.trans q
theorem w_virtualUp (W : Wk p l e R s m args below meth c Z EL own ws nw T h cells slots) (hx : p.tables.exec = Jvm.exec) {index : Nat} {y z : MethodName} {C owner : String} {bytes : ByteArray} {maxL : Nat} {ret : Option FieldType} {rm : Room} {Q : Option Value → Heap → Prop} {wsc : List Addr} {a : Nat} (argsL : List Value)
    (w1 : (Cond.methodLink own index y).before a0 Z = true) (w7 : (Cond.sameMethod y.cls owner y.name y.desc).before a0 Z = true) (w2 : (Cond.declares ⟨owner, y.name, y.desc⟩).before a0 Z = true) (w3 : (Cond.selects C y z).before a0 Z = true) (w5 : (Cond.instanceMethod z).before a0 Z = true) (w6 : (Cond.initialized z.cls).before a0 Z = true) (w4 : (Cond.code z bytes maxL ret).before a0 Z = true) (hy : owner ≠ "java/lang/invoke/MethodHandle" ∧ owner ≠ "java/lang/invoke/VarHandle")
    (H : Con l Z EL z bytes maxL ret rm (.ref a :: argsL).toArray h wsc Q) (E : Exa Z h a C) (hwc : ∀ x ∈ wsc, x ∈ ws ++ nw) (hsz : Ls.size = c.maxLocals) (hlen : ∀ sig, parseMethodDescriptor y.desc = some sig → argsL.length = sig.parameters.length) {stk : List Value} (hstk : stk = argsL.reverse ++ .ref a :: st) (hd : decode c.code pc = .ok (.invokevirtual index, 3))
    (hf : rm.frames + 1 ≤ R.frames) (hl : (st.map fun v => v.category).sum + (maxL + 11) + rm.locals ≤ R.locals) (hc : cells + rm.cells ≤ R.cells) (hs : slots + rm.slots ≤ R.slots) (hp : pc + 3 = pc')
    (k : ∀ v T' h', Wk p l e R s m args below meth c Z EL own ws nw T' h' (cells + rm.cells) (slots + rm.slots) → Keep h h' wsc → Q v h' → Gets p.tables e below P T' (mkF m pc' Ls (v.toList ++ st))) : Gets p.tables e below P T (mkF m pc Ls stk) := by
  subst hp
  obtain ⟨locs, X, eT, r⟩ := W
  obtain ⟨hZ, hown, hF, hO, hK, n1, n2⟩ := id r
  obtain ⟨cq, kq, qa, qb, qc⟩ := isOf hZ eT E
  obtain ⟨v, vm1, ⟨T', L', c', s'⟩, -, X', ⟨L, ⟨q1, q2, q3, q4⟩, l1, l2, l3⟩, stp⟩ := X.virtualBackUp hx (x := y) (y := z) hown (mv hZ w1) (mv hZ w7) (mv hZ w2) hy (mv hZ w3) (mv hZ w5) (backC (W := (st.map fun v => v.category).sum) H hZ w4 w6 hf hl) qa qc (g := mkF m pc Ls stk) rfl hsz (Steps.refl _) (argsL := argsL) (rest := st) hlen hstk (by show 2 * 0 + _ ≤ _; omega) hd (fun _ _ => ⟨rfl, eT, hc, hs⟩)
  dsimp only [Pt.U, Pt.locs, Pt.cells, Pt.slots] at X' q1 q3 q4 l1 l2 l3 stp
  subst l1 l2 l3
  exact (k v T' _ (Wk.called (h' := T'.heap) hwc X' rfl q2 q3 q4 r) q3 q1).by fun t q => stp.trans q
theorem nfS {y z : MethodName} {C : String} (w : (Cond.selects C y y).before a0 Z = true) {U : State} (hZ : Z.Warmed39 U.vm) : NotFace U y := notFace_of_selects (args := #[]) (mv hZ w)
theorem w_iface (W : Wk p l e R s m args below meth c Z EL own ws nw T h cells slots) (hx : p.tables.exec = Jvm.exec) {index count : Nat} {y z : MethodName} {C : String} {bytes : ByteArray} {maxL : Nat} {ret : Option FieldType} {rm : Room} {Q : Option Value → Heap → Prop} {wsc : List Addr} {a : Nat} (argsL : List Value)
    (w1 : (Cond.methodLink own index y).before a0 Z = true) (w2 : (Cond.declares y).before a0 Z = true) (w7 : (Cond.interfaceMethod y.cls y.cls y.name y.desc).before a0 Z = true) (w3 : (Cond.selects C y z).before a0 Z = true) (w5 : (Cond.instanceMethod z).before a0 Z = true) (w8 : (Cond.publicMethod z).before a0 Z = true) (w9 : (Cond.unhidden C y.name y.desc).before a0 Z = true) (w10 : (Cond.castable C y.cls).before a0 Z = true) (w6 : (Cond.initialized z.cls).before a0 Z = true) (w4 : (Cond.code z bytes maxL ret).before a0 Z = true) (hy : y.cls ≠ "java/lang/invoke/MethodHandle" ∧ y.cls ≠ "java/lang/invoke/VarHandle")
    (H : Con l Z EL z bytes maxL ret rm (.ref a :: argsL).toArray h wsc Q) (E : Exa Z h a C) (hwc : ∀ x ∈ wsc, x ∈ ws ++ nw) (hsz : Ls.size = c.maxLocals) (hlen : ∀ sig, parseMethodDescriptor y.desc = some sig → argsL.length = sig.parameters.length) {stk : List Value} (hstk : stk = argsL.reverse ++ .ref a :: st) (hd : decode c.code pc = .ok (.invokeinterface index count, 5))
    (hf : rm.frames + 1 ≤ R.frames) (hl : (st.map fun v => v.category).sum + (maxL + 11) + rm.locals ≤ R.locals) (hc : cells + rm.cells ≤ R.cells) (hs : slots + rm.slots ≤ R.slots) (hp : pc + 5 = pc')
    (k : ∀ v T' h', Wk p l e R s m args below meth c Z EL own ws nw T' h' (cells + rm.cells) (slots + rm.slots) → Keep h h' wsc → Q v h' → Gets p.tables e below P T' (mkF m pc' Ls (v.toList ++ st))) : Gets p.tables e below P T (mkF m pc Ls stk) := by
  subst hp
  obtain ⟨locs, X, eT, r⟩ := W
  obtain ⟨hZ, hown, hF, hO, hK, n1, n2⟩ := id r
  obtain ⟨cq, kq, qa, qb, qc⟩ := isOf hZ eT E
  obtain ⟨v, vm1, ⟨T', L', c', s'⟩, -, X', ⟨L, ⟨q1, q2, q3, q4⟩, l1, l2, l3⟩, stp⟩ := X.interfaceBack hx (xi := y) (y := z) hown (mv hZ w1) (mv hZ w2) (mv hZ w7 (by simp [Cond.onTables, Cond.keepsFace, Cond.keeps, Cond.steady, Cond.faceAtom, hy.1, hy.2])) (mv hZ w3) (mv hZ w5) (mv hZ w8) (mv hZ w9) (mv hZ w10) hy (backC (W := (st.map fun v => v.category).sum) H hZ w4 w6 hf hl) qa qb qc (g := mkF m pc Ls stk) rfl hsz (Steps.refl _) (argsL := argsL) (rest := st) hlen hstk (by show 2 * 0 + _ ≤ _; omega) hd (fun _ _ => ⟨rfl, eT, hc, hs⟩)
  dsimp only [Pt.U, Pt.locs, Pt.cells, Pt.slots] at X' q1 q3 q4 l1 l2 l3 stp
  subst l1 l2 l3
  exact (k v T' _ (Wk.called (h' := T'.heap) hwc X' rfl q2 q3 q4 r) q3 q1).by fun t q => stp.trans q
end OwnWalk
section OwnPure
variable {p : Program} {l : Launch} {e : Env} {R : Room} {s : State} {m : MethodId} {args : Array Value} {below : List Frame} {meth : Method} {c : Code} {T : State} {Z : State} {a0 : Array Value} {h : Heap} {EL : List (String × Nat)} {own : String} {cells slots : Nat} {ws nw : List Addr} {P : Outcome → State → Prop} {pc pc' : Nat} {Ls : Array Slot} {st : List Value}
/-- it returns r and leaves the heap as it was -/
def pureQ (r : Option Value) (h : Heap) : Option Value → Heap → Prop := fun v h' => v = r ∧ h' = h
theorem w_callSp (W : Wk p l e R s m args below meth c Z EL own ws nw T h cells slots) (hx : p.tables.exec = Jvm.exec) {index : Nat} {y : MethodName} {bytes : ByteArray} {maxL : Nat} {ret : Option FieldType} {rm : Room} {r : Option Value} (argsL : List Value)
    (w1 : (Cond.methodLink own index y).before a0 Z = true) (w2 : (Cond.static y).before a0 Z = true) (w3 : (Cond.initialized y.cls).before a0 Z = true) (w4 : (Cond.code y bytes maxL ret).before a0 Z = true) (hy : y.cls ≠ "java/lang/invoke/MethodHandle" ∧ y.cls ≠ "java/lang/invoke/VarHandle")
    (H : Con l Z EL y bytes maxL ret rm argsL.toArray h [] (pureQ r h)) (hsz : Ls.size = c.maxLocals) (hlen : ∀ sig, parseMethodDescriptor y.desc = some sig → argsL.length = sig.parameters.length) {stk : List Value} (hstk : stk = argsL.reverse ++ st) (hd : decode c.code pc = .ok (.invokestatic index, 3))
    (hf : rm.frames + 1 ≤ R.frames) (hl : (st.map fun v => v.category).sum + (maxL + 11) + rm.locals ≤ R.locals) (hc : rm.cells = 0) (hs : rm.slots = 0) (hc' : cells ≤ R.cells) (hs' : slots ≤ R.slots) (hp : pc + 3 = pc')
    (k : ∀ T', Wk p l e R s m args below meth c Z EL own ws nw T' h cells slots → Gets p.tables e below P T' (mkF m pc' Ls (r.toList ++ st))) : Gets p.tables e below P T (mkF m pc Ls stk) :=
  w_callS W hx argsL w1 w2 w3 w4 hy H all0 hsz hlen hstk hd hf hl (by rw [hc]; exact hc') (by rw [hs]; exact hs') hp fun v T' h' W' K q => by
    obtain ⟨e1, e2⟩ := q
    subst e1; rw [e2] at W'; rw [hc, hs] at W'; exact k T' W'
theorem w_virtualp (W : Wk p l e R s m args below meth c Z EL own ws nw T h cells slots) (hx : p.tables.exec = Jvm.exec) {index : Nat} {y z : MethodName} {C : String} {bytes : ByteArray} {maxL : Nat} {ret : Option FieldType} {rm : Room} {r : Option Value} {a : Nat} (argsL : List Value)
    (w1 : (Cond.methodLink own index y).before a0 Z = true) (w2 : (Cond.declares y).before a0 Z = true) (hnf : ∀ {U : State}, Z.Warmed39 U.vm → NotFace U y) (w3 : (Cond.selects C y z).before a0 Z = true) (w5 : (Cond.instanceMethod z).before a0 Z = true) (w6 : (Cond.initialized z.cls).before a0 Z = true) (w4 : (Cond.code z bytes maxL ret).before a0 Z = true) (hy : y.cls ≠ "java/lang/invoke/MethodHandle" ∧ y.cls ≠ "java/lang/invoke/VarHandle")
    (H : Con l Z EL z bytes maxL ret rm (.ref a :: argsL).toArray h [] (pureQ r h)) (E : Exa Z h a C) (hsz : Ls.size = c.maxLocals) (hlen : ∀ sig, parseMethodDescriptor y.desc = some sig → argsL.length = sig.parameters.length) {stk : List Value} (hstk : stk = argsL.reverse ++ .ref a :: st) (hd : decode c.code pc = .ok (.invokevirtual index, 3))
    (hf : rm.frames + 1 ≤ R.frames) (hl : (st.map fun v => v.category).sum + (maxL + 11) + rm.locals ≤ R.locals) (hc : rm.cells = 0) (hs : rm.slots = 0) (hc' : cells ≤ R.cells) (hs' : slots ≤ R.slots) (hp : pc + 3 = pc')
    (k : ∀ T', Wk p l e R s m args below meth c Z EL own ws nw T' h cells slots → Gets p.tables e below P T' (mkF m pc' Ls (r.toList ++ st))) : Gets p.tables e below P T (mkF m pc Ls stk) :=
  w_virtual W hx argsL w1 w2 hnf w3 w5 w6 w4 hy H E all0 hsz hlen hstk hd hf hl (by rw [hc]; exact hc') (by rw [hs]; exact hs') hp fun v T' h' W' K q => by
    obtain ⟨e1, e2⟩ := q
    subst e1; rw [e2] at W'; rw [hc, hs] at W'; exact k T' W'
theorem w_virtualUpp (W : Wk p l e R s m args below meth c Z EL own ws nw T h cells slots) (hx : p.tables.exec = Jvm.exec) {index : Nat} {y z : MethodName} {C owner : String} {bytes : ByteArray} {maxL : Nat} {ret : Option FieldType} {rm : Room} {r : Option Value} {a : Nat} (argsL : List Value)
    (w1 : (Cond.methodLink own index y).before a0 Z = true) (w7 : (Cond.sameMethod y.cls owner y.name y.desc).before a0 Z = true) (w2 : (Cond.declares ⟨owner, y.name, y.desc⟩).before a0 Z = true) (w3 : (Cond.selects C y z).before a0 Z = true) (w5 : (Cond.instanceMethod z).before a0 Z = true) (w6 : (Cond.initialized z.cls).before a0 Z = true) (w4 : (Cond.code z bytes maxL ret).before a0 Z = true) (hy : owner ≠ "java/lang/invoke/MethodHandle" ∧ owner ≠ "java/lang/invoke/VarHandle")
    (H : Con l Z EL z bytes maxL ret rm (.ref a :: argsL).toArray h [] (pureQ r h)) (E : Exa Z h a C) (hsz : Ls.size = c.maxLocals) (hlen : ∀ sig, parseMethodDescriptor y.desc = some sig → argsL.length = sig.parameters.length) {stk : List Value} (hstk : stk = argsL.reverse ++ .ref a :: st) (hd : decode c.code pc = .ok (.invokevirtual index, 3))
    (hf : rm.frames + 1 ≤ R.frames) (hl : (st.map fun v => v.category).sum + (maxL + 11) + rm.locals ≤ R.locals) (hc : rm.cells = 0) (hs : rm.slots = 0) (hc' : cells ≤ R.cells) (hs' : slots ≤ R.slots) (hp : pc + 3 = pc')
    (k : ∀ T', Wk p l e R s m args below meth c Z EL own ws nw T' h cells slots → Gets p.tables e below P T' (mkF m pc' Ls (r.toList ++ st))) : Gets p.tables e below P T (mkF m pc Ls stk) :=
  w_virtualUp W hx argsL w1 w7 w2 w3 w5 w6 w4 hy H E all0 hsz hlen hstk hd hf hl (by rw [hc]; exact hc') (by rw [hs]; exact hs') hp fun v T' h' W' K q => by
    obtain ⟨e1, e2⟩ := q
    subst e1; rw [e2] at W'; rw [hc, hs] at W'; exact k T' W'
theorem w_ifacep (W : Wk p l e R s m args below meth c Z EL own ws nw T h cells slots) (hx : p.tables.exec = Jvm.exec) {index count : Nat} {y z : MethodName} {C : String} {bytes : ByteArray} {maxL : Nat} {ret : Option FieldType} {rm : Room} {r : Option Value} {a : Nat} (argsL : List Value)
    (w1 : (Cond.methodLink own index y).before a0 Z = true) (w2 : (Cond.declares y).before a0 Z = true) (w7 : (Cond.interfaceMethod y.cls y.cls y.name y.desc).before a0 Z = true) (w3 : (Cond.selects C y z).before a0 Z = true) (w5 : (Cond.instanceMethod z).before a0 Z = true) (w8 : (Cond.publicMethod z).before a0 Z = true) (w9 : (Cond.unhidden C y.name y.desc).before a0 Z = true) (w10 : (Cond.castable C y.cls).before a0 Z = true) (w6 : (Cond.initialized z.cls).before a0 Z = true) (w4 : (Cond.code z bytes maxL ret).before a0 Z = true) (hy : y.cls ≠ "java/lang/invoke/MethodHandle" ∧ y.cls ≠ "java/lang/invoke/VarHandle")
    (H : Con l Z EL z bytes maxL ret rm (.ref a :: argsL).toArray h [] (pureQ r h)) (E : Exa Z h a C) (hsz : Ls.size = c.maxLocals) (hlen : ∀ sig, parseMethodDescriptor y.desc = some sig → argsL.length = sig.parameters.length) {stk : List Value} (hstk : stk = argsL.reverse ++ .ref a :: st) (hd : decode c.code pc = .ok (.invokeinterface index count, 5))
    (hf : rm.frames + 1 ≤ R.frames) (hl : (st.map fun v => v.category).sum + (maxL + 11) + rm.locals ≤ R.locals) (hc : rm.cells = 0) (hs : rm.slots = 0) (hc' : cells ≤ R.cells) (hs' : slots ≤ R.slots) (hp : pc + 5 = pc')
    (k : ∀ T', Wk p l e R s m args below meth c Z EL own ws nw T' h cells slots → Gets p.tables e below P T' (mkF m pc' Ls (r.toList ++ st))) : Gets p.tables e below P T (mkF m pc Ls stk) :=
  w_iface W hx argsL w1 w2 w7 w3 w5 w8 w9 w10 w6 w4 hy H E all0 hsz hlen hstk hd hf hl (by rw [hc]; exact hc') (by rw [hs]; exact hs') hp fun v T' h' W' K q => by
    obtain ⟨e1, e2⟩ := q
    subst e1; rw [e2] at W'; rw [hc, hs] at W'; exact k T' W'
theorem g_name {tb : Tables} {v w : Value} (q : w = v) (k : Gets tb e below P T (mkF m pc Ls (w :: st))) : Gets tb e below P T (mkF m pc Ls (v :: st)) := q ▸ k
end OwnPure
theorem w_0 : tables_1[0]? = some (Jvm.Cond.methodLink "com/example/grapple/grapple/internal/LimitsCheckKeyPrefixPinLaw" (7 : Nat) ({ cls := "com/example/grapple/grapple/internal/LimitsCheckKeyPrefixPinLaw", name := "allowed", desc := "(I)C" } : Jvm.MethodName)) := rfl
theorem w_1 : tables_1[1]? = some (Jvm.Cond.static ({ cls := "com/example/grapple/grapple/internal/LimitsCheckKeyPrefixPinLaw", name := "allowed", desc := "(I)C" } : Jvm.MethodName)) := rfl
theorem w_2 : tables_1[2]? = some (Jvm.Cond.initialized "com/example/grapple/grapple/internal/LimitsCheckKeyPrefixPinLaw") := rfl
theorem w_3 : tables_1[3]? = some (Jvm.Cond.code ({ cls := "com/example/grapple/grapple/internal/LimitsCheckKeyPrefixPinLaw", name := "allowed", desc := "(I)C" } : Jvm.MethodName) method_3_code (2 : Nat) (Option.some Jvm.ClassFile.FieldType.char)) := rfl
theorem w_4 : tables_1[4]? = some (Jvm.Cond.constant "com/example/grapple/grapple/internal/LimitsCheckKeyPrefixPinLaw" (32 : Nat) (2147483647 : Int32)) := rfl
theorem w_5 : tables_1[5]? = some (Jvm.Cond.arrayClass Jvm.ClassFile.FieldType.char) := rfl
theorem w_6 : tables_1[6]? = some (Jvm.Cond.classLink "com/example/grapple/grapple/internal/LimitsCheckKeyPrefixPinLaw" (17 : Nat) "java/lang/String") := rfl
theorem w_7 : tables_1[7]? = some (Jvm.Cond.instantiable "java/lang/String" (4 : Nat)) := rfl
theorem w_8 : tables_1[8]? = some (Jvm.Cond.initialized "java/lang/String") := rfl
theorem w_9 : tables_1[9]? = some (Jvm.Cond.methodLink "com/example/grapple/grapple/internal/LimitsCheckKeyPrefixPinLaw" (19 : Nat) ({ cls := "java/lang/String", name := "<init>", desc := "([C)V" } : Jvm.MethodName)) := rfl
theorem w_10 : tables_1[10]? = some (Jvm.Cond.instanceMethod ({ cls := "java/lang/String", name := "<init>", desc := "([C)V" } : Jvm.MethodName)) := rfl
theorem w_11 : tables_1[11]? = some (Jvm.Cond.code ({ cls := "java/lang/String", name := "<init>", desc := "([C)V" } : Jvm.MethodName) jdk_42_method_3_code (2 : Nat) (Option.none : Option Jvm.ClassFile.FieldType)) := rfl
theorem w_12 : tables_1[12]? = some (Jvm.Cond.methodLink "java/lang/String" (27 : Nat) ({ cls := "java/lang/String", name := "<init>", desc := "([CIILjava/lang/Void;)V" } : Jvm.MethodName)) := rfl
theorem w_13 : tables_1[13]? = some (Jvm.Cond.instanceMethod ({ cls := "java/lang/String", name := "<init>", desc := "([CIILjava/lang/Void;)V" } : Jvm.MethodName)) := rfl
theorem w_15 : tables_1[15]? = some (Jvm.Cond.code ({ cls := "java/lang/String", name := "<init>", desc := "([CIILjava/lang/Void;)V" } : Jvm.MethodName) jdk_42_method_149_code (6 : Nat) (Option.none : Option Jvm.ClassFile.FieldType)) := rfl
theorem w_16 : tables_1[16]? = some (Jvm.Cond.methodLink "java/lang/String" (1 : Nat) ({ cls := "java/lang/Object", name := "<init>", desc := "()V" } : Jvm.MethodName)) := rfl
theorem w_17 : tables_1[17]? = some (Jvm.Cond.instanceMethod ({ cls := "java/lang/Object", name := "<init>", desc := "()V" } : Jvm.MethodName)) := rfl
theorem w_18 : tables_1[18]? = some (Jvm.Cond.code ({ cls := "java/lang/Object", name := "<init>", desc := "()V" } : Jvm.MethodName) object_method_1_code (1 : Nat) (Option.none : Option Jvm.ClassFile.FieldType)) := rfl
theorem w_19 : tables_1[19]? = some (Jvm.Cond.fieldLink "java/lang/String" (38 : Nat) "java/lang/String" "COMPACT_STRINGS" "Z") := rfl
theorem w_20 : tables_1[20]? = some (Jvm.Cond.methodLink "java/lang/String" (177 : Nat) ({ cls := "java/lang/StringUTF16", name := "compress", desc := "([CII)[B" } : Jvm.MethodName)) := rfl
theorem w_21 : tables_1[21]? = some (Jvm.Cond.static ({ cls := "java/lang/StringUTF16", name := "compress", desc := "([CII)[B" } : Jvm.MethodName)) := rfl
theorem w_22 : tables_1[22]? = some (Jvm.Cond.initialized "java/lang/StringUTF16") := rfl
theorem w_23 : tables_1[23]? = some (Jvm.Cond.code ({ cls := "java/lang/StringUTF16", name := "compress", desc := "([CII)[B" } : Jvm.MethodName) jdk_52_method_16_code (6 : Nat) (Option.some (Jvm.ClassFile.FieldType.array Jvm.ClassFile.FieldType.byte))) := rfl
theorem w_24 : tables_1[24]? = some (Jvm.Cond.arrayClass Jvm.ClassFile.FieldType.byte) := rfl
theorem w_25 : tables_1[25]? = some (Jvm.Cond.methodLink "java/lang/StringUTF16" (115 : Nat) ({ cls := "java/lang/StringUTF16", name := "compress", desc := "([CI[BII)I" } : Jvm.MethodName)) := rfl
theorem w_26 : tables_1[26]? = some (Jvm.Cond.static ({ cls := "java/lang/StringUTF16", name := "compress", desc := "([CI[BII)I" } : Jvm.MethodName)) := rfl
theorem w_27 : tables_1[27]? = some (Jvm.Cond.code ({ cls := "java/lang/StringUTF16", name := "compress", desc := "([CI[BII)I" } : Jvm.MethodName) jdk_52_method_21_code (7 : Nat) (Option.some Jvm.ClassFile.FieldType.int)) := rfl
theorem w_28 : tables_1[28]? = some (Jvm.Cond.methodLink "java/lang/String" (47 : Nat) ({ cls := "java/lang/StringUTF16", name := "coderFromArrayLen", desc := "([BI)B" } : Jvm.MethodName)) := rfl
theorem w_29 : tables_1[29]? = some (Jvm.Cond.static ({ cls := "java/lang/StringUTF16", name := "coderFromArrayLen", desc := "([BI)B" } : Jvm.MethodName)) := rfl
theorem w_30 : tables_1[30]? = some (Jvm.Cond.code ({ cls := "java/lang/StringUTF16", name := "coderFromArrayLen", desc := "([BI)B" } : Jvm.MethodName) jdk_52_method_15_code (2 : Nat) (Option.some Jvm.ClassFile.FieldType.byte)) := rfl
theorem w_31 : tables_1[31]? = some (Jvm.Cond.fieldLink "java/lang/String" (15 : Nat) "java/lang/String" "coder" "B") := rfl
theorem w_32 : tables_1[32]? = some (Jvm.Cond.laysFinal "java/lang/String" "java/lang/String" "coder" "B") := rfl
theorem w_33 : tables_1[33]? = some (Jvm.Cond.fieldLink "java/lang/String" (9 : Nat) "java/lang/String" "value" "[B") := rfl
theorem w_34 : tables_1[34]? = some (Jvm.Cond.laysFinal "java/lang/String" "java/lang/String" "value" "[B") := rfl
theorem w_35 : tables_1[35]? = some (Jvm.Cond.methodLink "com/example/grapple/grapple/internal/LimitsCheckKeyPrefixPinLaw" (22 : Nat) ({ cls := "com/example/grapple/grapple/internal/Limits", name := "checkKeyPrefix", desc := "(Ljava/lang/String;)Ljava/lang/String;" } : Jvm.MethodName)) := rfl
theorem w_36 : tables_1[36]? = some (Jvm.Cond.static ({ cls := "com/example/grapple/grapple/internal/Limits", name := "checkKeyPrefix", desc := "(Ljava/lang/String;)Ljava/lang/String;" } : Jvm.MethodName)) := rfl
theorem w_37 : tables_1[37]? = some (Jvm.Cond.initialized "com/example/grapple/grapple/internal/Limits") := rfl
theorem w_38 : tables_1[38]? = some (Jvm.Cond.code ({ cls := "com/example/grapple/grapple/internal/Limits", name := "checkKeyPrefix", desc := "(Ljava/lang/String;)Ljava/lang/String;" } : Jvm.MethodName) prog_3_method_4_code (3 : Nat) (Option.some (Jvm.ClassFile.FieldType.object "java/lang/String"))) := rfl
theorem w_39 : tables_1[39]? = some (Jvm.Cond.methodLink "com/example/grapple/grapple/internal/Limits" (26 : Nat) ({ cls := "java/lang/String", name := "length", desc := "()I" } : Jvm.MethodName)) := rfl
theorem w_40 : tables_1[40]? = some (Jvm.Cond.declares ({ cls := "java/lang/String", name := "length", desc := "()I" } : Jvm.MethodName)) := rfl
theorem w_41 : tables_1[41]? = some (Jvm.Cond.instanceMethod ({ cls := "java/lang/String", name := "length", desc := "()I" } : Jvm.MethodName)) := rfl
theorem w_42 : tables_1[42]? = some (Jvm.Cond.selects "java/lang/String" ({ cls := "java/lang/String", name := "length", desc := "()I" } : Jvm.MethodName) ({ cls := "java/lang/String", name := "length", desc := "()I" } : Jvm.MethodName)) := rfl
theorem w_43 : tables_1[43]? = some (Jvm.Cond.code ({ cls := "java/lang/String", name := "length", desc := "()I" } : Jvm.MethodName) jdk_42_method_54_code (1 : Nat) (Option.some Jvm.ClassFile.FieldType.int)) := rfl
theorem w_44 : tables_1[44]? = some (Jvm.Cond.methodLink "java/lang/String" (335 : Nat) ({ cls := "java/lang/String", name := "coder", desc := "()B" } : Jvm.MethodName)) := rfl
theorem w_45 : tables_1[45]? = some (Jvm.Cond.declares ({ cls := "java/lang/String", name := "coder", desc := "()B" } : Jvm.MethodName)) := rfl
theorem w_46 : tables_1[46]? = some (Jvm.Cond.instanceMethod ({ cls := "java/lang/String", name := "coder", desc := "()B" } : Jvm.MethodName)) := rfl
theorem w_47 : tables_1[47]? = some (Jvm.Cond.selects "java/lang/String" ({ cls := "java/lang/String", name := "coder", desc := "()B" } : Jvm.MethodName) ({ cls := "java/lang/String", name := "coder", desc := "()B" } : Jvm.MethodName)) := rfl
theorem w_48 : tables_1[48]? = some (Jvm.Cond.code ({ cls := "java/lang/String", name := "coder", desc := "()B" } : Jvm.MethodName) jdk_42_method_152_code (1 : Nat) (Option.some Jvm.ClassFile.FieldType.byte)) := rfl
theorem w_49 : tables_1[49]? = some (Jvm.Cond.methodLink "com/example/grapple/grapple/internal/Limits" (63 : Nat) ({ cls := "java/lang/String", name := "charAt", desc := "(I)C" } : Jvm.MethodName)) := rfl
theorem w_50 : tables_1[50]? = some (Jvm.Cond.declares ({ cls := "java/lang/String", name := "charAt", desc := "(I)C" } : Jvm.MethodName)) := rfl
theorem w_51 : tables_1[51]? = some (Jvm.Cond.instanceMethod ({ cls := "java/lang/String", name := "charAt", desc := "(I)C" } : Jvm.MethodName)) := rfl
theorem w_52 : tables_1[52]? = some (Jvm.Cond.selects "java/lang/String" ({ cls := "java/lang/String", name := "charAt", desc := "(I)C" } : Jvm.MethodName) ({ cls := "java/lang/String", name := "charAt", desc := "(I)C" } : Jvm.MethodName)) := rfl
theorem w_53 : tables_1[53]? = some (Jvm.Cond.code ({ cls := "java/lang/String", name := "charAt", desc := "(I)C" } : Jvm.MethodName) jdk_42_method_56_code (2 : Nat) (Option.some Jvm.ClassFile.FieldType.char)) := rfl
theorem w_54 : tables_1[54]? = some (Jvm.Cond.methodLink "java/lang/String" (492 : Nat) ({ cls := "java/lang/String", name := "isLatin1", desc := "()Z" } : Jvm.MethodName)) := rfl
theorem w_55 : tables_1[55]? = some (Jvm.Cond.declares ({ cls := "java/lang/String", name := "isLatin1", desc := "()Z" } : Jvm.MethodName)) := rfl
theorem w_56 : tables_1[56]? = some (Jvm.Cond.instanceMethod ({ cls := "java/lang/String", name := "isLatin1", desc := "()Z" } : Jvm.MethodName)) := rfl
theorem w_57 : tables_1[57]? = some (Jvm.Cond.selects "java/lang/String" ({ cls := "java/lang/String", name := "isLatin1", desc := "()Z" } : Jvm.MethodName) ({ cls := "java/lang/String", name := "isLatin1", desc := "()Z" } : Jvm.MethodName)) := rfl
theorem w_58 : tables_1[58]? = some (Jvm.Cond.code ({ cls := "java/lang/String", name := "isLatin1", desc := "()Z" } : Jvm.MethodName) jdk_42_method_154_code (1 : Nat) (Option.some Jvm.ClassFile.FieldType.boolean)) := rfl
theorem w_59 : tables_1[59]? = some (Jvm.Cond.methodLink "java/lang/String" (495 : Nat) ({ cls := "java/lang/StringLatin1", name := "charAt", desc := "([BI)C" } : Jvm.MethodName)) := rfl
theorem w_60 : tables_1[60]? = some (Jvm.Cond.static ({ cls := "java/lang/StringLatin1", name := "charAt", desc := "([BI)C" } : Jvm.MethodName)) := rfl
theorem w_61 : tables_1[61]? = some (Jvm.Cond.initialized "java/lang/StringLatin1") := rfl
theorem w_62 : tables_1[62]? = some (Jvm.Cond.code ({ cls := "java/lang/StringLatin1", name := "charAt", desc := "([BI)C" } : Jvm.MethodName) jdk_43_method_2_code (2 : Nat) (Option.some Jvm.ClassFile.FieldType.char)) := rfl
theorem w_63 : tables_1[63]? = some (Jvm.Cond.methodLink "java/lang/StringLatin1" (9 : Nat) ({ cls := "java/lang/String", name := "checkIndex", desc := "(II)V" } : Jvm.MethodName)) := rfl
theorem w_64 : tables_1[64]? = some (Jvm.Cond.static ({ cls := "java/lang/String", name := "checkIndex", desc := "(II)V" } : Jvm.MethodName)) := rfl
theorem w_65 : tables_1[65]? = some (Jvm.Cond.code ({ cls := "java/lang/String", name := "checkIndex", desc := "(II)V" } : Jvm.MethodName) jdk_42_method_155_code (2 : Nat) (Option.none : Option Jvm.ClassFile.FieldType)) := rfl
theorem w_66 : tables_1[66]? = some (Jvm.Cond.fieldLink "java/lang/String" (1053 : Nat) "jdk/internal/util/Preconditions" "SIOOBE_FORMATTER" "Ljava/util/function/BiFunction;") := rfl
theorem w_67 : tables_1[67]? = some (Jvm.Cond.initialized "jdk/internal/util/Preconditions") := rfl
theorem w_68 : tables_1[68]? = some (Jvm.Cond.methodLink "java/lang/String" (1059 : Nat) ({ cls := "jdk/internal/util/Preconditions", name := "checkIndex", desc := "(IILjava/util/function/BiFunction;)I" } : Jvm.MethodName)) := rfl
theorem w_69 : tables_1[69]? = some (Jvm.Cond.static ({ cls := "jdk/internal/util/Preconditions", name := "checkIndex", desc := "(IILjava/util/function/BiFunction;)I" } : Jvm.MethodName)) := rfl
theorem w_70 : tables_1[70]? = some (Jvm.Cond.code ({ cls := "jdk/internal/util/Preconditions", name := "checkIndex", desc := "(IILjava/util/function/BiFunction;)I" } : Jvm.MethodName) jdk_41_method_11_code (3 : Nat) (Option.some Jvm.ClassFile.FieldType.int)) := rfl
theorem w_71 : tables_1[71]? = some (Jvm.Cond.methodLink "com/example/grapple/grapple/internal/Limits" (67 : Nat) ({ cls := "com/example/grapple/grapple/internal/Limits", name := "isKeyPrefixCharacter", desc := "(C)Z" } : Jvm.MethodName)) := rfl
theorem w_72 : tables_1[72]? = some (Jvm.Cond.static ({ cls := "com/example/grapple/grapple/internal/Limits", name := "isKeyPrefixCharacter", desc := "(C)Z" } : Jvm.MethodName)) := rfl
theorem w_73 : tables_1[73]? = some (Jvm.Cond.code ({ cls := "com/example/grapple/grapple/internal/Limits", name := "isKeyPrefixCharacter", desc := "(C)Z" } : Jvm.MethodName) prog_3_method_7_code (1 : Nat) (Option.some Jvm.ClassFile.FieldType.boolean)) := rfl
theorem w_74 : tables_1[74]? = some (Jvm.Cond.methodLink "com/example/grapple/grapple/internal/Limits" (72 : Nat) ({ cls := "java/lang/String", name := "isEmpty", desc := "()Z" } : Jvm.MethodName)) := rfl
theorem w_75 : tables_1[75]? = some (Jvm.Cond.declares ({ cls := "java/lang/String", name := "isEmpty", desc := "()Z" } : Jvm.MethodName)) := rfl
theorem w_76 : tables_1[76]? = some (Jvm.Cond.instanceMethod ({ cls := "java/lang/String", name := "isEmpty", desc := "()Z" } : Jvm.MethodName)) := rfl
theorem w_77 : tables_1[77]? = some (Jvm.Cond.selects "java/lang/String" ({ cls := "java/lang/String", name := "isEmpty", desc := "()Z" } : Jvm.MethodName) ({ cls := "java/lang/String", name := "isEmpty", desc := "()Z" } : Jvm.MethodName)) := rfl
theorem w_78 : tables_1[78]? = some (Jvm.Cond.code ({ cls := "java/lang/String", name := "isEmpty", desc := "()Z" } : Jvm.MethodName) jdk_42_method_55_code (1 : Nat) (Option.some Jvm.ClassFile.FieldType.boolean)) := rfl
theorem w_79 : tables_1[79]? = some (Jvm.Cond.methodLink "com/example/grapple/grapple/internal/LimitsCheckKeyPrefixPinLaw" (28 : Nat) ({ cls := "java/lang/String", name := "length", desc := "()I" } : Jvm.MethodName)) := rfl
theorem w_80 : tables_1[80]? = some (Jvm.Cond.methodLink "com/example/grapple/grapple/internal/LimitsCheckKeyPrefixPinLaw" (13 : Nat) ({ cls := "com/example/grapple/grapple/internal/LimitsCheckKeyPrefixPinLaw", name := "fifty", desc := "(CCCC)[C" } : Jvm.MethodName)) := rfl
theorem w_81 : tables_1[81]? = some (Jvm.Cond.static ({ cls := "com/example/grapple/grapple/internal/LimitsCheckKeyPrefixPinLaw", name := "fifty", desc := "(CCCC)[C" } : Jvm.MethodName)) := rfl
theorem w_82 : tables_1[82]? = some (Jvm.Cond.code ({ cls := "com/example/grapple/grapple/internal/LimitsCheckKeyPrefixPinLaw", name := "fifty", desc := "(CCCC)[C" } : Jvm.MethodName) method_4_code (4 : Nat) (Option.some (Jvm.ClassFile.FieldType.array Jvm.ClassFile.FieldType.char))) := rfl
theorem d_jdk_41_11_0 : decode jdk_41_method_11_code 0 = .ok (.iload_n 0, 1) := by decide +kernel
theorem d_jdk_41_11_1 : decode jdk_41_method_11_code 1 = .ok (.ifCond .lt 8, 3) := by decide +kernel
theorem d_jdk_41_11_4 : decode jdk_41_method_11_code 4 = .ok (.iload_n 0, 1) := by decide +kernel
theorem d_jdk_41_11_5 : decode jdk_41_method_11_code 5 = .ok (.iload_n 1, 1) := by decide +kernel
theorem d_jdk_41_11_6 : decode jdk_41_method_11_code 6 = .ok (.if_icmp .lt 10, 3) := by decide +kernel
theorem d_jdk_41_11_16 : decode jdk_41_method_11_code 16 = .ok (.iload_n 0, 1) := by decide +kernel
theorem d_jdk_41_11_17 : decode jdk_41_method_11_code 17 = .ok (.ireturn, 1) := by decide +kernel
theorem d_jdk_42_149_0 : decode jdk_42_method_149_code 0 = .ok (.aload_n 0, 1) := by decide +kernel
theorem d_jdk_42_149_1 : decode jdk_42_method_149_code 1 = .ok (.invokespecial 1, 3) := by decide +kernel
theorem d_jdk_42_149_4 : decode jdk_42_method_149_code 4 = .ok (.iload_n 3, 1) := by decide +kernel
theorem d_jdk_42_149_5 : decode jdk_42_method_149_code 5 = .ok (.ifCond .ne 22, 3) := by decide +kernel
theorem d_jdk_42_149_27 : decode jdk_42_method_149_code 27 = .ok (.getstatic 38, 3) := by decide +kernel
theorem d_jdk_42_149_30 : decode jdk_42_method_149_code 30 = .ok (.ifCond .eq 28, 3) := by decide +kernel
theorem d_jdk_42_149_33 : decode jdk_42_method_149_code 33 = .ok (.aload_n 1, 1) := by decide +kernel
theorem d_jdk_42_149_34 : decode jdk_42_method_149_code 34 = .ok (.iload_n 2, 1) := by decide +kernel
theorem d_jdk_42_149_35 : decode jdk_42_method_149_code 35 = .ok (.iload_n 3, 1) := by decide +kernel
theorem d_jdk_42_149_36 : decode jdk_42_method_149_code 36 = .ok (.invokestatic 177, 3) := by decide +kernel
theorem d_jdk_42_149_39 : decode jdk_42_method_149_code 39 = .ok (.astore 5, 2) := by decide +kernel
theorem d_jdk_42_149_41 : decode jdk_42_method_149_code 41 = .ok (.aload_n 0, 1) := by decide +kernel
theorem d_jdk_42_149_42 : decode jdk_42_method_149_code 42 = .ok (.aload 5, 2) := by decide +kernel
theorem d_jdk_42_149_44 : decode jdk_42_method_149_code 44 = .ok (.iload_n 3, 1) := by decide +kernel
theorem d_jdk_42_149_45 : decode jdk_42_method_149_code 45 = .ok (.invokestatic 47, 3) := by decide +kernel
theorem d_jdk_42_149_48 : decode jdk_42_method_149_code 48 = .ok (.putfield 15, 3) := by decide +kernel
theorem d_jdk_42_149_51 : decode jdk_42_method_149_code 51 = .ok (.aload_n 0, 1) := by decide +kernel
theorem d_jdk_42_149_52 : decode jdk_42_method_149_code 52 = .ok (.aload 5, 2) := by decide +kernel
theorem d_jdk_42_149_54 : decode jdk_42_method_149_code 54 = .ok (.putfield 9, 3) := by decide +kernel
theorem d_jdk_42_149_57 : decode jdk_42_method_149_code 57 = .ok (.return_, 1) := by decide +kernel
theorem d_jdk_42_152_0 : decode jdk_42_method_152_code 0 = .ok (.getstatic 38, 3) := by decide +kernel
theorem d_jdk_42_152_3 : decode jdk_42_method_152_code 3 = .ok (.ifCond .eq 10, 3) := by decide +kernel
theorem d_jdk_42_152_6 : decode jdk_42_method_152_code 6 = .ok (.aload_n 0, 1) := by decide +kernel
theorem d_jdk_42_152_7 : decode jdk_42_method_152_code 7 = .ok (.getfield 15, 3) := by decide +kernel
theorem d_jdk_42_152_10 : decode jdk_42_method_152_code 10 = .ok (.goto 4, 3) := by decide +kernel
theorem d_jdk_42_152_14 : decode jdk_42_method_152_code 14 = .ok (.ireturn, 1) := by decide +kernel
theorem d_jdk_42_154_0 : decode jdk_42_method_154_code 0 = .ok (.getstatic 38, 3) := by decide +kernel
theorem d_jdk_42_154_3 : decode jdk_42_method_154_code 3 = .ok (.ifCond .eq 14, 3) := by decide +kernel
theorem d_jdk_42_154_6 : decode jdk_42_method_154_code 6 = .ok (.aload_n 0, 1) := by decide +kernel
theorem d_jdk_42_154_7 : decode jdk_42_method_154_code 7 = .ok (.getfield 15, 3) := by decide +kernel
theorem d_jdk_42_154_10 : decode jdk_42_method_154_code 10 = .ok (.ifCond .ne 7, 3) := by decide +kernel
theorem d_jdk_42_154_13 : decode jdk_42_method_154_code 13 = .ok (.iconst 1, 1) := by decide +kernel
theorem d_jdk_42_154_14 : decode jdk_42_method_154_code 14 = .ok (.goto 4, 3) := by decide +kernel
theorem d_jdk_42_154_18 : decode jdk_42_method_154_code 18 = .ok (.ireturn, 1) := by decide +kernel
theorem d_jdk_42_155_0 : decode jdk_42_method_155_code 0 = .ok (.iload_n 0, 1) := by decide +kernel
theorem d_jdk_42_155_1 : decode jdk_42_method_155_code 1 = .ok (.iload_n 1, 1) := by decide +kernel
theorem d_jdk_42_155_2 : decode jdk_42_method_155_code 2 = .ok (.getstatic 1053, 3) := by decide +kernel
theorem d_jdk_42_155_5 : decode jdk_42_method_155_code 5 = .ok (.invokestatic 1059, 3) := by decide +kernel
theorem d_jdk_42_155_8 : decode jdk_42_method_155_code 8 = .ok (.pop, 1) := by decide +kernel
theorem d_jdk_42_155_9 : decode jdk_42_method_155_code 9 = .ok (.return_, 1) := by decide +kernel
theorem d_jdk_42_3_0 : decode jdk_42_method_3_code 0 = .ok (.aload_n 0, 1) := by decide +kernel
theorem d_jdk_42_3_1 : decode jdk_42_method_3_code 1 = .ok (.aload_n 1, 1) := by decide +kernel
theorem d_jdk_42_3_2 : decode jdk_42_method_3_code 2 = .ok (.iconst 0, 1) := by decide +kernel
theorem d_jdk_42_3_3 : decode jdk_42_method_3_code 3 = .ok (.aload_n 1, 1) := by decide +kernel
theorem d_jdk_42_3_4 : decode jdk_42_method_3_code 4 = .ok (.arraylength, 1) := by decide +kernel
theorem d_jdk_42_3_5 : decode jdk_42_method_3_code 5 = .ok (.aconst_null, 1) := by decide +kernel
theorem d_jdk_42_3_6 : decode jdk_42_method_3_code 6 = .ok (.invokespecial 27, 3) := by decide +kernel
theorem d_jdk_42_3_9 : decode jdk_42_method_3_code 9 = .ok (.return_, 1) := by decide +kernel
theorem d_jdk_42_54_0 : decode jdk_42_method_54_code 0 = .ok (.aload_n 0, 1) := by decide +kernel
theorem d_jdk_42_54_1 : decode jdk_42_method_54_code 1 = .ok (.getfield 9, 3) := by decide +kernel
theorem d_jdk_42_54_4 : decode jdk_42_method_54_code 4 = .ok (.arraylength, 1) := by decide +kernel
theorem d_jdk_42_54_5 : decode jdk_42_method_54_code 5 = .ok (.aload_n 0, 1) := by decide +kernel
theorem d_jdk_42_54_6 : decode jdk_42_method_54_code 6 = .ok (.invokevirtual 335, 3) := by decide +kernel
theorem d_jdk_42_54_9 : decode jdk_42_method_54_code 9 = .ok (.ishr, 1) := by decide +kernel
theorem d_jdk_42_54_10 : decode jdk_42_method_54_code 10 = .ok (.ireturn, 1) := by decide +kernel
theorem d_jdk_42_55_0 : decode jdk_42_method_55_code 0 = .ok (.aload_n 0, 1) := by decide +kernel
theorem d_jdk_42_55_1 : decode jdk_42_method_55_code 1 = .ok (.getfield 9, 3) := by decide +kernel
theorem d_jdk_42_55_4 : decode jdk_42_method_55_code 4 = .ok (.arraylength, 1) := by decide +kernel
theorem d_jdk_42_55_5 : decode jdk_42_method_55_code 5 = .ok (.ifCond .ne 7, 3) := by decide +kernel
theorem d_jdk_42_55_8 : decode jdk_42_method_55_code 8 = .ok (.iconst 1, 1) := by decide +kernel
theorem d_jdk_42_55_9 : decode jdk_42_method_55_code 9 = .ok (.goto 4, 3) := by decide +kernel
theorem d_jdk_42_55_12 : decode jdk_42_method_55_code 12 = .ok (.iconst 0, 1) := by decide +kernel
theorem d_jdk_42_55_13 : decode jdk_42_method_55_code 13 = .ok (.ireturn, 1) := by decide +kernel
theorem d_jdk_42_56_0 : decode jdk_42_method_56_code 0 = .ok (.aload_n 0, 1) := by decide +kernel
theorem d_jdk_42_56_1 : decode jdk_42_method_56_code 1 = .ok (.invokevirtual 492, 3) := by decide +kernel
theorem d_jdk_42_56_4 : decode jdk_42_method_56_code 4 = .ok (.ifCond .eq 12, 3) := by decide +kernel
theorem d_jdk_42_56_7 : decode jdk_42_method_56_code 7 = .ok (.aload_n 0, 1) := by decide +kernel
theorem d_jdk_42_56_8 : decode jdk_42_method_56_code 8 = .ok (.getfield 9, 3) := by decide +kernel
theorem d_jdk_42_56_11 : decode jdk_42_method_56_code 11 = .ok (.iload_n 1, 1) := by decide +kernel
theorem d_jdk_42_56_12 : decode jdk_42_method_56_code 12 = .ok (.invokestatic 495, 3) := by decide +kernel
theorem d_jdk_42_56_15 : decode jdk_42_method_56_code 15 = .ok (.ireturn, 1) := by decide +kernel
theorem d_jdk_43_2_0 : decode jdk_43_method_2_code 0 = .ok (.iload_n 1, 1) := by decide +kernel
theorem d_jdk_43_2_1 : decode jdk_43_method_2_code 1 = .ok (.aload_n 0, 1) := by decide +kernel
theorem d_jdk_43_2_2 : decode jdk_43_method_2_code 2 = .ok (.arraylength, 1) := by decide +kernel
theorem d_jdk_43_2_3 : decode jdk_43_method_2_code 3 = .ok (.invokestatic 9, 3) := by decide +kernel
theorem d_jdk_43_2_6 : decode jdk_43_method_2_code 6 = .ok (.aload_n 0, 1) := by decide +kernel
theorem d_jdk_43_2_7 : decode jdk_43_method_2_code 7 = .ok (.iload_n 1, 1) := by decide +kernel
theorem d_jdk_43_2_8 : decode jdk_43_method_2_code 8 = .ok (.baload, 1) := by decide +kernel
theorem d_jdk_43_2_9 : decode jdk_43_method_2_code 9 = .ok (.sipush 255, 3) := by decide +kernel
theorem d_jdk_43_2_12 : decode jdk_43_method_2_code 12 = .ok (.iand, 1) := by decide +kernel
theorem d_jdk_43_2_13 : decode jdk_43_method_2_code 13 = .ok (.i2c, 1) := by decide +kernel
theorem d_jdk_43_2_14 : decode jdk_43_method_2_code 14 = .ok (.ireturn, 1) := by decide +kernel
theorem d_jdk_52_15_0 : decode jdk_52_method_15_code 0 = .ok (.iload_n 1, 1) := by decide +kernel
theorem d_jdk_52_15_1 : decode jdk_52_method_15_code 1 = .ok (.aload_n 0, 1) := by decide +kernel
theorem d_jdk_52_15_2 : decode jdk_52_method_15_code 2 = .ok (.arraylength, 1) := by decide +kernel
theorem d_jdk_52_15_3 : decode jdk_52_method_15_code 3 = .ok (.isub, 1) := by decide +kernel
theorem d_jdk_52_15_4 : decode jdk_52_method_15_code 4 = .ok (.bipush 31, 2) := by decide +kernel
theorem d_jdk_52_15_6 : decode jdk_52_method_15_code 6 = .ok (.iushr, 1) := by decide +kernel
theorem d_jdk_52_15_7 : decode jdk_52_method_15_code 7 = .ok (.i2b, 1) := by decide +kernel
theorem d_jdk_52_15_8 : decode jdk_52_method_15_code 8 = .ok (.ireturn, 1) := by decide +kernel
theorem d_jdk_52_16_0 : decode jdk_52_method_16_code 0 = .ok (.iload_n 2, 1) := by decide +kernel
theorem d_jdk_52_16_1 : decode jdk_52_method_16_code 1 = .ok (.newarray .byte, 2) := by decide +kernel
theorem d_jdk_52_16_3 : decode jdk_52_method_16_code 3 = .ok (.astore_n 3, 1) := by decide +kernel
theorem d_jdk_52_16_4 : decode jdk_52_method_16_code 4 = .ok (.aload_n 0, 1) := by decide +kernel
theorem d_jdk_52_16_5 : decode jdk_52_method_16_code 5 = .ok (.iload_n 1, 1) := by decide +kernel
theorem d_jdk_52_16_6 : decode jdk_52_method_16_code 6 = .ok (.aload_n 3, 1) := by decide +kernel
theorem d_jdk_52_16_7 : decode jdk_52_method_16_code 7 = .ok (.iconst 0, 1) := by decide +kernel
theorem d_jdk_52_16_8 : decode jdk_52_method_16_code 8 = .ok (.iload_n 2, 1) := by decide +kernel
theorem d_jdk_52_16_9 : decode jdk_52_method_16_code 9 = .ok (.invokestatic 115, 3) := by decide +kernel
theorem d_jdk_52_16_12 : decode jdk_52_method_16_code 12 = .ok (.istore 4, 2) := by decide +kernel
theorem d_jdk_52_16_14 : decode jdk_52_method_16_code 14 = .ok (.iload 4, 2) := by decide +kernel
theorem d_jdk_52_16_16 : decode jdk_52_method_16_code 16 = .ok (.iload_n 2, 1) := by decide +kernel
theorem d_jdk_52_16_17 : decode jdk_52_method_16_code 17 = .ok (.if_icmp .eq 40, 3) := by decide +kernel
theorem d_jdk_52_16_57 : decode jdk_52_method_16_code 57 = .ok (.aload_n 3, 1) := by decide +kernel
theorem d_jdk_52_16_58 : decode jdk_52_method_16_code 58 = .ok (.areturn, 1) := by decide +kernel
theorem d_jdk_52_21_0 : decode jdk_52_method_21_code 0 = .ok (.iconst 0, 1) := by decide +kernel
theorem d_jdk_52_21_1 : decode jdk_52_method_21_code 1 = .ok (.istore 5, 2) := by decide +kernel
theorem d_jdk_52_21_3 : decode jdk_52_method_21_code 3 = .ok (.iload 5, 2) := by decide +kernel
theorem d_jdk_52_21_5 : decode jdk_52_method_21_code 5 = .ok (.iload 4, 2) := by decide +kernel
theorem d_jdk_52_21_7 : decode jdk_52_method_21_code 7 = .ok (.if_icmp .ge 37, 3) := by decide +kernel
theorem d_jdk_52_21_10 : decode jdk_52_method_21_code 10 = .ok (.aload_n 0, 1) := by decide +kernel
theorem d_jdk_52_21_11 : decode jdk_52_method_21_code 11 = .ok (.iload_n 1, 1) := by decide +kernel
theorem d_jdk_52_21_12 : decode jdk_52_method_21_code 12 = .ok (.caload, 1) := by decide +kernel
theorem d_jdk_52_21_13 : decode jdk_52_method_21_code 13 = .ok (.istore 6, 2) := by decide +kernel
theorem d_jdk_52_21_15 : decode jdk_52_method_21_code 15 = .ok (.iload 6, 2) := by decide +kernel
theorem d_jdk_52_21_17 : decode jdk_52_method_21_code 17 = .ok (.sipush 255, 3) := by decide +kernel
theorem d_jdk_52_21_20 : decode jdk_52_method_21_code 20 = .ok (.if_icmp .le 6, 3) := by decide +kernel
theorem d_jdk_52_21_26 : decode jdk_52_method_21_code 26 = .ok (.aload_n 2, 1) := by decide +kernel
theorem d_jdk_52_21_27 : decode jdk_52_method_21_code 27 = .ok (.iload_n 3, 1) := by decide +kernel
theorem d_jdk_52_21_28 : decode jdk_52_method_21_code 28 = .ok (.iload 6, 2) := by decide +kernel
theorem d_jdk_52_21_30 : decode jdk_52_method_21_code 30 = .ok (.i2b, 1) := by decide +kernel
theorem d_jdk_52_21_31 : decode jdk_52_method_21_code 31 = .ok (.bastore, 1) := by decide +kernel
theorem d_jdk_52_21_32 : decode jdk_52_method_21_code 32 = .ok (.iinc 1 1, 3) := by decide +kernel
theorem d_jdk_52_21_35 : decode jdk_52_method_21_code 35 = .ok (.iinc 3 1, 3) := by decide +kernel
theorem d_jdk_52_21_38 : decode jdk_52_method_21_code 38 = .ok (.iinc 5 1, 3) := by decide +kernel
theorem d_jdk_52_21_41 : decode jdk_52_method_21_code 41 = .ok (.goto (-38), 3) := by decide +kernel
theorem d_jdk_52_21_44 : decode jdk_52_method_21_code 44 = .ok (.iload 4, 2) := by decide +kernel
theorem d_jdk_52_21_46 : decode jdk_52_method_21_code 46 = .ok (.ireturn, 1) := by decide +kernel
theorem d_method_3_0 : decode method_3_code 0 = .ok (.iload_n 0, 1) := by decide +kernel
theorem d_method_3_1 : decode method_3_code 1 = .ok (.ldc 32, 2) := by decide +kernel
theorem d_method_3_3 : decode method_3_code 3 = .ok (.iand, 1) := by decide +kernel
theorem d_method_3_4 : decode method_3_code 4 = .ok (.bipush 65, 2) := by decide +kernel
theorem d_method_3_6 : decode method_3_code 6 = .ok (.irem, 1) := by decide +kernel
theorem d_method_3_7 : decode method_3_code 7 = .ok (.istore_n 1, 1) := by decide +kernel
theorem d_method_3_8 : decode method_3_code 8 = .ok (.iload_n 1, 1) := by decide +kernel
theorem d_method_3_9 : decode method_3_code 9 = .ok (.bipush 26, 2) := by decide +kernel
theorem d_method_3_11 : decode method_3_code 11 = .ok (.if_icmp .ge 9, 3) := by decide +kernel
theorem d_method_3_14 : decode method_3_code 14 = .ok (.bipush 97, 2) := by decide +kernel
theorem d_method_3_16 : decode method_3_code 16 = .ok (.iload_n 1, 1) := by decide +kernel
theorem d_method_3_17 : decode method_3_code 17 = .ok (.iadd, 1) := by decide +kernel
theorem d_method_3_18 : decode method_3_code 18 = .ok (.i2c, 1) := by decide +kernel
theorem d_method_3_19 : decode method_3_code 19 = .ok (.ireturn, 1) := by decide +kernel
theorem d_method_3_20 : decode method_3_code 20 = .ok (.iload_n 1, 1) := by decide +kernel
theorem d_method_3_21 : decode method_3_code 21 = .ok (.bipush 52, 2) := by decide +kernel
theorem d_method_3_23 : decode method_3_code 23 = .ok (.if_icmp .ge 12, 3) := by decide +kernel
theorem d_method_3_26 : decode method_3_code 26 = .ok (.bipush 65, 2) := by decide +kernel
theorem d_method_3_28 : decode method_3_code 28 = .ok (.iload_n 1, 1) := by decide +kernel
theorem d_method_3_29 : decode method_3_code 29 = .ok (.bipush 26, 2) := by decide +kernel
theorem d_method_3_31 : decode method_3_code 31 = .ok (.isub, 1) := by decide +kernel
theorem d_method_3_32 : decode method_3_code 32 = .ok (.iadd, 1) := by decide +kernel
theorem d_method_3_33 : decode method_3_code 33 = .ok (.i2c, 1) := by decide +kernel
theorem d_method_3_34 : decode method_3_code 34 = .ok (.ireturn, 1) := by decide +kernel
theorem d_method_3_35 : decode method_3_code 35 = .ok (.iload_n 1, 1) := by decide +kernel
theorem d_method_3_36 : decode method_3_code 36 = .ok (.bipush 62, 2) := by decide +kernel
theorem d_method_3_38 : decode method_3_code 38 = .ok (.if_icmp .ge 12, 3) := by decide +kernel
theorem d_method_3_41 : decode method_3_code 41 = .ok (.bipush 48, 2) := by decide +kernel
theorem d_method_3_43 : decode method_3_code 43 = .ok (.iload_n 1, 1) := by decide +kernel
theorem d_method_3_44 : decode method_3_code 44 = .ok (.bipush 52, 2) := by decide +kernel
theorem d_method_3_46 : decode method_3_code 46 = .ok (.isub, 1) := by decide +kernel
theorem d_method_3_47 : decode method_3_code 47 = .ok (.iadd, 1) := by decide +kernel
theorem d_method_3_48 : decode method_3_code 48 = .ok (.i2c, 1) := by decide +kernel
theorem d_method_3_49 : decode method_3_code 49 = .ok (.ireturn, 1) := by decide +kernel
theorem d_method_3_50 : decode method_3_code 50 = .ok (.iload_n 1, 1) := by decide +kernel
theorem d_method_3_51 : decode method_3_code 51 = .ok (.bipush 62, 2) := by decide +kernel
theorem d_method_3_53 : decode method_3_code 53 = .ok (.if_icmp .ne 6, 3) := by decide +kernel
theorem d_method_3_56 : decode method_3_code 56 = .ok (.bipush 45, 2) := by decide +kernel
theorem d_method_3_58 : decode method_3_code 58 = .ok (.ireturn, 1) := by decide +kernel
theorem d_method_3_59 : decode method_3_code 59 = .ok (.iload_n 1, 1) := by decide +kernel
theorem d_method_3_60 : decode method_3_code 60 = .ok (.bipush 63, 2) := by decide +kernel
theorem d_method_3_62 : decode method_3_code 62 = .ok (.if_icmp .ne 6, 3) := by decide +kernel
theorem d_method_3_65 : decode method_3_code 65 = .ok (.bipush 95, 2) := by decide +kernel
theorem d_method_3_67 : decode method_3_code 67 = .ok (.ireturn, 1) := by decide +kernel
theorem d_method_3_68 : decode method_3_code 68 = .ok (.bipush 46, 2) := by decide +kernel
theorem d_method_3_70 : decode method_3_code 70 = .ok (.ireturn, 1) := by decide +kernel
theorem d_method_4_0 : decode method_4_code 0 = .ok (.bipush 50, 2) := by decide +kernel
theorem d_method_4_2 : decode method_4_code 2 = .ok (.newarray .char, 2) := by decide +kernel
theorem d_method_4_4 : decode method_4_code 4 = .ok (.dup, 1) := by decide +kernel
theorem d_method_4_5 : decode method_4_code 5 = .ok (.iconst 0, 1) := by decide +kernel
theorem d_method_4_6 : decode method_4_code 6 = .ok (.iload_n 0, 1) := by decide +kernel
theorem d_method_4_7 : decode method_4_code 7 = .ok (.castore, 1) := by decide +kernel
theorem d_method_4_8 : decode method_4_code 8 = .ok (.dup, 1) := by decide +kernel
theorem d_method_4_9 : decode method_4_code 9 = .ok (.iconst 1, 1) := by decide +kernel
theorem d_method_4_10 : decode method_4_code 10 = .ok (.iload_n 1, 1) := by decide +kernel
theorem d_method_4_11 : decode method_4_code 11 = .ok (.castore, 1) := by decide +kernel
theorem d_method_4_12 : decode method_4_code 12 = .ok (.dup, 1) := by decide +kernel
theorem d_method_4_13 : decode method_4_code 13 = .ok (.iconst 2, 1) := by decide +kernel
theorem d_method_4_14 : decode method_4_code 14 = .ok (.iload_n 2, 1) := by decide +kernel
theorem d_method_4_15 : decode method_4_code 15 = .ok (.castore, 1) := by decide +kernel
theorem d_method_4_16 : decode method_4_code 16 = .ok (.dup, 1) := by decide +kernel
theorem d_method_4_17 : decode method_4_code 17 = .ok (.iconst 3, 1) := by decide +kernel
theorem d_method_4_18 : decode method_4_code 18 = .ok (.iload_n 3, 1) := by decide +kernel
theorem d_method_4_19 : decode method_4_code 19 = .ok (.castore, 1) := by decide +kernel
theorem d_method_4_20 : decode method_4_code 20 = .ok (.dup, 1) := by decide +kernel
theorem d_method_4_21 : decode method_4_code 21 = .ok (.iconst 4, 1) := by decide +kernel
theorem d_method_4_22 : decode method_4_code 22 = .ok (.iload_n 0, 1) := by decide +kernel
theorem d_method_4_23 : decode method_4_code 23 = .ok (.castore, 1) := by decide +kernel
theorem d_method_4_24 : decode method_4_code 24 = .ok (.dup, 1) := by decide +kernel
theorem d_method_4_25 : decode method_4_code 25 = .ok (.iconst 5, 1) := by decide +kernel
theorem d_method_4_26 : decode method_4_code 26 = .ok (.iload_n 1, 1) := by decide +kernel
theorem d_method_4_27 : decode method_4_code 27 = .ok (.castore, 1) := by decide +kernel
theorem d_method_4_28 : decode method_4_code 28 = .ok (.dup, 1) := by decide +kernel
theorem d_method_4_29 : decode method_4_code 29 = .ok (.bipush 6, 2) := by decide +kernel
theorem d_method_4_31 : decode method_4_code 31 = .ok (.iload_n 2, 1) := by decide +kernel
theorem d_method_4_32 : decode method_4_code 32 = .ok (.castore, 1) := by decide +kernel
theorem d_method_4_33 : decode method_4_code 33 = .ok (.dup, 1) := by decide +kernel
theorem d_method_4_34 : decode method_4_code 34 = .ok (.bipush 7, 2) := by decide +kernel
theorem d_method_4_36 : decode method_4_code 36 = .ok (.iload_n 3, 1) := by decide +kernel
theorem d_method_4_37 : decode method_4_code 37 = .ok (.castore, 1) := by decide +kernel
theorem d_method_4_38 : decode method_4_code 38 = .ok (.dup, 1) := by decide +kernel
theorem d_method_4_39 : decode method_4_code 39 = .ok (.bipush 8, 2) := by decide +kernel
theorem d_method_4_41 : decode method_4_code 41 = .ok (.iload_n 0, 1) := by decide +kernel
theorem d_method_4_42 : decode method_4_code 42 = .ok (.castore, 1) := by decide +kernel
theorem d_method_4_43 : decode method_4_code 43 = .ok (.dup, 1) := by decide +kernel
theorem d_method_4_44 : decode method_4_code 44 = .ok (.bipush 9, 2) := by decide +kernel
theorem d_method_4_46 : decode method_4_code 46 = .ok (.iload_n 1, 1) := by decide +kernel
theorem d_method_4_47 : decode method_4_code 47 = .ok (.castore, 1) := by decide +kernel
theorem d_method_4_48 : decode method_4_code 48 = .ok (.dup, 1) := by decide +kernel
theorem d_method_4_49 : decode method_4_code 49 = .ok (.bipush 10, 2) := by decide +kernel
theorem d_method_4_51 : decode method_4_code 51 = .ok (.iload_n 2, 1) := by decide +kernel
theorem d_method_4_52 : decode method_4_code 52 = .ok (.castore, 1) := by decide +kernel
theorem d_method_4_53 : decode method_4_code 53 = .ok (.dup, 1) := by decide +kernel
theorem d_method_4_54 : decode method_4_code 54 = .ok (.bipush 11, 2) := by decide +kernel
theorem d_method_4_56 : decode method_4_code 56 = .ok (.iload_n 3, 1) := by decide +kernel
theorem d_method_4_57 : decode method_4_code 57 = .ok (.castore, 1) := by decide +kernel
theorem d_method_4_58 : decode method_4_code 58 = .ok (.dup, 1) := by decide +kernel
theorem d_method_4_59 : decode method_4_code 59 = .ok (.bipush 12, 2) := by decide +kernel
theorem d_method_4_61 : decode method_4_code 61 = .ok (.iload_n 0, 1) := by decide +kernel
theorem d_method_4_62 : decode method_4_code 62 = .ok (.castore, 1) := by decide +kernel
theorem d_method_4_63 : decode method_4_code 63 = .ok (.dup, 1) := by decide +kernel
theorem d_method_4_64 : decode method_4_code 64 = .ok (.bipush 13, 2) := by decide +kernel
theorem d_method_4_66 : decode method_4_code 66 = .ok (.iload_n 1, 1) := by decide +kernel
theorem d_method_4_67 : decode method_4_code 67 = .ok (.castore, 1) := by decide +kernel
theorem d_method_4_68 : decode method_4_code 68 = .ok (.dup, 1) := by decide +kernel
theorem d_method_4_69 : decode method_4_code 69 = .ok (.bipush 14, 2) := by decide +kernel
theorem d_method_4_71 : decode method_4_code 71 = .ok (.iload_n 2, 1) := by decide +kernel
theorem d_method_4_72 : decode method_4_code 72 = .ok (.castore, 1) := by decide +kernel
theorem d_method_4_73 : decode method_4_code 73 = .ok (.dup, 1) := by decide +kernel
theorem d_method_4_74 : decode method_4_code 74 = .ok (.bipush 15, 2) := by decide +kernel
theorem d_method_4_76 : decode method_4_code 76 = .ok (.iload_n 3, 1) := by decide +kernel
theorem d_method_4_77 : decode method_4_code 77 = .ok (.castore, 1) := by decide +kernel
theorem d_method_4_78 : decode method_4_code 78 = .ok (.dup, 1) := by decide +kernel
theorem d_method_4_79 : decode method_4_code 79 = .ok (.bipush 16, 2) := by decide +kernel
theorem d_method_4_81 : decode method_4_code 81 = .ok (.iload_n 0, 1) := by decide +kernel
theorem d_method_4_82 : decode method_4_code 82 = .ok (.castore, 1) := by decide +kernel
theorem d_method_4_83 : decode method_4_code 83 = .ok (.dup, 1) := by decide +kernel
theorem d_method_4_84 : decode method_4_code 84 = .ok (.bipush 17, 2) := by decide +kernel
theorem d_method_4_86 : decode method_4_code 86 = .ok (.iload_n 1, 1) := by decide +kernel
theorem d_method_4_87 : decode method_4_code 87 = .ok (.castore, 1) := by decide +kernel
theorem d_method_4_88 : decode method_4_code 88 = .ok (.dup, 1) := by decide +kernel
theorem d_method_4_89 : decode method_4_code 89 = .ok (.bipush 18, 2) := by decide +kernel
theorem d_method_4_91 : decode method_4_code 91 = .ok (.iload_n 2, 1) := by decide +kernel
theorem d_method_4_92 : decode method_4_code 92 = .ok (.castore, 1) := by decide +kernel
theorem d_method_4_93 : decode method_4_code 93 = .ok (.dup, 1) := by decide +kernel
theorem d_method_4_94 : decode method_4_code 94 = .ok (.bipush 19, 2) := by decide +kernel
theorem d_method_4_96 : decode method_4_code 96 = .ok (.iload_n 3, 1) := by decide +kernel
theorem d_method_4_97 : decode method_4_code 97 = .ok (.castore, 1) := by decide +kernel
theorem d_method_4_98 : decode method_4_code 98 = .ok (.dup, 1) := by decide +kernel
theorem d_method_4_99 : decode method_4_code 99 = .ok (.bipush 20, 2) := by decide +kernel
theorem d_method_4_101 : decode method_4_code 101 = .ok (.iload_n 0, 1) := by decide +kernel
theorem d_method_4_102 : decode method_4_code 102 = .ok (.castore, 1) := by decide +kernel
theorem d_method_4_103 : decode method_4_code 103 = .ok (.dup, 1) := by decide +kernel
theorem d_method_4_104 : decode method_4_code 104 = .ok (.bipush 21, 2) := by decide +kernel
theorem d_method_4_106 : decode method_4_code 106 = .ok (.iload_n 1, 1) := by decide +kernel
theorem d_method_4_107 : decode method_4_code 107 = .ok (.castore, 1) := by decide +kernel
theorem d_method_4_108 : decode method_4_code 108 = .ok (.dup, 1) := by decide +kernel
theorem d_method_4_109 : decode method_4_code 109 = .ok (.bipush 22, 2) := by decide +kernel
theorem d_method_4_111 : decode method_4_code 111 = .ok (.iload_n 2, 1) := by decide +kernel
theorem d_method_4_112 : decode method_4_code 112 = .ok (.castore, 1) := by decide +kernel
theorem d_method_4_113 : decode method_4_code 113 = .ok (.dup, 1) := by decide +kernel
theorem d_method_4_114 : decode method_4_code 114 = .ok (.bipush 23, 2) := by decide +kernel
theorem d_method_4_116 : decode method_4_code 116 = .ok (.iload_n 3, 1) := by decide +kernel
theorem d_method_4_117 : decode method_4_code 117 = .ok (.castore, 1) := by decide +kernel
theorem d_method_4_118 : decode method_4_code 118 = .ok (.dup, 1) := by decide +kernel
theorem d_method_4_119 : decode method_4_code 119 = .ok (.bipush 24, 2) := by decide +kernel
theorem d_method_4_121 : decode method_4_code 121 = .ok (.iload_n 0, 1) := by decide +kernel
theorem d_method_4_122 : decode method_4_code 122 = .ok (.castore, 1) := by decide +kernel
theorem d_method_4_123 : decode method_4_code 123 = .ok (.dup, 1) := by decide +kernel
theorem d_method_4_124 : decode method_4_code 124 = .ok (.bipush 25, 2) := by decide +kernel
theorem d_method_4_126 : decode method_4_code 126 = .ok (.iload_n 1, 1) := by decide +kernel
theorem d_method_4_127 : decode method_4_code 127 = .ok (.castore, 1) := by decide +kernel
theorem d_method_4_128 : decode method_4_code 128 = .ok (.dup, 1) := by decide +kernel
theorem d_method_4_129 : decode method_4_code 129 = .ok (.bipush 26, 2) := by decide +kernel
theorem d_method_4_131 : decode method_4_code 131 = .ok (.iload_n 2, 1) := by decide +kernel
theorem d_method_4_132 : decode method_4_code 132 = .ok (.castore, 1) := by decide +kernel
theorem d_method_4_133 : decode method_4_code 133 = .ok (.dup, 1) := by decide +kernel
theorem d_method_4_134 : decode method_4_code 134 = .ok (.bipush 27, 2) := by decide +kernel
theorem d_method_4_136 : decode method_4_code 136 = .ok (.iload_n 3, 1) := by decide +kernel
theorem d_method_4_137 : decode method_4_code 137 = .ok (.castore, 1) := by decide +kernel
theorem d_method_4_138 : decode method_4_code 138 = .ok (.dup, 1) := by decide +kernel
theorem d_method_4_139 : decode method_4_code 139 = .ok (.bipush 28, 2) := by decide +kernel
theorem d_method_4_141 : decode method_4_code 141 = .ok (.iload_n 0, 1) := by decide +kernel
theorem d_method_4_142 : decode method_4_code 142 = .ok (.castore, 1) := by decide +kernel
theorem d_method_4_143 : decode method_4_code 143 = .ok (.dup, 1) := by decide +kernel
theorem d_method_4_144 : decode method_4_code 144 = .ok (.bipush 29, 2) := by decide +kernel
theorem d_method_4_146 : decode method_4_code 146 = .ok (.iload_n 1, 1) := by decide +kernel
theorem d_method_4_147 : decode method_4_code 147 = .ok (.castore, 1) := by decide +kernel
theorem d_method_4_148 : decode method_4_code 148 = .ok (.dup, 1) := by decide +kernel
theorem d_method_4_149 : decode method_4_code 149 = .ok (.bipush 30, 2) := by decide +kernel
theorem d_method_4_151 : decode method_4_code 151 = .ok (.iload_n 2, 1) := by decide +kernel
theorem d_method_4_152 : decode method_4_code 152 = .ok (.castore, 1) := by decide +kernel
theorem d_method_4_153 : decode method_4_code 153 = .ok (.dup, 1) := by decide +kernel
theorem d_method_4_154 : decode method_4_code 154 = .ok (.bipush 31, 2) := by decide +kernel
theorem d_method_4_156 : decode method_4_code 156 = .ok (.iload_n 3, 1) := by decide +kernel
theorem d_method_4_157 : decode method_4_code 157 = .ok (.castore, 1) := by decide +kernel
theorem d_method_4_158 : decode method_4_code 158 = .ok (.dup, 1) := by decide +kernel
theorem d_method_4_159 : decode method_4_code 159 = .ok (.bipush 32, 2) := by decide +kernel
theorem d_method_4_161 : decode method_4_code 161 = .ok (.iload_n 0, 1) := by decide +kernel
theorem d_method_4_162 : decode method_4_code 162 = .ok (.castore, 1) := by decide +kernel
theorem d_method_4_163 : decode method_4_code 163 = .ok (.dup, 1) := by decide +kernel
theorem d_method_4_164 : decode method_4_code 164 = .ok (.bipush 33, 2) := by decide +kernel
theorem d_method_4_166 : decode method_4_code 166 = .ok (.iload_n 1, 1) := by decide +kernel
theorem d_method_4_167 : decode method_4_code 167 = .ok (.castore, 1) := by decide +kernel
theorem d_method_4_168 : decode method_4_code 168 = .ok (.dup, 1) := by decide +kernel
theorem d_method_4_169 : decode method_4_code 169 = .ok (.bipush 34, 2) := by decide +kernel
theorem d_method_4_171 : decode method_4_code 171 = .ok (.iload_n 2, 1) := by decide +kernel
theorem d_method_4_172 : decode method_4_code 172 = .ok (.castore, 1) := by decide +kernel
theorem d_method_4_173 : decode method_4_code 173 = .ok (.dup, 1) := by decide +kernel
theorem d_method_4_174 : decode method_4_code 174 = .ok (.bipush 35, 2) := by decide +kernel
theorem d_method_4_176 : decode method_4_code 176 = .ok (.iload_n 3, 1) := by decide +kernel
theorem d_method_4_177 : decode method_4_code 177 = .ok (.castore, 1) := by decide +kernel
theorem d_method_4_178 : decode method_4_code 178 = .ok (.dup, 1) := by decide +kernel
theorem d_method_4_179 : decode method_4_code 179 = .ok (.bipush 36, 2) := by decide +kernel
theorem d_method_4_181 : decode method_4_code 181 = .ok (.iload_n 0, 1) := by decide +kernel
theorem d_method_4_182 : decode method_4_code 182 = .ok (.castore, 1) := by decide +kernel
theorem d_method_4_183 : decode method_4_code 183 = .ok (.dup, 1) := by decide +kernel
theorem d_method_4_184 : decode method_4_code 184 = .ok (.bipush 37, 2) := by decide +kernel
theorem d_method_4_186 : decode method_4_code 186 = .ok (.iload_n 1, 1) := by decide +kernel
theorem d_method_4_187 : decode method_4_code 187 = .ok (.castore, 1) := by decide +kernel
theorem d_method_4_188 : decode method_4_code 188 = .ok (.dup, 1) := by decide +kernel
theorem d_method_4_189 : decode method_4_code 189 = .ok (.bipush 38, 2) := by decide +kernel
theorem d_method_4_191 : decode method_4_code 191 = .ok (.iload_n 2, 1) := by decide +kernel
theorem d_method_4_192 : decode method_4_code 192 = .ok (.castore, 1) := by decide +kernel
theorem d_method_4_193 : decode method_4_code 193 = .ok (.dup, 1) := by decide +kernel
theorem d_method_4_194 : decode method_4_code 194 = .ok (.bipush 39, 2) := by decide +kernel
theorem d_method_4_196 : decode method_4_code 196 = .ok (.iload_n 3, 1) := by decide +kernel
theorem d_method_4_197 : decode method_4_code 197 = .ok (.castore, 1) := by decide +kernel
theorem d_method_4_198 : decode method_4_code 198 = .ok (.dup, 1) := by decide +kernel
theorem d_method_4_199 : decode method_4_code 199 = .ok (.bipush 40, 2) := by decide +kernel
theorem d_method_4_201 : decode method_4_code 201 = .ok (.iload_n 0, 1) := by decide +kernel
theorem d_method_4_202 : decode method_4_code 202 = .ok (.castore, 1) := by decide +kernel
theorem d_method_4_203 : decode method_4_code 203 = .ok (.dup, 1) := by decide +kernel
theorem d_method_4_204 : decode method_4_code 204 = .ok (.bipush 41, 2) := by decide +kernel
theorem d_method_4_206 : decode method_4_code 206 = .ok (.iload_n 1, 1) := by decide +kernel
theorem d_method_4_207 : decode method_4_code 207 = .ok (.castore, 1) := by decide +kernel
theorem d_method_4_208 : decode method_4_code 208 = .ok (.dup, 1) := by decide +kernel
theorem d_method_4_209 : decode method_4_code 209 = .ok (.bipush 42, 2) := by decide +kernel
theorem d_method_4_211 : decode method_4_code 211 = .ok (.iload_n 2, 1) := by decide +kernel
theorem d_method_4_212 : decode method_4_code 212 = .ok (.castore, 1) := by decide +kernel
theorem d_method_4_213 : decode method_4_code 213 = .ok (.dup, 1) := by decide +kernel
theorem d_method_4_214 : decode method_4_code 214 = .ok (.bipush 43, 2) := by decide +kernel
theorem d_method_4_216 : decode method_4_code 216 = .ok (.iload_n 3, 1) := by decide +kernel
theorem d_method_4_217 : decode method_4_code 217 = .ok (.castore, 1) := by decide +kernel
theorem d_method_4_218 : decode method_4_code 218 = .ok (.dup, 1) := by decide +kernel
theorem d_method_4_219 : decode method_4_code 219 = .ok (.bipush 44, 2) := by decide +kernel
theorem d_method_4_221 : decode method_4_code 221 = .ok (.iload_n 0, 1) := by decide +kernel
theorem d_method_4_222 : decode method_4_code 222 = .ok (.castore, 1) := by decide +kernel
theorem d_method_4_223 : decode method_4_code 223 = .ok (.dup, 1) := by decide +kernel
theorem d_method_4_224 : decode method_4_code 224 = .ok (.bipush 45, 2) := by decide +kernel
theorem d_method_4_226 : decode method_4_code 226 = .ok (.iload_n 1, 1) := by decide +kernel
theorem d_method_4_227 : decode method_4_code 227 = .ok (.castore, 1) := by decide +kernel
theorem d_method_4_228 : decode method_4_code 228 = .ok (.dup, 1) := by decide +kernel
theorem d_method_4_229 : decode method_4_code 229 = .ok (.bipush 46, 2) := by decide +kernel
theorem d_method_4_231 : decode method_4_code 231 = .ok (.iload_n 2, 1) := by decide +kernel
theorem d_method_4_232 : decode method_4_code 232 = .ok (.castore, 1) := by decide +kernel
theorem d_method_4_233 : decode method_4_code 233 = .ok (.dup, 1) := by decide +kernel
theorem d_method_4_234 : decode method_4_code 234 = .ok (.bipush 47, 2) := by decide +kernel
theorem d_method_4_236 : decode method_4_code 236 = .ok (.iload_n 3, 1) := by decide +kernel
theorem d_method_4_237 : decode method_4_code 237 = .ok (.castore, 1) := by decide +kernel
theorem d_method_4_238 : decode method_4_code 238 = .ok (.dup, 1) := by decide +kernel
theorem d_method_4_239 : decode method_4_code 239 = .ok (.bipush 48, 2) := by decide +kernel
theorem d_method_4_241 : decode method_4_code 241 = .ok (.iload_n 0, 1) := by decide +kernel
theorem d_method_4_242 : decode method_4_code 242 = .ok (.castore, 1) := by decide +kernel
theorem d_method_4_243 : decode method_4_code 243 = .ok (.dup, 1) := by decide +kernel
theorem d_method_4_244 : decode method_4_code 244 = .ok (.bipush 49, 2) := by decide +kernel
theorem d_method_4_246 : decode method_4_code 246 = .ok (.iload_n 1, 1) := by decide +kernel
theorem d_method_4_247 : decode method_4_code 247 = .ok (.castore, 1) := by decide +kernel
theorem d_method_4_248 : decode method_4_code 248 = .ok (.areturn, 1) := by decide +kernel
theorem d_prog_3_4_0 : decode prog_3_method_4_code 0 = .ok (.aload_n 0, 1) := by decide +kernel
theorem d_prog_3_4_1 : decode prog_3_method_4_code 1 = .ok (.ifnonnull 13, 3) := by decide +kernel
theorem d_prog_3_4_14 : decode prog_3_method_4_code 14 = .ok (.iconst 0, 1) := by decide +kernel
theorem d_prog_3_4_15 : decode prog_3_method_4_code 15 = .ok (.istore_n 1, 1) := by decide +kernel
theorem d_prog_3_4_16 : decode prog_3_method_4_code 16 = .ok (.iload_n 1, 1) := by decide +kernel
theorem d_prog_3_4_17 : decode prog_3_method_4_code 17 = .ok (.aload_n 0, 1) := by decide +kernel
theorem d_prog_3_4_18 : decode prog_3_method_4_code 18 = .ok (.invokevirtual 26, 3) := by decide +kernel
theorem d_prog_3_4_21 : decode prog_3_method_4_code 21 = .ok (.if_icmp .ge 40, 3) := by decide +kernel
theorem d_prog_3_4_24 : decode prog_3_method_4_code 24 = .ok (.aload_n 0, 1) := by decide +kernel
theorem d_prog_3_4_25 : decode prog_3_method_4_code 25 = .ok (.iload_n 1, 1) := by decide +kernel
theorem d_prog_3_4_26 : decode prog_3_method_4_code 26 = .ok (.invokevirtual 63, 3) := by decide +kernel
theorem d_prog_3_4_29 : decode prog_3_method_4_code 29 = .ok (.istore_n 2, 1) := by decide +kernel
theorem d_prog_3_4_30 : decode prog_3_method_4_code 30 = .ok (.iload_n 2, 1) := by decide +kernel
theorem d_prog_3_4_31 : decode prog_3_method_4_code 31 = .ok (.invokestatic 67, 3) := by decide +kernel
theorem d_prog_3_4_34 : decode prog_3_method_4_code 34 = .ok (.ifCond .ne 21, 3) := by decide +kernel
theorem d_prog_3_4_55 : decode prog_3_method_4_code 55 = .ok (.iinc 1 1, 3) := by decide +kernel
theorem d_prog_3_4_58 : decode prog_3_method_4_code 58 = .ok (.goto (-42), 3) := by decide +kernel
theorem d_prog_3_4_61 : decode prog_3_method_4_code 61 = .ok (.aload_n 0, 1) := by decide +kernel
theorem d_prog_3_4_62 : decode prog_3_method_4_code 62 = .ok (.invokevirtual 72, 3) := by decide +kernel
theorem d_prog_3_4_65 : decode prog_3_method_4_code 65 = .ok (.ifCond .ne 12, 3) := by decide +kernel
theorem d_prog_3_4_68 : decode prog_3_method_4_code 68 = .ok (.aload_n 0, 1) := by decide +kernel
theorem d_prog_3_4_69 : decode prog_3_method_4_code 69 = .ok (.invokevirtual 26, 3) := by decide +kernel
theorem d_prog_3_4_72 : decode prog_3_method_4_code 72 = .ok (.bipush 50, 2) := by decide +kernel
theorem d_prog_3_4_74 : decode prog_3_method_4_code 74 = .ok (.if_icmp .le 20, 3) := by decide +kernel
theorem d_prog_3_4_94 : decode prog_3_method_4_code 94 = .ok (.aload_n 0, 1) := by decide +kernel
theorem d_prog_3_4_95 : decode prog_3_method_4_code 95 = .ok (.areturn, 1) := by decide +kernel
theorem d_prog_3_7_0 : decode prog_3_method_7_code 0 = .ok (.iload_n 0, 1) := by decide +kernel
theorem d_prog_3_7_1 : decode prog_3_method_7_code 1 = .ok (.bipush 97, 2) := by decide +kernel
theorem d_prog_3_7_3 : decode prog_3_method_7_code 3 = .ok (.if_icmp .lt 9, 3) := by decide +kernel
theorem d_prog_3_7_6 : decode prog_3_method_7_code 6 = .ok (.iload_n 0, 1) := by decide +kernel
theorem d_prog_3_7_7 : decode prog_3_method_7_code 7 = .ok (.bipush 122, 2) := by decide +kernel
theorem d_prog_3_7_9 : decode prog_3_method_7_code 9 = .ok (.if_icmp .le 45, 3) := by decide +kernel
theorem d_prog_3_7_12 : decode prog_3_method_7_code 12 = .ok (.iload_n 0, 1) := by decide +kernel
theorem d_prog_3_7_13 : decode prog_3_method_7_code 13 = .ok (.bipush 65, 2) := by decide +kernel
theorem d_prog_3_7_15 : decode prog_3_method_7_code 15 = .ok (.if_icmp .lt 9, 3) := by decide +kernel
theorem d_prog_3_7_18 : decode prog_3_method_7_code 18 = .ok (.iload_n 0, 1) := by decide +kernel
theorem d_prog_3_7_19 : decode prog_3_method_7_code 19 = .ok (.bipush 90, 2) := by decide +kernel
theorem d_prog_3_7_21 : decode prog_3_method_7_code 21 = .ok (.if_icmp .le 33, 3) := by decide +kernel
theorem d_prog_3_7_24 : decode prog_3_method_7_code 24 = .ok (.iload_n 0, 1) := by decide +kernel
theorem d_prog_3_7_25 : decode prog_3_method_7_code 25 = .ok (.bipush 48, 2) := by decide +kernel
theorem d_prog_3_7_27 : decode prog_3_method_7_code 27 = .ok (.if_icmp .lt 9, 3) := by decide +kernel
theorem d_prog_3_7_30 : decode prog_3_method_7_code 30 = .ok (.iload_n 0, 1) := by decide +kernel
theorem d_prog_3_7_31 : decode prog_3_method_7_code 31 = .ok (.bipush 57, 2) := by decide +kernel
theorem d_prog_3_7_33 : decode prog_3_method_7_code 33 = .ok (.if_icmp .le 21, 3) := by decide +kernel
theorem d_prog_3_7_36 : decode prog_3_method_7_code 36 = .ok (.iload_n 0, 1) := by decide +kernel
theorem d_prog_3_7_37 : decode prog_3_method_7_code 37 = .ok (.bipush 45, 2) := by decide +kernel
theorem d_prog_3_7_39 : decode prog_3_method_7_code 39 = .ok (.if_icmp .eq 15, 3) := by decide +kernel
theorem d_prog_3_7_42 : decode prog_3_method_7_code 42 = .ok (.iload_n 0, 1) := by decide +kernel
theorem d_prog_3_7_43 : decode prog_3_method_7_code 43 = .ok (.bipush 95, 2) := by decide +kernel
theorem d_prog_3_7_45 : decode prog_3_method_7_code 45 = .ok (.if_icmp .eq 9, 3) := by decide +kernel
theorem d_prog_3_7_48 : decode prog_3_method_7_code 48 = .ok (.iload_n 0, 1) := by decide +kernel
theorem d_prog_3_7_49 : decode prog_3_method_7_code 49 = .ok (.bipush 46, 2) := by decide +kernel
theorem d_prog_3_7_51 : decode prog_3_method_7_code 51 = .ok (.if_icmp .ne 7, 3) := by decide +kernel
theorem d_prog_3_7_54 : decode prog_3_method_7_code 54 = .ok (.iconst 1, 1) := by decide +kernel
theorem d_prog_3_7_55 : decode prog_3_method_7_code 55 = .ok (.goto 4, 3) := by decide +kernel
theorem d_prog_3_7_59 : decode prog_3_method_7_code 59 = .ok (.ireturn, 1) := by decide +kernel
theorem pd_0 : parseMethodDescriptor "([CI[BII)I" = some ⟨[(.array .char), .int, (.array .byte), .int, .int], some .int⟩ := by decide +kernel
theorem pd_1 : parseMethodDescriptor "([CII)[B" = some ⟨[(.array .char), .int, .int], some (.array .byte)⟩ := by decide +kernel
theorem pd_2 : parseMethodDescriptor "([BI)B" = some ⟨[(.array .byte), .int], some .byte⟩ := by decide +kernel
theorem pd_3 : parseMethodDescriptor "([CIILjava/lang/Void;)V" = some ⟨[(.array .char), .int, .int, (.object "java/lang/Void")], none⟩ := by decide +kernel
theorem pd_4 : parseMethodDescriptor "()B" = some ⟨[], some .byte⟩ := by decide +kernel
theorem pd_5 : parseMethodDescriptor "(IILjava/util/function/BiFunction;)I" = some ⟨[.int, .int, (.object "java/util/function/BiFunction")], some .int⟩ := by decide +kernel
theorem pd_6 : parseMethodDescriptor "(II)V" = some ⟨[.int, .int], none⟩ := by decide +kernel
theorem pd_7 : parseMethodDescriptor "()Z" = some ⟨[], some .boolean⟩ := by decide +kernel
theorem pd_8 : parseMethodDescriptor "([BI)C" = some ⟨[(.array .byte), .int], some .char⟩ := by decide +kernel
theorem pd_9 : parseMethodDescriptor "()I" = some ⟨[], some .int⟩ := by decide +kernel
theorem pd_10 : parseMethodDescriptor "(I)C" = some ⟨[.int], some .char⟩ := by decide +kernel
theorem pd_11 : parseMethodDescriptor "(C)Z" = some ⟨[.char], some .boolean⟩ := by decide +kernel
theorem pd_12 : parseMethodDescriptor "([C)V" = some ⟨[(.array .char)], none⟩ := by decide +kernel
theorem pd_13 : parseMethodDescriptor "(Ljava/lang/String;)Ljava/lang/String;" = some ⟨[(.object "java/lang/String")], some (.object "java/lang/String")⟩ := by decide +kernel
theorem pd_14 : parseMethodDescriptor "(CCCC)[C" = some ⟨[.char, .char, .char, .char], some (.array .char)⟩ := by decide +kernel
theorem pn_0 : plainName "java/lang/StringUTF16" = true := by first | (simp [plainName, overriddenIn]; done) | decide +kernel
theorem pn_1 : plainName "java/lang/String" = true := by first | (simp [plainName, overriddenIn]; done) | decide +kernel
theorem pn_2 : plainName "jdk/internal/util/Preconditions" = true := by first | (simp [plainName, overriddenIn]; done) | decide +kernel
theorem pn_3 : plainName "java/lang/StringLatin1" = true := by first | (simp [plainName, overriddenIn]; done) | decide +kernel
theorem pn_4 : plainName "com/example/grapple/grapple/internal/LimitsCheckKeyPrefixPinLaw" = true := by first | (simp [plainName, overriddenIn]; done) | decide +kernel
theorem pn_5 : plainName "com/example/grapple/grapple/internal/Limits" = true := by first | (simp [plainName, overriddenIn]; done) | decide +kernel
theorem own_t26 : (26 : Int32).toInt = 26 := rfl
theorem own_t45 : (45 : Int32).toInt = 45 := rfl
theorem own_t46 : (46 : Int32).toInt = 46 := rfl
theorem own_t48 : (48 : Int32).toInt = 48 := rfl
theorem own_t52 : (52 : Int32).toInt = 52 := rfl
theorem own_t57 : (57 : Int32).toInt = 57 := rfl
theorem own_t62 : (62 : Int32).toInt = 62 := rfl
theorem own_t63 : (63 : Int32).toInt = 63 := rfl
theorem own_t65 : (65 : Int32).toInt = 65 := rfl
theorem own_t90 : (90 : Int32).toInt = 90 := rfl
theorem own_t95 : (95 : Int32).toInt = 95 := rfl
theorem own_t97 : (97 : Int32).toInt = 97 := rfl
theorem own_t122 : (122 : Int32).toInt = 122 := rfl
theorem own_t0 : (0 : Int32).toInt = 0 := rfl
theorem own_all0 {P : Int32 → Prop} : ∀ c ∈ ([] : List Int32), P c := fun _ q => nomatch q
theorem own_allS {P : Int32 → Prop} {a : Int32} {L : List Int32} (q : P a) (r : ∀ c ∈ L, P c) : ∀ c ∈ a :: L, P c := fun x z => (List.mem_cons.mp z).elim (fun u => u ▸ q) (r x)
def latB (c : Int32) : Value := .int c.toInt8.toInt32
/-- the object at a is a Latin-1 String of the chars cs; its bytes lie at b -/
def SL (Z : State) (h : Heap) (a b : Nat) (cs : List Int32) : Prop := Exa Z h a "java/lang/String" ∧ Fld Z h a "java/lang/String" "coder" "B" (.int 0) ∧ Fld Z h a "java/lang/String" "value" "[B" (.ref b) ∧ Ary Z h b .byte (cs.map latB) ∧ ∀ c ∈ cs, 0 ≤ c.toInt ∧ c.toInt ≤ 255
theorem SL.keep {Z : State} {h h' : Heap} {a b : Addr} {cs : List Int32} {ws : List Addr} (S : SL Z h a b cs) (K : Keep h h' ws) (qa : a ∉ ws) (qb : b ∉ ws) : SL Z h' a b cs := by
  obtain ⟨E, F1, F2, V, q⟩ := S
  exact ⟨E.keep K, F1.keep K qa, F2.keep K qa, V.keep K qb, q⟩
theorem SL.lt {Z : State} {h : Heap} {a b : Addr} {cs : List Int32} (S : SL Z h a b cs) : a < h.size := S.1.lt
theorem SL.ltb {Z : State} {h : Heap} {a b : Addr} {cs : List Int32} (S : SL Z h a b cs) : b < h.size := S.2.2.2.1.lt
theorem own_b8 (c : Int32) : c.toInt8.toInt32.toInt8.toInt32 = c.toInt8.toInt32 := by simp
theorem own_toInt {n : Nat} (h : n < 2 ^ 31) : n.toInt32.toInt = n := len_toInt h
theorem own_ltn {i n : Nat} (h : i < n) (hn : n < 2 ^ 31) : i.toInt32 < n.toInt32 := by
  rw [Int32.lt_iff_toInt_lt, own_toInt (by omega), own_toInt hn]; omega
theorem own_nltn {i n : Nat} (h : n ≤ i) (hn : i < 2 ^ 31) : ¬ i.toInt32 < n.toInt32 := by
  rw [Int32.lt_iff_toInt_lt, own_toInt hn, own_toInt (by omega)]; omega
theorem own_nneg {n : Nat} (hn : n < 2 ^ 31) : ¬ n.toInt32 < 0 := by
  rw [Int32.lt_iff_toInt_lt, own_toInt hn]; simp
theorem own_succ (i : Nat) : i.toInt32 + Int32.ofInt 1 = (i + 1).toInt32 := by
  show Int32.ofNat i + Int32.ofInt 1 = Int32.ofNat (i + 1)
  rw [Int32.ofNat_add]; rfl
theorem own_fill {cs : List Int32} {bs : List Value} {i : Nat} {c : Int32} (hl : bs.length = cs.length) (hc : cs[i]? = some c) : ((cs.take i).map latB ++ bs.drop i).set i (latB c) = (cs.take (i + 1)).map latB ++ bs.drop (i + 1) := by
  have hi : i < cs.length := (List.getElem?_eq_some_iff.mp hc).1
  have e1 : ((cs.take i).map latB).length = i := by simp; omega
  have e2 : bs.drop i = bs[i] :: bs.drop (i + 1) := List.drop_eq_getElem_cons (by omega)
  have e3 : cs.take (i + 1) = cs.take i ++ [c] := by rw [List.take_add_one, hc]; rfl
  rw [List.set_append_right _ _ (by omega), e1, e2, e3, Nat.sub_self, List.set_cons_zero, List.map_append, List.append_assoc]
  rfl
theorem own_back (c : Int32) (h : 0 ≤ c.toInt ∧ c.toInt ≤ 255) : nar .char (c.toInt8.toInt32 &&& 255).toUInt32.toUInt16.toUInt32.toInt32 = c := by
  have e : ∀ n : Fin 256, nar .char ((Int32.ofNat n.1).toInt8.toInt32 &&& 255).toUInt32.toUInt16.toUInt32.toInt32 = Int32.ofNat n.1 := by decide +kernel
  have q : c = Int32.ofNat c.toInt.toNat := by
    apply Int32.toInt_inj.mp
    rw [show Int32.ofNat c.toInt.toNat = c.toInt.toNat.toInt32 from rfl, own_toInt (by omega)]; omega
  rw [q]
  exact e ⟨c.toInt.toNat, by omega⟩
theorem own_csub (n : Int32) : (((n - n).toUInt32 >>> ((31 : Int32) &&& 31).toUInt32).toInt32).toInt8.toInt32 = 0 := by
  rw [Int32.sub_self]; decide
theorem own_nchar {c : Int32} (h : 0 ≤ c.toInt ∧ c.toInt < 65536) : nar .char c = c := by
  have q := c_i2c c
  apply Int32.toInt_inj.mp
  show c.toUInt32.toUInt16.toUInt32.toInt32.toInt = c.toInt
  omega
/-- the JDK's statics that String's methods read -/
def SEnv (Z : State) (cc : Int32) (fm : Value) : Prop := Sta Z Z.heap "java/lang/String" "COMPACT_STRINGS" "Z" (.int cc) ∧ ¬ cc = 0 ∧ Sta Z Z.heap "jdk/internal/util/Preconditions" "SIOOBE_FORMATTER" "Ljava/util/function/BiFunction;" fm ∧ fm.isRef = true
set_option maxRecDepth 65536 in
set_option maxHeartbeats 40000000 in
theorem c_compr (l : Launch) (Z : State) (a0 : Array Value) (hw : ∀ d ∈ tables_1, d.before a0 Z = true) (hE : EW Z a0 ([] : List (String × Nat))) (ca ba : Nat) (cs : List Int32) (bs : List Value) (h0 : Heap) (O : Ext Z.heap h0) (hn : cs.length ≤ 50) (hch : ∀ c ∈ cs, 0 ≤ c.toInt ∧ c.toInt ≤ 255) (VA : Ary Z h0 ca .char (cs.map Value.int)) (VB : Ary Z h0 ba .byte bs) (hbl : bs.length = cs.length) (hne : ca ≠ ba) (hz : Z.heap.size ≤ ba) :
    Con l Z ([] : List (String × Nat)) (⟨"java/lang/StringUTF16", "compress", "([CI[BII)I"⟩ : MethodName) jdk_52_method_21_code 7 (Option.some Jvm.ClassFile.FieldType.int) ({ frames := 0, cells := 0, slots := 0, locals := 0 } : Room) #[(.ref ca), (.int (0 : Int32)), (.ref ba), (.int (0 : Int32)), (.int cs.length.toInt32)] h0 [ba] (fun v h => v = some (.int cs.length.toInt32) ∧ Ary Z h ba .byte (cs.map latB)) := by
  refine Con.of (a0 := a0) #[.val (.ref ca), .val (.int (0 : Int32)), .val (.ref ba), .val (.int (0 : Int32)), .val (.int cs.length.toInt32), .unset, .unset] (plainFor_of_name pn_0) hE O (allS ⟨hz, VB.lt⟩ all0) (fun m => by first | (simp [entryFrame, mkF, argsToLocals, Value.category]; done) | rfl) ?_
  intro p e s m below meth c T0 hx hby hml hnm hret hlk hh W0
  have hn31 : cs.length < 2 ^ 31 := by omega
  refine g_iconst (0 : Int32) (pc' := 1) W0.here hx (hb hby d_jdk_52_21_0) rfl rfl ?_
  refine g_istore (pc' := 3) (Ls' := #[.val (.ref ca), .val (.int (0 : Int32)), .val (.ref ba), .val (.int (0 : Int32)), .val (.int cs.length.toInt32), .val (.int (0 : Int32)), .unset]) W0.here hx (hb hby d_jdk_52_21_1) rfl rfl ?_
  have LOOP : ∀ (k i : Nat), i + k = cs.length → ∀ (TL : State) (hL : Heap) (o6 : Slot), One o6 → Wk p l e ({ frames := 0, cells := 0, slots := 0, locals := 0 } : Room) s m #[(.ref ca), (.int (0 : Int32)), (.ref ba), (.int (0 : Int32)), (.int cs.length.toInt32)] below meth c Z ([] : List (String × Nat)) "java/lang/StringUTF16" [ba] [] TL hL 0 0 → Keep h0 hL [ba] → Ary Z hL ba .byte ((cs.take i).map latB ++ bs.drop i) → Gets p.tables e below (Post s Z ([] : List (String × Nat)) ({ frames := 0, cells := 0, slots := 0, locals := 0 } : Room) h0 [ba] (fun v h => v = some (.int cs.length.toInt32) ∧ Ary Z h ba .byte (cs.map latB))) TL (mkF m 3 #[.val (.ref ca), .val (.int i.toInt32), .val (.ref ba), .val (.int i.toInt32), .val (.int cs.length.toInt32), .val (.int i.toInt32), o6] []) := by
    intro k
    induction k with
    | zero =>
      intro i hi TL hL o6 ho6 WL KL VBL
      have VAL := VA.keep KL (ninS hne nin0)
      refine g_iload (pc' := 5) WL.here hx (hb hby d_jdk_52_21_3) rfl rfl ?_
      refine g_iload (pc' := 7) WL.here hx (hb hby d_jdk_52_21_5) rfl rfl ?_
      refine g_icmpY (pc' := 44) WL.here hx (hb hby d_jdk_52_21_7) rfl (flt (show ¬ (i.toInt32 < cs.length.toInt32) from (own_nltn (by omega) (by omega)))).2.1 ?_
      refine g_iload (pc' := 46) WL.here hx (hb hby d_jdk_52_21_44) rfl rfl ?_
      refine w_retI WL hx hh hlk hret (hb hby d_jdk_52_21_46) (Nat.le_of_ble_eq_true rfl) (Nat.le_of_ble_eq_true rfl) ?_
      have e1 : i = cs.length := by omega
      subst e1
      rw [List.take_length, List.drop_eq_nil_of_le (by omega), List.append_nil] at VBL
      exact ⟨rfl, VBL⟩
    | succ k ih =>
      intro i hi TL hL o6 ho6 WL KL VBL
      have VAL := VA.keep KL (ninS hne nin0)
      have hi2 : i < cs.length := by omega
      obtain ⟨ci, hci⟩ : ∃ ci, cs[i]? = some ci := ⟨_, List.getElem?_eq_getElem hi2⟩
      have hcm : ci ∈ cs := List.mem_of_getElem? hci
      have hcr := hch ci hcm
      refine g_iload (pc' := 5) WL.here hx (hb hby d_jdk_52_21_3) rfl rfl ?_
      refine g_iload (pc' := 7) WL.here hx (hb hby d_jdk_52_21_5) rfl rfl ?_
      refine g_icmpN (pc' := 10) WL.here hx (hb hby d_jdk_52_21_7) rfl (tlt (show i.toInt32 < cs.length.toInt32 from (own_ltn hi2 hn31))).2.1 ?_
      refine g_aloadN (pc' := 11) WL.here hx (hb hby d_jdk_52_21_10) rfl rfl rfl ?_
      refine g_iloadN (pc' := 12) WL.here hx (hb hby d_jdk_52_21_11) rfl rfl ?_
      refine w_caload (pc' := 13) (v := (.int ci)) WL hx VAL (own_nneg (by omega)) (by rw [i32_nat (by omega), List.getElem?_map, hci]; rfl) (hb hby d_jdk_52_21_12) rfl ?_
      refine g_istore (pc' := 15) (Ls' := #[.val (.ref ca), .val (.int i.toInt32), .val (.ref ba), .val (.int i.toInt32), .val (.int cs.length.toInt32), .val (.int i.toInt32), .val (.int ci)]) WL.here hx (hb hby d_jdk_52_21_13) (XS.store1 (o := o6) rfl ho6 rfl) rfl ?_
      refine g_iload (pc' := 17) WL.here hx (hb hby d_jdk_52_21_15) rfl rfl ?_
      refine g_sipush (255 : Int32) (pc' := 20) WL.here hx (hb hby d_jdk_52_21_17) rfl rfl ?_
      refine g_icmpY (pc' := 26) WL.here hx (hb hby d_jdk_52_21_20) rfl (flt (show ¬ ((255 : Int32) < ci) from (by rw [Int32.lt_iff_toInt_lt]; have : (255 : Int32).toInt = 255 := rfl; omega))).2.2.2 ?_
      refine g_aloadN (pc' := 27) WL.here hx (hb hby d_jdk_52_21_26) rfl rfl rfl ?_
      refine g_iloadN (pc' := 28) WL.here hx (hb hby d_jdk_52_21_27) rfl rfl ?_
      refine g_iload (pc' := 30) WL.here hx (hb hby d_jdk_52_21_28) rfl rfl ?_
      refine g_i2b (pc' := 31) WL.here hx (hb hby d_jdk_52_21_30) rfl ?_
      refine w_bastore (pc' := 32) (x' := ci.toInt8.toInt32) WL hx VBL (own_nneg (by omega)) (by rw [i32_nat (by omega)]; simp; omega) (List.mem_of_getElem? (i := 0) rfl) (own_b8 ci) (hb hby d_jdk_52_21_31) rfl fun T1 h1 W1 K1 V1 => ?_
      have z_K1 : hL.size ≤ h1.size := K1.1
      have V1 : Ary Z h1 ba .byte ((cs.take (i + 1)).map latB ++ bs.drop (i + 1)) := by rw [i32_nat (by omega)] at V1; rw [← own_fill hbl hci]; exact V1
      refine g_iincV (i + 1).toInt32 (pc' := 35) (Ls' := #[.val (.ref ca), .val (.int (i + 1).toInt32), .val (.ref ba), .val (.int i.toInt32), .val (.int cs.length.toInt32), .val (.int i.toInt32), .val (.int ci)]) W1.here hx (hb hby d_jdk_52_21_32) (own_succ i) rfl rfl rfl ?_
      refine g_iincV (i + 1).toInt32 (pc' := 38) (Ls' := #[.val (.ref ca), .val (.int (i + 1).toInt32), .val (.ref ba), .val (.int (i + 1).toInt32), .val (.int cs.length.toInt32), .val (.int i.toInt32), .val (.int ci)]) W1.here hx (hb hby d_jdk_52_21_35) (own_succ i) rfl rfl rfl ?_
      refine g_iincV (i + 1).toInt32 (pc' := 41) (Ls' := #[.val (.ref ca), .val (.int (i + 1).toInt32), .val (.ref ba), .val (.int (i + 1).toInt32), .val (.int cs.length.toInt32), .val (.int (i + 1).toInt32), .val (.int ci)]) W1.here hx (hb hby d_jdk_52_21_38) (own_succ i) rfl rfl rfl ?_
      refine g_goto (pc' := 3) W1.here hx (hb hby d_jdk_52_21_41) rfl ?_
      exact ih (i + 1) (by omega) _ _ _ (One.val rfl) W1 (KL.trans K1 (fun x q => Or.inl q)) V1
  exact LOOP cs.length 0 (by omega) _ _ _ One.u W0 (Keep.refl _ _) (by simpa using VB)
set_option maxRecDepth 65536 in
set_option maxHeartbeats 40000000 in
theorem c_compress (l : Launch) (Z : State) (a0 : Array Value) (hw : ∀ d ∈ tables_1, d.before a0 Z = true) (hE : EW Z a0 ([] : List (String × Nat))) (ca : Nat) (cs : List Int32) (h0 : Heap) (O : Ext Z.heap h0) (hn : cs.length ≤ 50) (hch : ∀ c ∈ cs, 0 ≤ c.toInt ∧ c.toInt ≤ 255) (VA : Ary Z h0 ca .char (cs.map Value.int))  :
    Con l Z ([] : List (String × Nat)) (⟨"java/lang/StringUTF16", "compress", "([CII)[B"⟩ : MethodName) jdk_52_method_16_code 6 (Option.some (Jvm.ClassFile.FieldType.array Jvm.ClassFile.FieldType.byte)) ({ frames := 1, cells := 1, slots := 50, locals := 18 } : Room) #[(.ref ca), (.int (0 : Int32)), (.int cs.length.toInt32)] h0 [] (fun v h => ∃ ba : Nat, v = some (.ref ba) ∧ h0.size ≤ ba ∧ Ary Z h ba .byte (cs.map latB)) := by
  refine Con.of (a0 := a0) #[.val (.ref ca), .val (.int (0 : Int32)), .val (.int cs.length.toInt32), .unset, .unset, .unset] (plainFor_of_name pn_0) hE O all0 (fun m => by first | (simp [entryFrame, mkF, argsToLocals, Value.category]; done) | rfl) ?_
  intro p e s m below meth c T0 hx hby hml hnm hret hlk hh W0
  have hn31 : cs.length < 2 ^ 31 := by omega
  have lt_ca : ca < h0.size := VA.lt
  refine g_iloadN (pc' := 1) W0.here hx (hb hby d_jdk_52_16_0) rfl rfl ?_
  refine w_newarr (pc' := 3) (cap := 50) W0 hx (hw _ (List.mem_of_getElem? w_24)) (hb hby d_jdk_52_16_1) (own_nneg hn31) (by rw [i32_nat hn31]; exact hn) (Nat.le_of_ble_eq_true rfl) (Nat.le_of_ble_eq_true rfl) (Nat.le_of_ble_eq_true rfl) rfl rfl fun T2 h2 b2 g2 W2 K2 V2 => ?_
  have z_K2 : h0.size ≤ h2.size := K2.1
  have ne_ca_b2 : ca ≠ b2 := by omega
  have lt_b2 : b2 < h2.size := W2.lt (List.mem_cons_self ..)
  have V3 : Ary Z h2 b2 .byte (List.replicate cs.length (.int 0)) := by rw [i32_nat hn31] at V2; exact V2
  refine g_astoreN (pc' := 4) (Ls' := #[.val (.ref ca), .val (.int (0 : Int32)), .val (.int cs.length.toInt32), .val (.ref b2), .unset, .unset]) W2.here hx (hb hby d_jdk_52_16_3) rfl rfl rfl ?_
  refine g_aloadN (pc' := 5) W2.here hx (hb hby d_jdk_52_16_4) rfl rfl rfl ?_
  refine g_iloadN (pc' := 6) W2.here hx (hb hby d_jdk_52_16_5) rfl rfl ?_
  refine g_aloadN (pc' := 7) W2.here hx (hb hby d_jdk_52_16_6) rfl rfl rfl ?_
  refine g_iconst (0 : Int32) (pc' := 8) W2.here hx (hb hby d_jdk_52_16_7) rfl rfl ?_
  refine g_iloadN (pc' := 9) W2.here hx (hb hby d_jdk_52_16_8) rfl rfl ?_
  have c4 := (VA.keep K2 nin0)
  refine w_callS (pc' := 12) (st := []) (y := (⟨"java/lang/StringUTF16", "compress", "([CI[BII)I"⟩ : MethodName)) W2 hx [(.ref ca), (.int (0 : Int32)), (.ref b2), (.int (0 : Int32)), (.int cs.length.toInt32)] (hw _ (List.mem_of_getElem? w_25)) (hw _ (List.mem_of_getElem? w_26)) (hw _ (List.mem_of_getElem? w_22)) (hw _ (List.mem_of_getElem? w_27)) (by decide) (c_compr l Z a0 hw hE ca b2 cs _ h2 W2.old hn hch c4 V3 (by simp) ne_ca_b2 (by have := O.1; omega)) (allS (List.mem_of_getElem? (i := 0) rfl) all0) (by rw [hml]; rfl) (lenOf pd_0 rfl) rfl (hb hby d_jdk_52_16_9) (Nat.le_of_ble_eq_true rfl) (Nat.le_of_ble_eq_true rfl) (Nat.le_of_ble_eq_true rfl) (Nat.le_of_ble_eq_true rfl) rfl fun v5 T5 h5 W5 K5 Q5 => ?_
  have z_K5 : h2.size ≤ h5.size := K5.1
  obtain ⟨rfl, V6⟩ := Q5
  refine g_istore (pc' := 14) (Ls' := #[.val (.ref ca), .val (.int (0 : Int32)), .val (.int cs.length.toInt32), .val (.ref b2), .val (.int cs.length.toInt32), .unset]) W5.here hx (hb hby d_jdk_52_16_12) rfl rfl ?_
  refine g_iload (pc' := 16) W5.here hx (hb hby d_jdk_52_16_14) rfl rfl ?_
  refine g_iloadN (pc' := 17) W5.here hx (hb hby d_jdk_52_16_16) rfl rfl ?_
  refine g_icmpY (pc' := 57) W5.here hx (hb hby d_jdk_52_16_17) rfl (teq (show cs.length.toInt32 = cs.length.toInt32 from rfl)).1 ?_
  refine g_aloadN (pc' := 58) W5.here hx (hb hby d_jdk_52_16_57) rfl rfl rfl ?_
  refine w_retA W5 hx hh hlk hret rfl rfl (hb hby d_jdk_52_16_58) (Nat.le_of_ble_eq_true rfl) (Nat.le_of_ble_eq_true rfl) ?_
  exact ⟨_, rfl, by omega, V6⟩
set_option maxRecDepth 65536 in
set_option maxHeartbeats 40000000 in
theorem c_coderFrom (l : Launch) (Z : State) (a0 : Array Value) (hw : ∀ d ∈ tables_1, d.before a0 Z = true) (hE : EW Z a0 ([] : List (String × Nat))) (ba : Nat) (cs : List Int32) (bs : List Value) (h0 : Heap) (O : Ext Z.heap h0) (VB : Ary Z h0 ba .byte bs) (hbl : bs.length = cs.length) :
    Con l Z ([] : List (String × Nat)) (⟨"java/lang/StringUTF16", "coderFromArrayLen", "([BI)B"⟩ : MethodName) jdk_52_method_15_code 2 (Option.some Jvm.ClassFile.FieldType.byte) ({ frames := 0, cells := 0, slots := 0, locals := 0 } : Room) #[(.ref ba), (.int cs.length.toInt32)] h0 [] (pureQ (some (.int 0)) h0) := by
  refine Con.of (a0 := a0) #[.val (.ref ba), .val (.int cs.length.toInt32)] (plainFor_of_name pn_0) hE O all0 (fun m => by first | (simp [entryFrame, mkF, argsToLocals, Value.category]; done) | rfl) ?_
  intro p e s m below meth c T0 hx hby hml hnm hret hlk hh W0
  refine g_iloadN (pc' := 1) W0.here hx (hb hby d_jdk_52_15_0) rfl rfl ?_
  refine g_aloadN (pc' := 2) W0.here hx (hb hby d_jdk_52_15_1) rfl rfl rfl ?_
  refine w_len (pc' := 3) W0 hx VB (hb hby d_jdk_52_15_2) rfl ?_
  refine g_name (w := .int cs.length.toInt32) (congrArg Value.int (by rw [hbl])) ?_
  refine g_isub (pc' := 4) W0.here hx (hb hby d_jdk_52_15_3) rfl ?_
  refine g_bipush (31 : Int32) (pc' := 6) W0.here hx (hb hby d_jdk_52_15_4) rfl rfl ?_
  refine g_iushr (pc' := 7) W0.here hx (hb hby d_jdk_52_15_6) rfl ?_
  refine g_i2b (pc' := 8) W0.here hx (hb hby d_jdk_52_15_7) rfl ?_
  refine w_retN (t := .byte) W0 hx hh hlk hret (by simp) (hb hby d_jdk_52_15_8) (Nat.le_of_ble_eq_true rfl) (Nat.le_of_ble_eq_true rfl) ?_
  exact ⟨congrArg (fun z => some (Value.int z)) (by rw [own_csub]; rfl), rfl⟩
theorem own_pos0 {n : Nat} (h : 0 < n) (hn : n < 2 ^ 31) : ¬ n.toInt32 = 0 := fun q => by
  have := congrArg Int32.toInt q
  rw [own_toInt hn] at this
  simp at this; omega
theorem own_nil {cs : List Int32} (hn : cs.length < 2 ^ 31) (q : cs.length.toInt32 = (0 : Int32)) : cs = [] := by
  cases cs with
  | nil => rfl
  | cons a t => exact absurd q (own_pos0 (by simp) hn)
set_option maxRecDepth 65536 in
set_option maxHeartbeats 40000000 in
theorem c_str4 (l : Launch) (Z : State) (a0 : Array Value) (hw : ∀ d ∈ tables_1, d.before a0 Z = true) (hE : EW Z a0 ([] : List (String × Nat))) (cc : Int32) (fm : Value) (o ca : Nat) (cs : List Int32) (h0 : Heap) (O : Ext Z.heap h0) (G : SEnv Z cc fm) (hpos : 0 < cs.length) (hn : cs.length ≤ 50) (hch : ∀ c ∈ cs, 0 ≤ c.toInt ∧ c.toInt ≤ 255) (VA : Ary Z h0 ca .char (cs.map Value.int)) (hz : Z.heap.size ≤ o) (E0 : Exa Z h0 o "java/lang/String") (u1 u2 : Value) (F1 : Fld Z h0 o "java/lang/String" "coder" "B" u1) (F2 : Fld Z h0 o "java/lang/String" "value" "[B" u2) (hoc : o ≠ ca)  :
    Con l Z ([] : List (String × Nat)) (⟨"java/lang/String", "<init>", "([CIILjava/lang/Void;)V"⟩ : MethodName) jdk_42_method_149_code 6 (Option.none : Option Jvm.ClassFile.FieldType) ({ frames := 2, cells := 1, slots := 50, locals := 35 } : Room) #[(.ref o), (.ref ca), (.int (0 : Int32)), (.int cs.length.toInt32), .null] h0 [o] (fun v h => v = none ∧ ∃ b : Nat, SL Z h o b cs) := by
  refine Con.of (a0 := a0) #[.val (.ref o), .val (.ref ca), .val (.int (0 : Int32)), .val (.int cs.length.toInt32), .val .null, .unset] (plainFor_of_name pn_1) hE O (allS ⟨hz, E0.lt⟩ all0) (fun m => by first | (simp [entryFrame, mkF, argsToLocals, Value.category]; done) | rfl) ?_
  intro p e s m below meth c T0 hx hby hml hnm hret hlk hh W0
  have hn31 : cs.length < 2 ^ 31 := by omega
  have lt_ca : ca < h0.size := VA.lt
  have lt_o : o < h0.size := E0.lt
  refine g_aloadN (pc' := 1) W0.here hx (hb hby d_jdk_42_149_0) rfl rfl rfl ?_
  refine w_initO (pc' := 4) W0 hx (hw _ (List.mem_of_getElem? w_16)) (hw _ (List.mem_of_getElem? w_17)) (hw _ (List.mem_of_getElem? w_18)) (by rw [hml]; rfl) (hb hby d_jdk_42_149_1) (Nat.le_of_ble_eq_true rfl) (Nat.le_of_ble_eq_true rfl) rfl fun T7 W7 => ?_
  refine g_iloadN (pc' := 5) W7.here hx (hb hby d_jdk_42_149_4) rfl rfl ?_
  refine g_ifY (pc' := 27) W7.here hx (hb hby d_jdk_42_149_5) rfl (feq (show ¬ (cs.length.toInt32 = (0 : Int32)) from (own_pos0 hpos hn31))).2 ?_
  refine w_getS (pc' := 30) W7 hx (hw _ (List.mem_of_getElem? w_19)) Via.refl G.1 (hb hby d_jdk_42_149_27) rfl fun T8 W8 => ?_
  refine g_ifN (pc' := 33) W8.here hx (hb hby d_jdk_42_149_30) rfl (feq (show ¬ (cc = (0 : Int32)) from G.2.1)).1 ?_
  refine g_aloadN (pc' := 34) W8.here hx (hb hby d_jdk_42_149_33) rfl rfl rfl ?_
  refine g_iloadN (pc' := 35) W8.here hx (hb hby d_jdk_42_149_34) rfl rfl ?_
  refine g_iloadN (pc' := 36) W8.here hx (hb hby d_jdk_42_149_35) rfl rfl ?_
  refine w_callS (pc' := 39) (st := []) (y := (⟨"java/lang/StringUTF16", "compress", "([CII)[B"⟩ : MethodName)) W8 hx [(.ref ca), (.int (0 : Int32)), (.int cs.length.toInt32)] (hw _ (List.mem_of_getElem? w_20)) (hw _ (List.mem_of_getElem? w_21)) (hw _ (List.mem_of_getElem? w_22)) (hw _ (List.mem_of_getElem? w_23)) (by decide) (c_compress l Z a0 hw hE ca cs h0 W8.old hn hch VA) all0 (by rw [hml]; rfl) (lenOf pd_1 rfl) rfl (hb hby d_jdk_42_149_36) (Nat.le_of_ble_eq_true rfl) (Nat.le_of_ble_eq_true rfl) (Nat.le_of_ble_eq_true rfl) (Nat.le_of_ble_eq_true rfl) rfl fun v9 T9 h9 W9 K9 Q9 => ?_
  have z_K9 : h0.size ≤ h9.size := K9.1
  obtain ⟨ba10, rfl, gz10, V10⟩ := Q9
  have ne_ca_ba10 : ca ≠ ba10 := by omega
  have ne_o_ba10 : o ≠ ba10 := by omega
  have lt_ba10 : ba10 < h9.size := V10.lt
  refine g_astore (pc' := 41) (Ls' := #[.val (.ref o), .val (.ref ca), .val (.int (0 : Int32)), .val (.int cs.length.toInt32), .val .null, .val (.ref ba10)]) W9.here hx (hb hby d_jdk_42_149_39) rfl rfl rfl ?_
  refine g_aloadN (pc' := 42) W9.here hx (hb hby d_jdk_42_149_41) rfl rfl rfl ?_
  refine g_aload (pc' := 44) W9.here hx (hb hby d_jdk_42_149_42) rfl rfl rfl ?_
  refine g_iloadN (pc' := 45) W9.here hx (hb hby d_jdk_42_149_44) rfl rfl ?_
  refine w_callSp (pc' := 48) (st := [(.ref o)]) (y := (⟨"java/lang/StringUTF16", "coderFromArrayLen", "([BI)B"⟩ : MethodName)) W9 hx [(.ref ba10), (.int cs.length.toInt32)] (hw _ (List.mem_of_getElem? w_28)) (hw _ (List.mem_of_getElem? w_29)) (hw _ (List.mem_of_getElem? w_22)) (hw _ (List.mem_of_getElem? w_30)) (by decide) (c_coderFrom l Z a0 hw hE ba10 cs _ h9 W9.old V10 (by simp)) (by rw [hml]; rfl) (lenOf pd_2 rfl) rfl (hb hby d_jdk_42_149_45) (Nat.le_of_ble_eq_true rfl) (Nat.le_of_ble_eq_true rfl) rfl rfl (Nat.le_of_ble_eq_true rfl) (Nat.le_of_ble_eq_true rfl) rfl fun T11 W11 => ?_
  have c12 := (F1.keep K9 nin0)
  have c13 := (E0.keep K9)
  refine w_putN (pc' := 51) (v' := (.int (0 : Int32))) W11 hx (hw _ (List.mem_of_getElem? w_31)) Via.refl c12 c13 (Or.inr ⟨(hw _ (List.mem_of_getElem? w_32)), rfl, hnm⟩) (hw _ (List.mem_of_getElem? w_7)) (ty := .byte) (by decide) rfl rfl (List.mem_of_getElem? (i := 0) rfl) (hb hby d_jdk_42_149_48) rfl fun T14 h14 W14 K14 R14 F14 A14 => ?_
  have c15 := (F2.keep K9 nin0)
  have z_K14 : h9.size ≤ h14.size := K14.1
  have c16 := (c15.other R14 (Or.inr (slot_ne (Or.inr (hw _ (List.mem_of_getElem? w_34))) (Or.inr (hw _ (List.mem_of_getElem? w_32))) (by decide) (t := (.array .byte)) (t' := .byte) (by decide) (by decide))))
  refine g_aloadN (pc' := 52) W14.here hx (hb hby d_jdk_42_149_51) rfl rfl rfl ?_
  refine g_aload (pc' := 54) W14.here hx (hb hby d_jdk_42_149_52) rfl rfl rfl ?_
  refine w_put (pc' := 57) W14 hx (hw _ (List.mem_of_getElem? w_33)) Via.refl c16 A14 (Or.inr ⟨(hw _ (List.mem_of_getElem? w_34)), rfl, hnm⟩) (hw _ (List.mem_of_getElem? w_7)) (ty := (.array .byte)) (by decide) rfl rfl (List.mem_of_getElem? (i := 0) rfl) (hb hby d_jdk_42_149_54) rfl fun T17 h17 W17 K17 R17 F17 A17 => ?_
  have z_K17 : h14.size ≤ h17.size := K17.1
  have c18 := (F14.other R17 (Or.inr (slot_ne (Or.inr (hw _ (List.mem_of_getElem? w_32))) (Or.inr (hw _ (List.mem_of_getElem? w_34))) (by decide) (t := .byte) (t' := (.array .byte)) (by decide) (by decide))))
  have c19 := ((V10.keep K14 (ninS (Ne.symm ne_o_ba10) nin0)).keep K17 (ninS (Ne.symm ne_o_ba10) nin0))
  refine w_retV W17 hx hh hlk hret (hb hby d_jdk_42_149_57) (Nat.le_of_ble_eq_true rfl) (Nat.le_of_ble_eq_true rfl) ?_
  exact ⟨rfl, ba10, A17, c18, F17, c19, hch⟩
set_option maxRecDepth 65536 in
set_option maxHeartbeats 40000000 in
theorem c_strC (l : Launch) (Z : State) (a0 : Array Value) (hw : ∀ d ∈ tables_1, d.before a0 Z = true) (hE : EW Z a0 ([] : List (String × Nat))) (cc : Int32) (fm : Value) (o ca : Nat) (cs : List Int32) (h0 : Heap) (O : Ext Z.heap h0) (G : SEnv Z cc fm) (hpos : 0 < cs.length) (hn : cs.length ≤ 50) (hch : ∀ c ∈ cs, 0 ≤ c.toInt ∧ c.toInt ≤ 255) (VA : Ary Z h0 ca .char (cs.map Value.int)) (hz : Z.heap.size ≤ o) (E0 : Exa Z h0 o "java/lang/String") (u1 u2 : Value) (F1 : Fld Z h0 o "java/lang/String" "coder" "B" u1) (F2 : Fld Z h0 o "java/lang/String" "value" "[B" u2) (hoc : o ≠ ca)  :
    Con l Z ([] : List (String × Nat)) (⟨"java/lang/String", "<init>", "([C)V"⟩ : MethodName) jdk_42_method_3_code 2 (Option.none : Option Jvm.ClassFile.FieldType) ({ frames := 3, cells := 1, slots := 50, locals := 52 } : Room) #[(.ref o), (.ref ca)] h0 [o] (fun v h => v = none ∧ ∃ b : Nat, SL Z h o b cs) := by
  refine Con.of (a0 := a0) #[.val (.ref o), .val (.ref ca)] (plainFor_of_name pn_1) hE O (allS ⟨hz, E0.lt⟩ all0) (fun m => by first | (simp [entryFrame, mkF, argsToLocals, Value.category]; done) | rfl) ?_
  intro p e s m below meth c T0 hx hby hml hnm hret hlk hh W0
  have hn31 : cs.length < 2 ^ 31 := by omega
  have lt_ca : ca < h0.size := VA.lt
  have lt_o : o < h0.size := E0.lt
  refine g_aloadN (pc' := 1) W0.here hx (hb hby d_jdk_42_3_0) rfl rfl rfl ?_
  refine g_aloadN (pc' := 2) W0.here hx (hb hby d_jdk_42_3_1) rfl rfl rfl ?_
  refine g_iconst (0 : Int32) (pc' := 3) W0.here hx (hb hby d_jdk_42_3_2) rfl rfl ?_
  refine g_aloadN (pc' := 4) W0.here hx (hb hby d_jdk_42_3_3) rfl rfl rfl ?_
  refine w_len (pc' := 5) W0 hx VA (hb hby d_jdk_42_3_4) rfl ?_
  refine g_name (w := .int cs.length.toInt32) (congrArg Value.int (by rw [List.length_map])) ?_
  refine g_aconstNull (pc' := 6) W0.here hx (hb hby d_jdk_42_3_5) rfl ?_
  refine w_special (pc' := 9) (st := []) (y := (⟨"java/lang/String", "<init>", "([CIILjava/lang/Void;)V"⟩ : MethodName)) (a := o) W0 hx [(.ref ca), (.int (0 : Int32)), (.int cs.length.toInt32), .null] rfl (hw _ (List.mem_of_getElem? w_12)) (hw _ (List.mem_of_getElem? w_13)) (hw _ (List.mem_of_getElem? w_8)) (hw _ (List.mem_of_getElem? w_15)) (by decide) (c_str4 l Z a0 hw hE cc fm o ca cs h0 W0.old G hpos hn hch VA (by have := O.1; omega) E0 _ _ F1 F2 hoc) (allS (List.mem_of_getElem? (i := 0) rfl) all0) (by rw [hml]; rfl) (lenOf pd_3 rfl) rfl (hb hby d_jdk_42_3_6) (Nat.le_of_ble_eq_true rfl) (Nat.le_of_ble_eq_true rfl) (Nat.le_of_ble_eq_true rfl) (Nat.le_of_ble_eq_true rfl) rfl fun v20 T20 h20 W20 K20 Q20 => ?_
  have z_K20 : h0.size ≤ h20.size := K20.1
  obtain ⟨rfl, sb21, S21⟩ := Q20
  have ES21 := S21.1
  have lt_sb21 : sb21 < h20.size := S21.ltb
  refine w_retV W20 hx hh hlk hret (hb hby d_jdk_42_3_9) (Nat.le_of_ble_eq_true rfl) (Nat.le_of_ble_eq_true rfl) ?_
  exact ⟨rfl, _, S21⟩
set_option maxRecDepth 65536 in
set_option maxHeartbeats 40000000 in
theorem c_isEmpty (l : Launch) (Z : State) (a0 : Array Value) (hw : ∀ d ∈ tables_1, d.before a0 Z = true) (hE : EW Z a0 ([] : List (String × Nat))) (cc : Int32) (fm : Value) (a b : Nat) (cs : List Int32)  (h0 : Heap) (O : Ext Z.heap h0) (G : SEnv Z cc fm) (S0 : SL Z h0 a b cs)  :
    Con l Z ([] : List (String × Nat)) (⟨"java/lang/String", "isEmpty", "()Z"⟩ : MethodName) jdk_42_method_55_code 1 (Option.some Jvm.ClassFile.FieldType.boolean) ({ frames := 0, cells := 0, slots := 0, locals := 0 } : Room) #[(.ref a)] h0 [] (pureQ (some (.int (if cs = [] then 1 else 0))) h0) := by
  refine Con.of (a0 := a0) #[.val (.ref a)] (plainFor_of_name pn_1) hE O all0 (fun m => by first | (simp [entryFrame, mkF, argsToLocals, Value.category]; done) | rfl) ?_
  intro p e s m below meth c T0 hx hby hml hnm hret hlk hh W0
  obtain ⟨E_a, FC_a, FV_a, V_b, L_a⟩ := id S0
  have hlen : cs.length < 2 ^ 31 := by have := V_b.len; simpa using this
  refine g_aloadN (pc' := 1) W0.here hx (hb hby d_jdk_42_55_0) rfl rfl rfl ?_
  refine w_get (pc' := 4) W0 hx (hw _ (List.mem_of_getElem? w_33)) Via.refl FV_a (hb hby d_jdk_42_55_1) rfl fun T22 W22 => ?_
  refine w_len (pc' := 5) W22 hx V_b (hb hby d_jdk_42_55_4) rfl ?_
  refine g_name (w := .int cs.length.toInt32) (congrArg Value.int (by rw [List.length_map])) ?_
  by_cases hc5_23 : cs.length.toInt32 = (0 : Int32)
  · refine g_ifN (pc' := 8) W22.here hx (hb hby d_jdk_42_55_5) rfl (teq hc5_23).2 ?_
    refine g_iconst (1 : Int32) (pc' := 9) W22.here hx (hb hby d_jdk_42_55_8) rfl rfl ?_
    refine g_goto (pc' := 13) W22.here hx (hb hby d_jdk_42_55_9) rfl ?_
    refine w_retN (t := .boolean) W22 hx hh hlk hret (by simp) (hb hby d_jdk_42_55_13) (Nat.le_of_ble_eq_true rfl) (Nat.le_of_ble_eq_true rfl) ?_
    exact ⟨by rw [if_pos (own_nil hlen hc5_23)]; rfl, rfl⟩
  · refine g_ifY (pc' := 12) W22.here hx (hb hby d_jdk_42_55_5) rfl (feq hc5_23).2 ?_
    refine g_iconst (0 : Int32) (pc' := 13) W22.here hx (hb hby d_jdk_42_55_12) rfl rfl ?_
    refine w_retN (t := .boolean) W22 hx hh hlk hret (by simp) (hb hby d_jdk_42_55_13) (Nat.le_of_ble_eq_true rfl) (Nat.le_of_ble_eq_true rfl) ?_
    exact ⟨by rw [if_neg (fun q => hc5_23 (by rw [q]; rfl))]; rfl, rfl⟩
set_option maxRecDepth 65536 in
set_option maxHeartbeats 40000000 in
theorem c_coder (l : Launch) (Z : State) (a0 : Array Value) (hw : ∀ d ∈ tables_1, d.before a0 Z = true) (hE : EW Z a0 ([] : List (String × Nat))) (cc : Int32) (fm : Value) (a b : Nat) (cs : List Int32)  (h0 : Heap) (O : Ext Z.heap h0) (G : SEnv Z cc fm) (S0 : SL Z h0 a b cs)  :
    Con l Z ([] : List (String × Nat)) (⟨"java/lang/String", "coder", "()B"⟩ : MethodName) jdk_42_method_152_code 1 (Option.some Jvm.ClassFile.FieldType.byte) ({ frames := 0, cells := 0, slots := 0, locals := 0 } : Room) #[(.ref a)] h0 [] (pureQ (some (.int 0)) h0) := by
  refine Con.of (a0 := a0) #[.val (.ref a)] (plainFor_of_name pn_1) hE O all0 (fun m => by first | (simp [entryFrame, mkF, argsToLocals, Value.category]; done) | rfl) ?_
  intro p e s m below meth c T0 hx hby hml hnm hret hlk hh W0
  obtain ⟨E_a, FC_a, FV_a, V_b, L_a⟩ := id S0
  have hlen : cs.length < 2 ^ 31 := by have := V_b.len; simpa using this
  refine w_getS (pc' := 3) W0 hx (hw _ (List.mem_of_getElem? w_19)) Via.refl G.1 (hb hby d_jdk_42_152_0) rfl fun T24 W24 => ?_
  refine g_ifN (pc' := 6) W24.here hx (hb hby d_jdk_42_152_3) rfl (feq (show ¬ (cc = (0 : Int32)) from G.2.1)).1 ?_
  refine g_aloadN (pc' := 7) W24.here hx (hb hby d_jdk_42_152_6) rfl rfl rfl ?_
  refine w_get (pc' := 10) W24 hx (hw _ (List.mem_of_getElem? w_31)) Via.refl FC_a (hb hby d_jdk_42_152_7) rfl fun T25 W25 => ?_
  refine g_goto (pc' := 14) W25.here hx (hb hby d_jdk_42_152_10) rfl ?_
  refine w_retN (t := .byte) W25 hx hh hlk hret (by simp) (hb hby d_jdk_42_152_14) (Nat.le_of_ble_eq_true rfl) (Nat.le_of_ble_eq_true rfl) ?_
  exact ⟨rfl, rfl⟩
theorem own_shr0 (x : Int32) : x >>> ((0 : Int32) &&& 31) = x := by
  apply Int32.toInt_inj.mp
  rw [c_ishr x 0 0 rfl]
  simp
set_option maxRecDepth 65536 in
set_option maxHeartbeats 40000000 in
theorem c_length (l : Launch) (Z : State) (a0 : Array Value) (hw : ∀ d ∈ tables_1, d.before a0 Z = true) (hE : EW Z a0 ([] : List (String × Nat))) (cc : Int32) (fm : Value) (a b : Nat) (cs : List Int32)  (h0 : Heap) (O : Ext Z.heap h0) (G : SEnv Z cc fm) (S0 : SL Z h0 a b cs)  :
    Con l Z ([] : List (String × Nat)) (⟨"java/lang/String", "length", "()I"⟩ : MethodName) jdk_42_method_54_code 1 (Option.some Jvm.ClassFile.FieldType.int) ({ frames := 1, cells := 0, slots := 0, locals := 13 } : Room) #[(.ref a)] h0 [] (pureQ (some (.int cs.length.toInt32)) h0) := by
  refine Con.of (a0 := a0) #[.val (.ref a)] (plainFor_of_name pn_1) hE O all0 (fun m => by first | (simp [entryFrame, mkF, argsToLocals, Value.category]; done) | rfl) ?_
  intro p e s m below meth c T0 hx hby hml hnm hret hlk hh W0
  obtain ⟨E_a, FC_a, FV_a, V_b, L_a⟩ := id S0
  have hlen : cs.length < 2 ^ 31 := by have := V_b.len; simpa using this
  refine g_aloadN (pc' := 1) W0.here hx (hb hby d_jdk_42_54_0) rfl rfl rfl ?_
  refine w_get (pc' := 4) W0 hx (hw _ (List.mem_of_getElem? w_33)) Via.refl FV_a (hb hby d_jdk_42_54_1) rfl fun T26 W26 => ?_
  refine w_len (pc' := 5) W26 hx V_b (hb hby d_jdk_42_54_4) rfl ?_
  refine g_name (w := .int cs.length.toInt32) (congrArg Value.int (by rw [List.length_map])) ?_
  refine g_aloadN (pc' := 6) W26.here hx (hb hby d_jdk_42_54_5) rfl rfl rfl ?_
  refine w_virtualp (pc' := 9) (st := [(.int cs.length.toInt32)]) (y := (⟨"java/lang/String", "coder", "()B"⟩ : MethodName)) (z := (⟨"java/lang/String", "coder", "()B"⟩ : MethodName)) (a := a) W26 hx [] (hw _ (List.mem_of_getElem? w_44)) (hw _ (List.mem_of_getElem? w_45)) (nfS (z := (⟨"java/lang/String", "coder", "()B"⟩ : MethodName)) (hw _ (List.mem_of_getElem? w_47))) (hw _ (List.mem_of_getElem? w_47)) (hw _ (List.mem_of_getElem? w_46)) (hw _ (List.mem_of_getElem? w_8)) (hw _ (List.mem_of_getElem? w_48)) (by decide) (c_coder l Z a0 hw hE cc fm a b cs h0 W26.old G S0) E_a (by rw [hml]; rfl) (lenOf pd_4 rfl) rfl (hb hby d_jdk_42_54_6) (Nat.le_of_ble_eq_true rfl) (Nat.le_of_ble_eq_true rfl) rfl rfl (Nat.le_of_ble_eq_true rfl) (Nat.le_of_ble_eq_true rfl) rfl fun T27 W27 => ?_
  refine g_ishr (pc' := 10) W27.here hx (hb hby d_jdk_42_54_9) rfl ?_
  refine w_retI W27 hx hh hlk hret (hb hby d_jdk_42_54_10) (Nat.le_of_ble_eq_true rfl) (Nat.le_of_ble_eq_true rfl) ?_
  exact ⟨congrArg (fun z => some (Value.int z)) (own_shr0 _), rfl⟩
set_option maxRecDepth 65536 in
set_option maxHeartbeats 40000000 in
theorem c_isLat (l : Launch) (Z : State) (a0 : Array Value) (hw : ∀ d ∈ tables_1, d.before a0 Z = true) (hE : EW Z a0 ([] : List (String × Nat))) (cc : Int32) (fm : Value) (a b : Nat) (cs : List Int32)  (h0 : Heap) (O : Ext Z.heap h0) (G : SEnv Z cc fm) (S0 : SL Z h0 a b cs)  :
    Con l Z ([] : List (String × Nat)) (⟨"java/lang/String", "isLatin1", "()Z"⟩ : MethodName) jdk_42_method_154_code 1 (Option.some Jvm.ClassFile.FieldType.boolean) ({ frames := 0, cells := 0, slots := 0, locals := 0 } : Room) #[(.ref a)] h0 [] (pureQ (some (.int 1)) h0) := by
  refine Con.of (a0 := a0) #[.val (.ref a)] (plainFor_of_name pn_1) hE O all0 (fun m => by first | (simp [entryFrame, mkF, argsToLocals, Value.category]; done) | rfl) ?_
  intro p e s m below meth c T0 hx hby hml hnm hret hlk hh W0
  obtain ⟨E_a, FC_a, FV_a, V_b, L_a⟩ := id S0
  have hlen : cs.length < 2 ^ 31 := by have := V_b.len; simpa using this
  refine w_getS (pc' := 3) W0 hx (hw _ (List.mem_of_getElem? w_19)) Via.refl G.1 (hb hby d_jdk_42_154_0) rfl fun T28 W28 => ?_
  refine g_ifN (pc' := 6) W28.here hx (hb hby d_jdk_42_154_3) rfl (feq (show ¬ (cc = (0 : Int32)) from G.2.1)).1 ?_
  refine g_aloadN (pc' := 7) W28.here hx (hb hby d_jdk_42_154_6) rfl rfl rfl ?_
  refine w_get (pc' := 10) W28 hx (hw _ (List.mem_of_getElem? w_31)) Via.refl FC_a (hb hby d_jdk_42_154_7) rfl fun T29 W29 => ?_
  refine g_ifN (pc' := 13) W29.here hx (hb hby d_jdk_42_154_10) rfl (teq (show (0 : Int32) = (0 : Int32) from (by decide))).2 ?_
  refine g_iconst (1 : Int32) (pc' := 14) W29.here hx (hb hby d_jdk_42_154_13) rfl rfl ?_
  refine g_goto (pc' := 18) W29.here hx (hb hby d_jdk_42_154_14) rfl ?_
  refine w_retN (t := .boolean) W29 hx hh hlk hret (by simp) (hb hby d_jdk_42_154_18) (Nat.le_of_ble_eq_true rfl) (Nat.le_of_ble_eq_true rfl) ?_
  exact ⟨rfl, rfl⟩
set_option maxRecDepth 65536 in
set_option maxHeartbeats 40000000 in
theorem c_chk3 (l : Launch) (Z : State) (a0 : Array Value) (hw : ∀ d ∈ tables_1, d.before a0 Z = true) (hE : EW Z a0 ([] : List (String × Nat))) (j n : Int32) (fm : Value) (h0 : Heap) (O : Ext Z.heap h0) (hfm : fm.isRef = true) (hj : ¬ j < 0) (hjn : j < n) :
    Con l Z ([] : List (String × Nat)) (⟨"jdk/internal/util/Preconditions", "checkIndex", "(IILjava/util/function/BiFunction;)I"⟩ : MethodName) jdk_41_method_11_code 3 (Option.some Jvm.ClassFile.FieldType.int) ({ frames := 0, cells := 0, slots := 0, locals := 0 } : Room) #[(.int j), (.int n), fm] h0 [] (pureQ (some (.int j)) h0) := by
  refine Con.of (a0 := a0) #[.val (.int j), .val (.int n), .val fm] (plainFor_of_name pn_2) hE O all0 (fun m => by rcases ref_cases hfm with rfl | ⟨_, rfl⟩ <;> rfl) ?_
  intro p e s m below meth c T0 hx hby hml hnm hret hlk hh W0
  refine g_iloadN (pc' := 1) W0.here hx (hb hby d_jdk_41_11_0) rfl rfl ?_
  refine g_ifN (pc' := 4) W0.here hx (hb hby d_jdk_41_11_1) rfl (flt (show ¬ (j < (0 : Int32)) from hj)).1 ?_
  refine g_iloadN (pc' := 5) W0.here hx (hb hby d_jdk_41_11_4) rfl rfl ?_
  refine g_iloadN (pc' := 6) W0.here hx (hb hby d_jdk_41_11_5) rfl rfl ?_
  refine g_icmpY (pc' := 16) W0.here hx (hb hby d_jdk_41_11_6) rfl (tlt (show j < n from hjn)).1 ?_
  refine g_iloadN (pc' := 17) W0.here hx (hb hby d_jdk_41_11_16) rfl rfl ?_
  refine w_retI W0 hx hh hlk hret (hb hby d_jdk_41_11_17) (Nat.le_of_ble_eq_true rfl) (Nat.le_of_ble_eq_true rfl) ?_
  exact ⟨rfl, rfl⟩
set_option maxRecDepth 65536 in
set_option maxHeartbeats 40000000 in
theorem c_chk2 (l : Launch) (Z : State) (a0 : Array Value) (hw : ∀ d ∈ tables_1, d.before a0 Z = true) (hE : EW Z a0 ([] : List (String × Nat))) (cc : Int32) (fm : Value) (j n : Int32) (h0 : Heap) (O : Ext Z.heap h0) (G : SEnv Z cc fm) (hj : ¬ j < 0) (hjn : j < n) :
    Con l Z ([] : List (String × Nat)) (⟨"java/lang/String", "checkIndex", "(II)V"⟩ : MethodName) jdk_42_method_155_code 2 (Option.none : Option Jvm.ClassFile.FieldType) ({ frames := 1, cells := 0, slots := 0, locals := 14 } : Room) #[(.int j), (.int n)] h0 [] (pureQ none h0) := by
  refine Con.of (a0 := a0) #[.val (.int j), .val (.int n)] (plainFor_of_name pn_1) hE O all0 (fun m => by first | (simp [entryFrame, mkF, argsToLocals, Value.category]; done) | rfl) ?_
  intro p e s m below meth c T0 hx hby hml hnm hret hlk hh W0
  refine g_iloadN (pc' := 1) W0.here hx (hb hby d_jdk_42_155_0) rfl rfl ?_
  refine g_iloadN (pc' := 2) W0.here hx (hb hby d_jdk_42_155_1) rfl rfl ?_
  refine w_getS (pc' := 5) W0 hx (hw _ (List.mem_of_getElem? w_66)) Via.refl G.2.2.1 (hb hby d_jdk_42_155_2) rfl fun T30 W30 => ?_
  refine w_callSp (pc' := 8) (st := []) (y := (⟨"jdk/internal/util/Preconditions", "checkIndex", "(IILjava/util/function/BiFunction;)I"⟩ : MethodName)) W30 hx [(.int j), (.int n), fm] (hw _ (List.mem_of_getElem? w_68)) (hw _ (List.mem_of_getElem? w_69)) (hw _ (List.mem_of_getElem? w_67)) (hw _ (List.mem_of_getElem? w_70)) (by decide) (c_chk3 l Z a0 hw hE j n fm h0 W30.old G.2.2.2 hj hjn) (by rw [hml]; rfl) (lenOf pd_5 rfl) rfl (hb hby d_jdk_42_155_5) (Nat.le_of_ble_eq_true rfl) (Nat.le_of_ble_eq_true rfl) rfl rfl (Nat.le_of_ble_eq_true rfl) (Nat.le_of_ble_eq_true rfl) rfl fun T31 W31 => ?_
  refine g_pop (pc' := 9) W31.here hx (hb hby d_jdk_42_155_8) rfl rfl ?_
  refine w_retV W31 hx hh hlk hret (hb hby d_jdk_42_155_9) (Nat.le_of_ble_eq_true rfl) (Nat.le_of_ble_eq_true rfl) ?_
  exact ⟨rfl, rfl⟩
set_option maxRecDepth 65536 in
set_option maxHeartbeats 40000000 in
theorem c_l1at (l : Launch) (Z : State) (a0 : Array Value) (hw : ∀ d ∈ tables_1, d.before a0 Z = true) (hE : EW Z a0 ([] : List (String × Nat))) (cc : Int32) (fm : Value) (a b : Nat) (cs : List Int32) (j cj : Int32)  (h0 : Heap) (O : Ext Z.heap h0) (G : SEnv Z cc fm) (S0 : SL Z h0 a b cs) (hj : ¬ j < 0) (hjn : j < cs.length.toInt32) (hcj : cs[j.toNatClampNeg]? = some cj) :
    Con l Z ([] : List (String × Nat)) (⟨"java/lang/StringLatin1", "charAt", "([BI)C"⟩ : MethodName) jdk_43_method_2_code 2 (Option.some Jvm.ClassFile.FieldType.char) ({ frames := 2, cells := 0, slots := 0, locals := 27 } : Room) #[(.ref b), (.int j)] h0 [] (pureQ (some (.int cj)) h0) := by
  refine Con.of (a0 := a0) #[.val (.ref b), .val (.int j)] (plainFor_of_name pn_3) hE O all0 (fun m => by first | (simp [entryFrame, mkF, argsToLocals, Value.category]; done) | rfl) ?_
  intro p e s m below meth c T0 hx hby hml hnm hret hlk hh W0
  obtain ⟨E_a, FC_a, FV_a, V_b, L_a⟩ := id S0
  have hlen : cs.length < 2 ^ 31 := by have := V_b.len; simpa using this
  refine g_iloadN (pc' := 1) W0.here hx (hb hby d_jdk_43_2_0) rfl rfl ?_
  refine g_aloadN (pc' := 2) W0.here hx (hb hby d_jdk_43_2_1) rfl rfl rfl ?_
  refine w_len (pc' := 3) W0 hx V_b (hb hby d_jdk_43_2_2) rfl ?_
  refine g_name (w := .int cs.length.toInt32) (congrArg Value.int (by rw [List.length_map])) ?_
  refine w_callSp (pc' := 6) (st := []) (y := (⟨"java/lang/String", "checkIndex", "(II)V"⟩ : MethodName)) W0 hx [(.int j), (.int cs.length.toInt32)] (hw _ (List.mem_of_getElem? w_63)) (hw _ (List.mem_of_getElem? w_64)) (hw _ (List.mem_of_getElem? w_8)) (hw _ (List.mem_of_getElem? w_65)) (by decide) (c_chk2 l Z a0 hw hE cc fm j cs.length.toInt32 h0 W0.old G hj hjn) (by rw [hml]; rfl) (lenOf pd_6 rfl) rfl (hb hby d_jdk_43_2_3) (Nat.le_of_ble_eq_true rfl) (Nat.le_of_ble_eq_true rfl) rfl rfl (Nat.le_of_ble_eq_true rfl) (Nat.le_of_ble_eq_true rfl) rfl fun T32 W32 => ?_
  refine g_aloadN (pc' := 7) W32.here hx (hb hby d_jdk_43_2_6) rfl rfl rfl ?_
  refine g_iloadN (pc' := 8) W32.here hx (hb hby d_jdk_43_2_7) rfl rfl ?_
  refine w_baload (pc' := 9) (v := (.int cj.toInt8.toInt32)) W32 hx V_b hj (by rw [List.getElem?_map, hcj]; rfl) (hb hby d_jdk_43_2_8) rfl ?_
  refine g_sipush (255 : Int32) (pc' := 12) W32.here hx (hb hby d_jdk_43_2_9) rfl rfl ?_
  refine g_iand (pc' := 13) W32.here hx (hb hby d_jdk_43_2_12) rfl ?_
  refine g_i2c (pc' := 14) W32.here hx (hb hby d_jdk_43_2_13) rfl ?_
  refine w_retN (t := .char) W32 hx hh hlk hret (by simp) (hb hby d_jdk_43_2_14) (Nat.le_of_ble_eq_true rfl) (Nat.le_of_ble_eq_true rfl) ?_
  exact ⟨congrArg (fun z => some (Value.int z)) (own_back cj (L_a cj (List.mem_of_getElem? hcj))), rfl⟩
set_option maxRecDepth 65536 in
set_option maxHeartbeats 40000000 in
theorem c_charAt (l : Launch) (Z : State) (a0 : Array Value) (hw : ∀ d ∈ tables_1, d.before a0 Z = true) (hE : EW Z a0 ([] : List (String × Nat))) (cc : Int32) (fm : Value) (a b : Nat) (cs : List Int32) (j cj : Int32)  (h0 : Heap) (O : Ext Z.heap h0) (G : SEnv Z cc fm) (S0 : SL Z h0 a b cs) (hj : ¬ j < 0) (hjn : j < cs.length.toInt32) (hcj : cs[j.toNatClampNeg]? = some cj) :
    Con l Z ([] : List (String × Nat)) (⟨"java/lang/String", "charAt", "(I)C"⟩ : MethodName) jdk_42_method_56_code 2 (Option.some Jvm.ClassFile.FieldType.char) ({ frames := 3, cells := 0, slots := 0, locals := 40 } : Room) #[(.ref a), (.int j)] h0 [] (pureQ (some (.int cj)) h0) := by
  refine Con.of (a0 := a0) #[.val (.ref a), .val (.int j)] (plainFor_of_name pn_1) hE O all0 (fun m => by first | (simp [entryFrame, mkF, argsToLocals, Value.category]; done) | rfl) ?_
  intro p e s m below meth c T0 hx hby hml hnm hret hlk hh W0
  obtain ⟨E_a, FC_a, FV_a, V_b, L_a⟩ := id S0
  have hlen : cs.length < 2 ^ 31 := by have := V_b.len; simpa using this
  refine g_aloadN (pc' := 1) W0.here hx (hb hby d_jdk_42_56_0) rfl rfl rfl ?_
  refine w_virtualp (pc' := 4) (st := []) (y := (⟨"java/lang/String", "isLatin1", "()Z"⟩ : MethodName)) (z := (⟨"java/lang/String", "isLatin1", "()Z"⟩ : MethodName)) (a := a) W0 hx [] (hw _ (List.mem_of_getElem? w_54)) (hw _ (List.mem_of_getElem? w_55)) (nfS (z := (⟨"java/lang/String", "isLatin1", "()Z"⟩ : MethodName)) (hw _ (List.mem_of_getElem? w_57))) (hw _ (List.mem_of_getElem? w_57)) (hw _ (List.mem_of_getElem? w_56)) (hw _ (List.mem_of_getElem? w_8)) (hw _ (List.mem_of_getElem? w_58)) (by decide) (c_isLat l Z a0 hw hE cc fm a b cs h0 W0.old G S0) E_a (by rw [hml]; rfl) (lenOf pd_7 rfl) rfl (hb hby d_jdk_42_56_1) (Nat.le_of_ble_eq_true rfl) (Nat.le_of_ble_eq_true rfl) rfl rfl (Nat.le_of_ble_eq_true rfl) (Nat.le_of_ble_eq_true rfl) rfl fun T33 W33 => ?_
  refine g_ifN (pc' := 7) W33.here hx (hb hby d_jdk_42_56_4) rfl (feq (show ¬ ((1 : Int32) = (0 : Int32)) from (by decide))).1 ?_
  refine g_aloadN (pc' := 8) W33.here hx (hb hby d_jdk_42_56_7) rfl rfl rfl ?_
  refine w_get (pc' := 11) W33 hx (hw _ (List.mem_of_getElem? w_33)) Via.refl FV_a (hb hby d_jdk_42_56_8) rfl fun T34 W34 => ?_
  refine g_iloadN (pc' := 12) W34.here hx (hb hby d_jdk_42_56_11) rfl rfl ?_
  refine w_callSp (pc' := 15) (st := []) (y := (⟨"java/lang/StringLatin1", "charAt", "([BI)C"⟩ : MethodName)) W34 hx [(.ref b), (.int j)] (hw _ (List.mem_of_getElem? w_59)) (hw _ (List.mem_of_getElem? w_60)) (hw _ (List.mem_of_getElem? w_61)) (hw _ (List.mem_of_getElem? w_62)) (by decide) (c_l1at l Z a0 hw hE cc fm a b cs j cj h0 W34.old G S0 hj hjn hcj) (by rw [hml]; rfl) (lenOf pd_8 rfl) rfl (hb hby d_jdk_42_56_12) (Nat.le_of_ble_eq_true rfl) (Nat.le_of_ble_eq_true rfl) rfl rfl (Nat.le_of_ble_eq_true rfl) (Nat.le_of_ble_eq_true rfl) rfl fun T35 W35 => ?_
  refine w_retN (t := .char) W35 hx hh hlk hret (by simp) (hb hby d_jdk_42_56_15) (Nat.le_of_ble_eq_true rfl) (Nat.le_of_ble_eq_true rfl) ?_
  exact ⟨congrArg (fun z => some (Value.int z)) (own_nchar (by have := L_a cj (List.mem_of_getElem? hcj); omega)), rfl⟩
theorem own_byte (x : Int32) : 0 ≤ ((x &&& (255 : Int32)).toUInt32.toUInt16.toUInt32.toInt32).toInt ∧ ((x &&& (255 : Int32)).toUInt32.toUInt16.toUInt32.toInt32).toInt ≤ 255 := by
  rw [i2c_mask, c_mask x 255 8 (by decide) (by decide)]
  omega
theorem own_c16 {c : Int32} (h : 0 ≤ c.toInt ∧ c.toInt ≤ 255) : 0 ≤ c.toInt ∧ c.toInt < 65536 := by omega
def okc (c : Int32) : Prop := (97 ≤ c.toInt ∧ c.toInt ≤ 122) ∨ (65 ≤ c.toInt ∧ c.toInt ≤ 90) ∨ (48 ≤ c.toInt ∧ c.toInt ≤ 57) ∨ c.toInt = 45 ∨ c.toInt = 95 ∨ c.toInt = 46
theorem okc.lat {c : Int32} (h : okc c) : 0 ≤ c.toInt ∧ c.toInt ≤ 255 := by simp only [okc] at h; omega
theorem own_rem (x : Int32) : 0 ≤ ((x &&& (2147483647 : Int32)) % (65 : Int32)).toInt ∧ ((x &&& (2147483647 : Int32)) % (65 : Int32)).toInt < 65 := by
  have q := c_mask x 2147483647 31 (by decide) (by decide)
  have q2 := (c_irem (x &&& 2147483647) 65 65 rfl).1 (by omega)
  omega
theorem own_i2cn {e : Int32} (h : 0 ≤ e.toInt ∧ e.toInt < 65536) : nar .char e.toUInt32.toUInt16.toUInt32.toInt32 = e := by
  have q := c_i2c e
  have e1 : e.toUInt32.toUInt16.toUInt32.toInt32 = e := by apply Int32.toInt_inj.mp; omega
  rw [e1]; exact own_nchar h
theorem own_al1 {k : Int32} (h0 : 0 ≤ k.toInt) (h : k < 26) : okc (nar .char ((97 : Int32) + k).toUInt32.toUInt16.toUInt32.toInt32) := by
  have q := c_iadd 97 k
  have r := rng32 (97 + k)
  simp only [Int32.lt_iff_toInt_lt, own_t26, own_t45, own_t46, own_t48, own_t52, own_t57, own_t62, own_t63, own_t65, own_t90, own_t95, own_t97, own_t122, own_t0] at *
  rw [own_i2cn (by omega)]; simp only [okc]; omega
theorem own_al2 {k b c : Int32} {B C M : Int} (hb : b.toInt = B) (hc : c.toInt = C) (hm : (B = 65 ∧ C = 26 ∧ M = 52) ∨ (B = 48 ∧ C = 52 ∧ M = 62)) (h0 : C ≤ k.toInt) (h : k.toInt < M) : okc (nar .char (b + (k - c)).toUInt32.toUInt16.toUInt32.toInt32) := by
  have q1 := c_isub k c
  have r1 := rng32 (k - c)
  have q := c_iadd b (k - c)
  have r := rng32 (b + (k - c))
  rw [own_i2cn (by omega)]; simp only [okc]; omega
set_option maxRecDepth 65536 in
set_option maxHeartbeats 40000000 in
theorem c_allowed (l : Launch) (Z : State) (a0 : Array Value) (hw : ∀ d ∈ tables_1, d.before a0 Z = true) (hE : EW Z a0 ([] : List (String × Nat))) (xp : Int32) (h0 : Heap) (O : Ext Z.heap h0)  :
    Con l Z ([] : List (String × Nat)) (⟨"com/example/grapple/grapple/internal/LimitsCheckKeyPrefixPinLaw", "allowed", "(I)C"⟩ : MethodName) method_3_code 2 (Option.some Jvm.ClassFile.FieldType.char) ({ frames := 0, cells := 0, slots := 0, locals := 0 } : Room) #[(.int xp)] h0 [] (fun v _ => ∃ c : Int32, v = some (.int c) ∧ okc c) := by
  refine Con.of (a0 := a0) #[.val (.int xp), .unset] (plainFor_of_name pn_4) hE O all0 (fun m => by first | (simp [entryFrame, mkF, argsToLocals, Value.category]; done) | rfl) ?_
  intro p e s m below meth c T0 hx hby hml hnm hret hlk hh W0
  refine g_iloadN (pc' := 1) W0.here hx (hb hby d_method_3_0) rfl rfl ?_
  refine w_ldcI (pc' := 3) W0 hx (hw _ (List.mem_of_getElem? w_4)) (hb hby d_method_3_1) rfl ?_
  refine g_iand (pc' := 4) W0.here hx (hb hby d_method_3_3) rfl ?_
  refine g_bipush (65 : Int32) (pc' := 6) W0.here hx (hb hby d_method_3_4) rfl rfl ?_
  refine g_irem (pc' := 7) W0.here hx (hb hby d_method_3_6) (by decide) rfl ?_
  obtain ⟨kk, hkk⟩ : ∃ zz_ : Int32, zz_ = ((xp &&& (2147483647 : Int32)) % (65 : Int32)) := ⟨_, rfl⟩
  refine g_name (congrArg Value.int hkk) ?_
  have hr := own_rem xp
  rw [← hkk] at hr
  refine g_istoreN (pc' := 8) (Ls' := #[.val (.int xp), .val (.int kk)]) W0.here hx (hb hby d_method_3_7) rfl rfl ?_
  refine g_iloadN (pc' := 9) W0.here hx (hb hby d_method_3_8) rfl rfl ?_
  refine g_bipush (26 : Int32) (pc' := 11) W0.here hx (hb hby d_method_3_9) rfl rfl ?_
  by_cases hc11_36 : kk < (26 : Int32)
  · refine g_icmpN (pc' := 14) W0.here hx (hb hby d_method_3_11) rfl (tlt hc11_36).2.1 ?_
    refine g_bipush (97 : Int32) (pc' := 16) W0.here hx (hb hby d_method_3_14) rfl rfl ?_
    refine g_iloadN (pc' := 17) W0.here hx (hb hby d_method_3_16) rfl rfl ?_
    refine g_iadd (pc' := 18) W0.here hx (hb hby d_method_3_17) rfl ?_
    refine g_i2c (pc' := 19) W0.here hx (hb hby d_method_3_18) rfl ?_
    refine w_retN (t := .char) W0 hx hh hlk hret (by simp) (hb hby d_method_3_19) (Nat.le_of_ble_eq_true rfl) (Nat.le_of_ble_eq_true rfl) ?_
    exact ⟨_, rfl, own_al1 hr.1 hc11_36⟩
  · refine g_icmpY (pc' := 20) W0.here hx (hb hby d_method_3_11) rfl (flt hc11_36).2.1 ?_
    refine g_iloadN (pc' := 21) W0.here hx (hb hby d_method_3_20) rfl rfl ?_
    refine g_bipush (52 : Int32) (pc' := 23) W0.here hx (hb hby d_method_3_21) rfl rfl ?_
    by_cases hc23_37 : kk < (52 : Int32)
    · refine g_icmpN (pc' := 26) W0.here hx (hb hby d_method_3_23) rfl (tlt hc23_37).2.1 ?_
      refine g_bipush (65 : Int32) (pc' := 28) W0.here hx (hb hby d_method_3_26) rfl rfl ?_
      refine g_iloadN (pc' := 29) W0.here hx (hb hby d_method_3_28) rfl rfl ?_
      refine g_bipush (26 : Int32) (pc' := 31) W0.here hx (hb hby d_method_3_29) rfl rfl ?_
      refine g_isub (pc' := 32) W0.here hx (hb hby d_method_3_31) rfl ?_
      refine g_iadd (pc' := 33) W0.here hx (hb hby d_method_3_32) rfl ?_
      refine g_i2c (pc' := 34) W0.here hx (hb hby d_method_3_33) rfl ?_
      refine w_retN (t := .char) W0 hx hh hlk hret (by simp) (hb hby d_method_3_34) (Nat.le_of_ble_eq_true rfl) (Nat.le_of_ble_eq_true rfl) ?_
      have q1 := hc11_36
      have q2 := hc23_37
      simp only [Int32.lt_iff_toInt_lt, own_t26, own_t45, own_t46, own_t48, own_t52, own_t57, own_t62, own_t63, own_t65, own_t90, own_t95, own_t97, own_t122, own_t0] at q1 q2
      exact ⟨_, rfl, own_al2 (B := 65) (C := 26) (M := 52) rfl rfl (Or.inl ⟨rfl, rfl, rfl⟩) (by omega) q2⟩
    · refine g_icmpY (pc' := 35) W0.here hx (hb hby d_method_3_23) rfl (flt hc23_37).2.1 ?_
      refine g_iloadN (pc' := 36) W0.here hx (hb hby d_method_3_35) rfl rfl ?_
      refine g_bipush (62 : Int32) (pc' := 38) W0.here hx (hb hby d_method_3_36) rfl rfl ?_
      by_cases hc38_38 : kk < (62 : Int32)
      · refine g_icmpN (pc' := 41) W0.here hx (hb hby d_method_3_38) rfl (tlt hc38_38).2.1 ?_
        refine g_bipush (48 : Int32) (pc' := 43) W0.here hx (hb hby d_method_3_41) rfl rfl ?_
        refine g_iloadN (pc' := 44) W0.here hx (hb hby d_method_3_43) rfl rfl ?_
        refine g_bipush (52 : Int32) (pc' := 46) W0.here hx (hb hby d_method_3_44) rfl rfl ?_
        refine g_isub (pc' := 47) W0.here hx (hb hby d_method_3_46) rfl ?_
        refine g_iadd (pc' := 48) W0.here hx (hb hby d_method_3_47) rfl ?_
        refine g_i2c (pc' := 49) W0.here hx (hb hby d_method_3_48) rfl ?_
        refine w_retN (t := .char) W0 hx hh hlk hret (by simp) (hb hby d_method_3_49) (Nat.le_of_ble_eq_true rfl) (Nat.le_of_ble_eq_true rfl) ?_
        have q1 := hc23_37
        have q2 := hc38_38
        simp only [Int32.lt_iff_toInt_lt, own_t26, own_t45, own_t46, own_t48, own_t52, own_t57, own_t62, own_t63, own_t65, own_t90, own_t95, own_t97, own_t122, own_t0] at q1 q2
        exact ⟨_, rfl, own_al2 (B := 48) (C := 52) (M := 62) rfl rfl (Or.inr ⟨rfl, rfl, rfl⟩) (by omega) q2⟩
      · refine g_icmpY (pc' := 50) W0.here hx (hb hby d_method_3_38) rfl (flt hc38_38).2.1 ?_
        refine g_iloadN (pc' := 51) W0.here hx (hb hby d_method_3_50) rfl rfl ?_
        refine g_bipush (62 : Int32) (pc' := 53) W0.here hx (hb hby d_method_3_51) rfl rfl ?_
        by_cases hc53_39 : kk = (62 : Int32)
        · refine g_icmpN (pc' := 56) W0.here hx (hb hby d_method_3_53) rfl (teq hc53_39).2 ?_
          refine g_bipush (45 : Int32) (pc' := 58) W0.here hx (hb hby d_method_3_56) rfl rfl ?_
          refine w_retN (t := .char) W0 hx hh hlk hret (by simp) (hb hby d_method_3_58) (Nat.le_of_ble_eq_true rfl) (Nat.le_of_ble_eq_true rfl) ?_
          exact ⟨_, rfl, Or.inr (Or.inr (Or.inr (Or.inl rfl)))⟩
        · refine g_icmpY (pc' := 59) W0.here hx (hb hby d_method_3_53) rfl (feq hc53_39).2 ?_
          refine g_iloadN (pc' := 60) W0.here hx (hb hby d_method_3_59) rfl rfl ?_
          refine g_bipush (63 : Int32) (pc' := 62) W0.here hx (hb hby d_method_3_60) rfl rfl ?_
          by_cases hc62_40 : kk = (63 : Int32)
          · refine g_icmpN (pc' := 65) W0.here hx (hb hby d_method_3_62) rfl (teq hc62_40).2 ?_
            refine g_bipush (95 : Int32) (pc' := 67) W0.here hx (hb hby d_method_3_65) rfl rfl ?_
            refine w_retN (t := .char) W0 hx hh hlk hret (by simp) (hb hby d_method_3_67) (Nat.le_of_ble_eq_true rfl) (Nat.le_of_ble_eq_true rfl) ?_
            exact ⟨_, rfl, Or.inr (Or.inr (Or.inr (Or.inr (Or.inl rfl))))⟩
          · refine g_icmpY (pc' := 68) W0.here hx (hb hby d_method_3_62) rfl (feq hc62_40).2 ?_
            refine g_bipush (46 : Int32) (pc' := 70) W0.here hx (hb hby d_method_3_68) rfl rfl ?_
            refine w_retN (t := .char) W0 hx hh hlk hret (by simp) (hb hby d_method_3_70) (Nat.le_of_ble_eq_true rfl) (Nat.le_of_ble_eq_true rfl) ?_
            exact ⟨_, rfl, Or.inr (Or.inr (Or.inr (Or.inr (Or.inr rfl))))⟩
set_option maxRecDepth 65536 in
set_option maxHeartbeats 40000000 in
theorem c_fifty (l : Launch) (Z : State) (a0 : Array Value) (hw : ∀ d ∈ tables_1, d.before a0 Z = true) (hE : EW Z a0 ([] : List (String × Nat))) (fa fb fc fd : Int32) (h0 : Heap) (O : Ext Z.heap h0) (okfa : okc fa) (okfb : okc fb) (okfc : okc fc) (okfd : okc fd)  :
    Con l Z ([] : List (String × Nat)) (⟨"com/example/grapple/grapple/internal/LimitsCheckKeyPrefixPinLaw", "fifty", "(CCCC)[C"⟩ : MethodName) method_4_code 4 (Option.some (Jvm.ClassFile.FieldType.array Jvm.ClassFile.FieldType.char)) ({ frames := 0, cells := 1, slots := 50, locals := 0 } : Room) #[(.int fa), (.int fb), (.int fc), (.int fd)] h0 [] (fun v h => ∃ ca : Nat, v = some (.ref ca) ∧ h0.size ≤ ca ∧ Ary Z h ca .char ([fa, fb, fc, fd, fa, fb, fc, fd, fa, fb, fc, fd, fa, fb, fc, fd, fa, fb, fc, fd, fa, fb, fc, fd, fa, fb, fc, fd, fa, fb, fc, fd, fa, fb, fc, fd, fa, fb, fc, fd, fa, fb, fc, fd, fa, fb, fc, fd, fa, fb].map Value.int)) := by
  refine Con.of (a0 := a0) #[.val (.int fa), .val (.int fb), .val (.int fc), .val (.int fd)] (plainFor_of_name pn_4) hE O all0 (fun m => by first | (simp [entryFrame, mkF, argsToLocals, Value.category]; done) | rfl) ?_
  intro p e s m below meth c T0 hx hby hml hnm hret hlk hh W0
  refine g_bipush (50 : Int32) (pc' := 2) W0.here hx (hb hby d_method_4_0) rfl rfl ?_
  refine w_newarr (pc' := 4) (cap := 50) W0 hx (hw _ (List.mem_of_getElem? w_5)) (hb hby d_method_4_2) (by decide) (Nat.le_refl _) (Nat.le_of_ble_eq_true rfl) (Nat.le_of_ble_eq_true rfl) (Nat.le_of_ble_eq_true rfl) rfl rfl fun T41 h41 b41 g41 W41 K41 V41 => ?_
  have z_K41 : h0.size ≤ h41.size := K41.1
  have lt_b41 : b41 < h41.size := W41.lt (List.mem_cons_self ..)
  have V41 : Ary Z h41 b41 .char [(.int (0 : Int32)), (.int (0 : Int32)), (.int (0 : Int32)), (.int (0 : Int32)), (.int (0 : Int32)), (.int (0 : Int32)), (.int (0 : Int32)), (.int (0 : Int32)), (.int (0 : Int32)), (.int (0 : Int32)), (.int (0 : Int32)), (.int (0 : Int32)), (.int (0 : Int32)), (.int (0 : Int32)), (.int (0 : Int32)), (.int (0 : Int32)), (.int (0 : Int32)), (.int (0 : Int32)), (.int (0 : Int32)), (.int (0 : Int32)), (.int (0 : Int32)), (.int (0 : Int32)), (.int (0 : Int32)), (.int (0 : Int32)), (.int (0 : Int32)), (.int (0 : Int32)), (.int (0 : Int32)), (.int (0 : Int32)), (.int (0 : Int32)), (.int (0 : Int32)), (.int (0 : Int32)), (.int (0 : Int32)), (.int (0 : Int32)), (.int (0 : Int32)), (.int (0 : Int32)), (.int (0 : Int32)), (.int (0 : Int32)), (.int (0 : Int32)), (.int (0 : Int32)), (.int (0 : Int32)), (.int (0 : Int32)), (.int (0 : Int32)), (.int (0 : Int32)), (.int (0 : Int32)), (.int (0 : Int32)), (.int (0 : Int32)), (.int (0 : Int32)), (.int (0 : Int32)), (.int (0 : Int32)), (.int (0 : Int32))] := V41
  refine g_dup (pc' := 5) W41.here hx (hb hby d_method_4_4) rfl rfl ?_
  refine g_iconst (0 : Int32) (pc' := 6) W41.here hx (hb hby d_method_4_5) rfl rfl ?_
  refine g_iloadN (pc' := 7) W41.here hx (hb hby d_method_4_6) rfl rfl ?_
  refine w_castore (pc' := 8) (x' := fa) W41 hx V41 (by decide) (Nat.lt_of_lt_of_le (Nat.lt_succ_self _) (Nat.le_of_ble_eq_true rfl)) (List.mem_of_getElem? (i := 0) rfl) (own_nchar (own_c16 okfa.lat)) (hb hby d_method_4_7) rfl fun T42 h42 W42 K42 V42 => ?_
  have z_K42 : h41.size ≤ h42.size := K42.1
  have V42 : Ary Z h42 b41 .char [(.int fa), (.int (0 : Int32)), (.int (0 : Int32)), (.int (0 : Int32)), (.int (0 : Int32)), (.int (0 : Int32)), (.int (0 : Int32)), (.int (0 : Int32)), (.int (0 : Int32)), (.int (0 : Int32)), (.int (0 : Int32)), (.int (0 : Int32)), (.int (0 : Int32)), (.int (0 : Int32)), (.int (0 : Int32)), (.int (0 : Int32)), (.int (0 : Int32)), (.int (0 : Int32)), (.int (0 : Int32)), (.int (0 : Int32)), (.int (0 : Int32)), (.int (0 : Int32)), (.int (0 : Int32)), (.int (0 : Int32)), (.int (0 : Int32)), (.int (0 : Int32)), (.int (0 : Int32)), (.int (0 : Int32)), (.int (0 : Int32)), (.int (0 : Int32)), (.int (0 : Int32)), (.int (0 : Int32)), (.int (0 : Int32)), (.int (0 : Int32)), (.int (0 : Int32)), (.int (0 : Int32)), (.int (0 : Int32)), (.int (0 : Int32)), (.int (0 : Int32)), (.int (0 : Int32)), (.int (0 : Int32)), (.int (0 : Int32)), (.int (0 : Int32)), (.int (0 : Int32)), (.int (0 : Int32)), (.int (0 : Int32)), (.int (0 : Int32)), (.int (0 : Int32)), (.int (0 : Int32)), (.int (0 : Int32))] := V42
  refine g_dup (pc' := 9) W42.here hx (hb hby d_method_4_8) rfl rfl ?_
  refine g_iconst (1 : Int32) (pc' := 10) W42.here hx (hb hby d_method_4_9) rfl rfl ?_
  refine g_iloadN (pc' := 11) W42.here hx (hb hby d_method_4_10) rfl rfl ?_
  refine w_castore (pc' := 12) (x' := fb) W42 hx V42 (by decide) (Nat.lt_of_lt_of_le (Nat.lt_succ_self _) (Nat.le_of_ble_eq_true rfl)) (List.mem_of_getElem? (i := 0) rfl) (own_nchar (own_c16 okfb.lat)) (hb hby d_method_4_11) rfl fun T43 h43 W43 K43 V43 => ?_
  have z_K43 : h42.size ≤ h43.size := K43.1
  have V43 : Ary Z h43 b41 .char [(.int fa), (.int fb), (.int (0 : Int32)), (.int (0 : Int32)), (.int (0 : Int32)), (.int (0 : Int32)), (.int (0 : Int32)), (.int (0 : Int32)), (.int (0 : Int32)), (.int (0 : Int32)), (.int (0 : Int32)), (.int (0 : Int32)), (.int (0 : Int32)), (.int (0 : Int32)), (.int (0 : Int32)), (.int (0 : Int32)), (.int (0 : Int32)), (.int (0 : Int32)), (.int (0 : Int32)), (.int (0 : Int32)), (.int (0 : Int32)), (.int (0 : Int32)), (.int (0 : Int32)), (.int (0 : Int32)), (.int (0 : Int32)), (.int (0 : Int32)), (.int (0 : Int32)), (.int (0 : Int32)), (.int (0 : Int32)), (.int (0 : Int32)), (.int (0 : Int32)), (.int (0 : Int32)), (.int (0 : Int32)), (.int (0 : Int32)), (.int (0 : Int32)), (.int (0 : Int32)), (.int (0 : Int32)), (.int (0 : Int32)), (.int (0 : Int32)), (.int (0 : Int32)), (.int (0 : Int32)), (.int (0 : Int32)), (.int (0 : Int32)), (.int (0 : Int32)), (.int (0 : Int32)), (.int (0 : Int32)), (.int (0 : Int32)), (.int (0 : Int32)), (.int (0 : Int32)), (.int (0 : Int32))] := V43
  refine g_dup (pc' := 13) W43.here hx (hb hby d_method_4_12) rfl rfl ?_
  refine g_iconst (2 : Int32) (pc' := 14) W43.here hx (hb hby d_method_4_13) rfl rfl ?_
  refine g_iloadN (pc' := 15) W43.here hx (hb hby d_method_4_14) rfl rfl ?_
  refine w_castore (pc' := 16) (x' := fc) W43 hx V43 (by decide) (Nat.lt_of_lt_of_le (Nat.lt_succ_self _) (Nat.le_of_ble_eq_true rfl)) (List.mem_of_getElem? (i := 0) rfl) (own_nchar (own_c16 okfc.lat)) (hb hby d_method_4_15) rfl fun T44 h44 W44 K44 V44 => ?_
  have z_K44 : h43.size ≤ h44.size := K44.1
  have V44 : Ary Z h44 b41 .char [(.int fa), (.int fb), (.int fc), (.int (0 : Int32)), (.int (0 : Int32)), (.int (0 : Int32)), (.int (0 : Int32)), (.int (0 : Int32)), (.int (0 : Int32)), (.int (0 : Int32)), (.int (0 : Int32)), (.int (0 : Int32)), (.int (0 : Int32)), (.int (0 : Int32)), (.int (0 : Int32)), (.int (0 : Int32)), (.int (0 : Int32)), (.int (0 : Int32)), (.int (0 : Int32)), (.int (0 : Int32)), (.int (0 : Int32)), (.int (0 : Int32)), (.int (0 : Int32)), (.int (0 : Int32)), (.int (0 : Int32)), (.int (0 : Int32)), (.int (0 : Int32)), (.int (0 : Int32)), (.int (0 : Int32)), (.int (0 : Int32)), (.int (0 : Int32)), (.int (0 : Int32)), (.int (0 : Int32)), (.int (0 : Int32)), (.int (0 : Int32)), (.int (0 : Int32)), (.int (0 : Int32)), (.int (0 : Int32)), (.int (0 : Int32)), (.int (0 : Int32)), (.int (0 : Int32)), (.int (0 : Int32)), (.int (0 : Int32)), (.int (0 : Int32)), (.int (0 : Int32)), (.int (0 : Int32)), (.int (0 : Int32)), (.int (0 : Int32)), (.int (0 : Int32)), (.int (0 : Int32))] := V44
  refine g_dup (pc' := 17) W44.here hx (hb hby d_method_4_16) rfl rfl ?_
  refine g_iconst (3 : Int32) (pc' := 18) W44.here hx (hb hby d_method_4_17) rfl rfl ?_
  refine g_iloadN (pc' := 19) W44.here hx (hb hby d_method_4_18) rfl rfl ?_
  refine w_castore (pc' := 20) (x' := fd) W44 hx V44 (by decide) (Nat.lt_of_lt_of_le (Nat.lt_succ_self _) (Nat.le_of_ble_eq_true rfl)) (List.mem_of_getElem? (i := 0) rfl) (own_nchar (own_c16 okfd.lat)) (hb hby d_method_4_19) rfl fun T45 h45 W45 K45 V45 => ?_
  have z_K45 : h44.size ≤ h45.size := K45.1
  have V45 : Ary Z h45 b41 .char [(.int fa), (.int fb), (.int fc), (.int fd), (.int (0 : Int32)), (.int (0 : Int32)), (.int (0 : Int32)), (.int (0 : Int32)), (.int (0 : Int32)), (.int (0 : Int32)), (.int (0 : Int32)), (.int (0 : Int32)), (.int (0 : Int32)), (.int (0 : Int32)), (.int (0 : Int32)), (.int (0 : Int32)), (.int (0 : Int32)), (.int (0 : Int32)), (.int (0 : Int32)), (.int (0 : Int32)), (.int (0 : Int32)), (.int (0 : Int32)), (.int (0 : Int32)), (.int (0 : Int32)), (.int (0 : Int32)), (.int (0 : Int32)), (.int (0 : Int32)), (.int (0 : Int32)), (.int (0 : Int32)), (.int (0 : Int32)), (.int (0 : Int32)), (.int (0 : Int32)), (.int (0 : Int32)), (.int (0 : Int32)), (.int (0 : Int32)), (.int (0 : Int32)), (.int (0 : Int32)), (.int (0 : Int32)), (.int (0 : Int32)), (.int (0 : Int32)), (.int (0 : Int32)), (.int (0 : Int32)), (.int (0 : Int32)), (.int (0 : Int32)), (.int (0 : Int32)), (.int (0 : Int32)), (.int (0 : Int32)), (.int (0 : Int32)), (.int (0 : Int32)), (.int (0 : Int32))] := V45
  refine g_dup (pc' := 21) W45.here hx (hb hby d_method_4_20) rfl rfl ?_
  refine g_iconst (4 : Int32) (pc' := 22) W45.here hx (hb hby d_method_4_21) rfl rfl ?_
  refine g_iloadN (pc' := 23) W45.here hx (hb hby d_method_4_22) rfl rfl ?_
  refine w_castore (pc' := 24) (x' := fa) W45 hx V45 (by decide) (Nat.lt_of_lt_of_le (Nat.lt_succ_self _) (Nat.le_of_ble_eq_true rfl)) (List.mem_of_getElem? (i := 0) rfl) (own_nchar (own_c16 okfa.lat)) (hb hby d_method_4_23) rfl fun T46 h46 W46 K46 V46 => ?_
  have z_K46 : h45.size ≤ h46.size := K46.1
  have V46 : Ary Z h46 b41 .char [(.int fa), (.int fb), (.int fc), (.int fd), (.int fa), (.int (0 : Int32)), (.int (0 : Int32)), (.int (0 : Int32)), (.int (0 : Int32)), (.int (0 : Int32)), (.int (0 : Int32)), (.int (0 : Int32)), (.int (0 : Int32)), (.int (0 : Int32)), (.int (0 : Int32)), (.int (0 : Int32)), (.int (0 : Int32)), (.int (0 : Int32)), (.int (0 : Int32)), (.int (0 : Int32)), (.int (0 : Int32)), (.int (0 : Int32)), (.int (0 : Int32)), (.int (0 : Int32)), (.int (0 : Int32)), (.int (0 : Int32)), (.int (0 : Int32)), (.int (0 : Int32)), (.int (0 : Int32)), (.int (0 : Int32)), (.int (0 : Int32)), (.int (0 : Int32)), (.int (0 : Int32)), (.int (0 : Int32)), (.int (0 : Int32)), (.int (0 : Int32)), (.int (0 : Int32)), (.int (0 : Int32)), (.int (0 : Int32)), (.int (0 : Int32)), (.int (0 : Int32)), (.int (0 : Int32)), (.int (0 : Int32)), (.int (0 : Int32)), (.int (0 : Int32)), (.int (0 : Int32)), (.int (0 : Int32)), (.int (0 : Int32)), (.int (0 : Int32)), (.int (0 : Int32))] := V46
  refine g_dup (pc' := 25) W46.here hx (hb hby d_method_4_24) rfl rfl ?_
  refine g_iconst (5 : Int32) (pc' := 26) W46.here hx (hb hby d_method_4_25) rfl rfl ?_
  refine g_iloadN (pc' := 27) W46.here hx (hb hby d_method_4_26) rfl rfl ?_
  refine w_castore (pc' := 28) (x' := fb) W46 hx V46 (by decide) (Nat.lt_of_lt_of_le (Nat.lt_succ_self _) (Nat.le_of_ble_eq_true rfl)) (List.mem_of_getElem? (i := 0) rfl) (own_nchar (own_c16 okfb.lat)) (hb hby d_method_4_27) rfl fun T47 h47 W47 K47 V47 => ?_
  have z_K47 : h46.size ≤ h47.size := K47.1
  have V47 : Ary Z h47 b41 .char [(.int fa), (.int fb), (.int fc), (.int fd), (.int fa), (.int fb), (.int (0 : Int32)), (.int (0 : Int32)), (.int (0 : Int32)), (.int (0 : Int32)), (.int (0 : Int32)), (.int (0 : Int32)), (.int (0 : Int32)), (.int (0 : Int32)), (.int (0 : Int32)), (.int (0 : Int32)), (.int (0 : Int32)), (.int (0 : Int32)), (.int (0 : Int32)), (.int (0 : Int32)), (.int (0 : Int32)), (.int (0 : Int32)), (.int (0 : Int32)), (.int (0 : Int32)), (.int (0 : Int32)), (.int (0 : Int32)), (.int (0 : Int32)), (.int (0 : Int32)), (.int (0 : Int32)), (.int (0 : Int32)), (.int (0 : Int32)), (.int (0 : Int32)), (.int (0 : Int32)), (.int (0 : Int32)), (.int (0 : Int32)), (.int (0 : Int32)), (.int (0 : Int32)), (.int (0 : Int32)), (.int (0 : Int32)), (.int (0 : Int32)), (.int (0 : Int32)), (.int (0 : Int32)), (.int (0 : Int32)), (.int (0 : Int32)), (.int (0 : Int32)), (.int (0 : Int32)), (.int (0 : Int32)), (.int (0 : Int32)), (.int (0 : Int32)), (.int (0 : Int32))] := V47
  refine g_dup (pc' := 29) W47.here hx (hb hby d_method_4_28) rfl rfl ?_
  refine g_bipush (6 : Int32) (pc' := 31) W47.here hx (hb hby d_method_4_29) rfl rfl ?_
  refine g_iloadN (pc' := 32) W47.here hx (hb hby d_method_4_31) rfl rfl ?_
  refine w_castore (pc' := 33) (x' := fc) W47 hx V47 (by decide) (Nat.lt_of_lt_of_le (Nat.lt_succ_self _) (Nat.le_of_ble_eq_true rfl)) (List.mem_of_getElem? (i := 0) rfl) (own_nchar (own_c16 okfc.lat)) (hb hby d_method_4_32) rfl fun T48 h48 W48 K48 V48 => ?_
  have z_K48 : h47.size ≤ h48.size := K48.1
  have V48 : Ary Z h48 b41 .char [(.int fa), (.int fb), (.int fc), (.int fd), (.int fa), (.int fb), (.int fc), (.int (0 : Int32)), (.int (0 : Int32)), (.int (0 : Int32)), (.int (0 : Int32)), (.int (0 : Int32)), (.int (0 : Int32)), (.int (0 : Int32)), (.int (0 : Int32)), (.int (0 : Int32)), (.int (0 : Int32)), (.int (0 : Int32)), (.int (0 : Int32)), (.int (0 : Int32)), (.int (0 : Int32)), (.int (0 : Int32)), (.int (0 : Int32)), (.int (0 : Int32)), (.int (0 : Int32)), (.int (0 : Int32)), (.int (0 : Int32)), (.int (0 : Int32)), (.int (0 : Int32)), (.int (0 : Int32)), (.int (0 : Int32)), (.int (0 : Int32)), (.int (0 : Int32)), (.int (0 : Int32)), (.int (0 : Int32)), (.int (0 : Int32)), (.int (0 : Int32)), (.int (0 : Int32)), (.int (0 : Int32)), (.int (0 : Int32)), (.int (0 : Int32)), (.int (0 : Int32)), (.int (0 : Int32)), (.int (0 : Int32)), (.int (0 : Int32)), (.int (0 : Int32)), (.int (0 : Int32)), (.int (0 : Int32)), (.int (0 : Int32)), (.int (0 : Int32))] := V48
  refine g_dup (pc' := 34) W48.here hx (hb hby d_method_4_33) rfl rfl ?_
  refine g_bipush (7 : Int32) (pc' := 36) W48.here hx (hb hby d_method_4_34) rfl rfl ?_
  refine g_iloadN (pc' := 37) W48.here hx (hb hby d_method_4_36) rfl rfl ?_
  refine w_castore (pc' := 38) (x' := fd) W48 hx V48 (by decide) (Nat.lt_of_lt_of_le (Nat.lt_succ_self _) (Nat.le_of_ble_eq_true rfl)) (List.mem_of_getElem? (i := 0) rfl) (own_nchar (own_c16 okfd.lat)) (hb hby d_method_4_37) rfl fun T49 h49 W49 K49 V49 => ?_
  have z_K49 : h48.size ≤ h49.size := K49.1
  have V49 : Ary Z h49 b41 .char [(.int fa), (.int fb), (.int fc), (.int fd), (.int fa), (.int fb), (.int fc), (.int fd), (.int (0 : Int32)), (.int (0 : Int32)), (.int (0 : Int32)), (.int (0 : Int32)), (.int (0 : Int32)), (.int (0 : Int32)), (.int (0 : Int32)), (.int (0 : Int32)), (.int (0 : Int32)), (.int (0 : Int32)), (.int (0 : Int32)), (.int (0 : Int32)), (.int (0 : Int32)), (.int (0 : Int32)), (.int (0 : Int32)), (.int (0 : Int32)), (.int (0 : Int32)), (.int (0 : Int32)), (.int (0 : Int32)), (.int (0 : Int32)), (.int (0 : Int32)), (.int (0 : Int32)), (.int (0 : Int32)), (.int (0 : Int32)), (.int (0 : Int32)), (.int (0 : Int32)), (.int (0 : Int32)), (.int (0 : Int32)), (.int (0 : Int32)), (.int (0 : Int32)), (.int (0 : Int32)), (.int (0 : Int32)), (.int (0 : Int32)), (.int (0 : Int32)), (.int (0 : Int32)), (.int (0 : Int32)), (.int (0 : Int32)), (.int (0 : Int32)), (.int (0 : Int32)), (.int (0 : Int32)), (.int (0 : Int32)), (.int (0 : Int32))] := V49
  refine g_dup (pc' := 39) W49.here hx (hb hby d_method_4_38) rfl rfl ?_
  refine g_bipush (8 : Int32) (pc' := 41) W49.here hx (hb hby d_method_4_39) rfl rfl ?_
  refine g_iloadN (pc' := 42) W49.here hx (hb hby d_method_4_41) rfl rfl ?_
  refine w_castore (pc' := 43) (x' := fa) W49 hx V49 (by decide) (Nat.lt_of_lt_of_le (Nat.lt_succ_self _) (Nat.le_of_ble_eq_true rfl)) (List.mem_of_getElem? (i := 0) rfl) (own_nchar (own_c16 okfa.lat)) (hb hby d_method_4_42) rfl fun T50 h50 W50 K50 V50 => ?_
  have z_K50 : h49.size ≤ h50.size := K50.1
  have V50 : Ary Z h50 b41 .char [(.int fa), (.int fb), (.int fc), (.int fd), (.int fa), (.int fb), (.int fc), (.int fd), (.int fa), (.int (0 : Int32)), (.int (0 : Int32)), (.int (0 : Int32)), (.int (0 : Int32)), (.int (0 : Int32)), (.int (0 : Int32)), (.int (0 : Int32)), (.int (0 : Int32)), (.int (0 : Int32)), (.int (0 : Int32)), (.int (0 : Int32)), (.int (0 : Int32)), (.int (0 : Int32)), (.int (0 : Int32)), (.int (0 : Int32)), (.int (0 : Int32)), (.int (0 : Int32)), (.int (0 : Int32)), (.int (0 : Int32)), (.int (0 : Int32)), (.int (0 : Int32)), (.int (0 : Int32)), (.int (0 : Int32)), (.int (0 : Int32)), (.int (0 : Int32)), (.int (0 : Int32)), (.int (0 : Int32)), (.int (0 : Int32)), (.int (0 : Int32)), (.int (0 : Int32)), (.int (0 : Int32)), (.int (0 : Int32)), (.int (0 : Int32)), (.int (0 : Int32)), (.int (0 : Int32)), (.int (0 : Int32)), (.int (0 : Int32)), (.int (0 : Int32)), (.int (0 : Int32)), (.int (0 : Int32)), (.int (0 : Int32))] := V50
  refine g_dup (pc' := 44) W50.here hx (hb hby d_method_4_43) rfl rfl ?_
  refine g_bipush (9 : Int32) (pc' := 46) W50.here hx (hb hby d_method_4_44) rfl rfl ?_
  refine g_iloadN (pc' := 47) W50.here hx (hb hby d_method_4_46) rfl rfl ?_
  refine w_castore (pc' := 48) (x' := fb) W50 hx V50 (by decide) (Nat.lt_of_lt_of_le (Nat.lt_succ_self _) (Nat.le_of_ble_eq_true rfl)) (List.mem_of_getElem? (i := 0) rfl) (own_nchar (own_c16 okfb.lat)) (hb hby d_method_4_47) rfl fun T51 h51 W51 K51 V51 => ?_
  have z_K51 : h50.size ≤ h51.size := K51.1
  have V51 : Ary Z h51 b41 .char [(.int fa), (.int fb), (.int fc), (.int fd), (.int fa), (.int fb), (.int fc), (.int fd), (.int fa), (.int fb), (.int (0 : Int32)), (.int (0 : Int32)), (.int (0 : Int32)), (.int (0 : Int32)), (.int (0 : Int32)), (.int (0 : Int32)), (.int (0 : Int32)), (.int (0 : Int32)), (.int (0 : Int32)), (.int (0 : Int32)), (.int (0 : Int32)), (.int (0 : Int32)), (.int (0 : Int32)), (.int (0 : Int32)), (.int (0 : Int32)), (.int (0 : Int32)), (.int (0 : Int32)), (.int (0 : Int32)), (.int (0 : Int32)), (.int (0 : Int32)), (.int (0 : Int32)), (.int (0 : Int32)), (.int (0 : Int32)), (.int (0 : Int32)), (.int (0 : Int32)), (.int (0 : Int32)), (.int (0 : Int32)), (.int (0 : Int32)), (.int (0 : Int32)), (.int (0 : Int32)), (.int (0 : Int32)), (.int (0 : Int32)), (.int (0 : Int32)), (.int (0 : Int32)), (.int (0 : Int32)), (.int (0 : Int32)), (.int (0 : Int32)), (.int (0 : Int32)), (.int (0 : Int32)), (.int (0 : Int32))] := V51
  refine g_dup (pc' := 49) W51.here hx (hb hby d_method_4_48) rfl rfl ?_
  refine g_bipush (10 : Int32) (pc' := 51) W51.here hx (hb hby d_method_4_49) rfl rfl ?_
  refine g_iloadN (pc' := 52) W51.here hx (hb hby d_method_4_51) rfl rfl ?_
  refine w_castore (pc' := 53) (x' := fc) W51 hx V51 (by decide) (Nat.lt_of_lt_of_le (Nat.lt_succ_self _) (Nat.le_of_ble_eq_true rfl)) (List.mem_of_getElem? (i := 0) rfl) (own_nchar (own_c16 okfc.lat)) (hb hby d_method_4_52) rfl fun T52 h52 W52 K52 V52 => ?_
  have z_K52 : h51.size ≤ h52.size := K52.1
  have V52 : Ary Z h52 b41 .char [(.int fa), (.int fb), (.int fc), (.int fd), (.int fa), (.int fb), (.int fc), (.int fd), (.int fa), (.int fb), (.int fc), (.int (0 : Int32)), (.int (0 : Int32)), (.int (0 : Int32)), (.int (0 : Int32)), (.int (0 : Int32)), (.int (0 : Int32)), (.int (0 : Int32)), (.int (0 : Int32)), (.int (0 : Int32)), (.int (0 : Int32)), (.int (0 : Int32)), (.int (0 : Int32)), (.int (0 : Int32)), (.int (0 : Int32)), (.int (0 : Int32)), (.int (0 : Int32)), (.int (0 : Int32)), (.int (0 : Int32)), (.int (0 : Int32)), (.int (0 : Int32)), (.int (0 : Int32)), (.int (0 : Int32)), (.int (0 : Int32)), (.int (0 : Int32)), (.int (0 : Int32)), (.int (0 : Int32)), (.int (0 : Int32)), (.int (0 : Int32)), (.int (0 : Int32)), (.int (0 : Int32)), (.int (0 : Int32)), (.int (0 : Int32)), (.int (0 : Int32)), (.int (0 : Int32)), (.int (0 : Int32)), (.int (0 : Int32)), (.int (0 : Int32)), (.int (0 : Int32)), (.int (0 : Int32))] := V52
  refine g_dup (pc' := 54) W52.here hx (hb hby d_method_4_53) rfl rfl ?_
  refine g_bipush (11 : Int32) (pc' := 56) W52.here hx (hb hby d_method_4_54) rfl rfl ?_
  refine g_iloadN (pc' := 57) W52.here hx (hb hby d_method_4_56) rfl rfl ?_
  refine w_castore (pc' := 58) (x' := fd) W52 hx V52 (by decide) (Nat.lt_of_lt_of_le (Nat.lt_succ_self _) (Nat.le_of_ble_eq_true rfl)) (List.mem_of_getElem? (i := 0) rfl) (own_nchar (own_c16 okfd.lat)) (hb hby d_method_4_57) rfl fun T53 h53 W53 K53 V53 => ?_
  have z_K53 : h52.size ≤ h53.size := K53.1
  have V53 : Ary Z h53 b41 .char [(.int fa), (.int fb), (.int fc), (.int fd), (.int fa), (.int fb), (.int fc), (.int fd), (.int fa), (.int fb), (.int fc), (.int fd), (.int (0 : Int32)), (.int (0 : Int32)), (.int (0 : Int32)), (.int (0 : Int32)), (.int (0 : Int32)), (.int (0 : Int32)), (.int (0 : Int32)), (.int (0 : Int32)), (.int (0 : Int32)), (.int (0 : Int32)), (.int (0 : Int32)), (.int (0 : Int32)), (.int (0 : Int32)), (.int (0 : Int32)), (.int (0 : Int32)), (.int (0 : Int32)), (.int (0 : Int32)), (.int (0 : Int32)), (.int (0 : Int32)), (.int (0 : Int32)), (.int (0 : Int32)), (.int (0 : Int32)), (.int (0 : Int32)), (.int (0 : Int32)), (.int (0 : Int32)), (.int (0 : Int32)), (.int (0 : Int32)), (.int (0 : Int32)), (.int (0 : Int32)), (.int (0 : Int32)), (.int (0 : Int32)), (.int (0 : Int32)), (.int (0 : Int32)), (.int (0 : Int32)), (.int (0 : Int32)), (.int (0 : Int32)), (.int (0 : Int32)), (.int (0 : Int32))] := V53
  refine g_dup (pc' := 59) W53.here hx (hb hby d_method_4_58) rfl rfl ?_
  refine g_bipush (12 : Int32) (pc' := 61) W53.here hx (hb hby d_method_4_59) rfl rfl ?_
  refine g_iloadN (pc' := 62) W53.here hx (hb hby d_method_4_61) rfl rfl ?_
  refine w_castore (pc' := 63) (x' := fa) W53 hx V53 (by decide) (Nat.lt_of_lt_of_le (Nat.lt_succ_self _) (Nat.le_of_ble_eq_true rfl)) (List.mem_of_getElem? (i := 0) rfl) (own_nchar (own_c16 okfa.lat)) (hb hby d_method_4_62) rfl fun T54 h54 W54 K54 V54 => ?_
  have z_K54 : h53.size ≤ h54.size := K54.1
  have V54 : Ary Z h54 b41 .char [(.int fa), (.int fb), (.int fc), (.int fd), (.int fa), (.int fb), (.int fc), (.int fd), (.int fa), (.int fb), (.int fc), (.int fd), (.int fa), (.int (0 : Int32)), (.int (0 : Int32)), (.int (0 : Int32)), (.int (0 : Int32)), (.int (0 : Int32)), (.int (0 : Int32)), (.int (0 : Int32)), (.int (0 : Int32)), (.int (0 : Int32)), (.int (0 : Int32)), (.int (0 : Int32)), (.int (0 : Int32)), (.int (0 : Int32)), (.int (0 : Int32)), (.int (0 : Int32)), (.int (0 : Int32)), (.int (0 : Int32)), (.int (0 : Int32)), (.int (0 : Int32)), (.int (0 : Int32)), (.int (0 : Int32)), (.int (0 : Int32)), (.int (0 : Int32)), (.int (0 : Int32)), (.int (0 : Int32)), (.int (0 : Int32)), (.int (0 : Int32)), (.int (0 : Int32)), (.int (0 : Int32)), (.int (0 : Int32)), (.int (0 : Int32)), (.int (0 : Int32)), (.int (0 : Int32)), (.int (0 : Int32)), (.int (0 : Int32)), (.int (0 : Int32)), (.int (0 : Int32))] := V54
  refine g_dup (pc' := 64) W54.here hx (hb hby d_method_4_63) rfl rfl ?_
  refine g_bipush (13 : Int32) (pc' := 66) W54.here hx (hb hby d_method_4_64) rfl rfl ?_
  refine g_iloadN (pc' := 67) W54.here hx (hb hby d_method_4_66) rfl rfl ?_
  refine w_castore (pc' := 68) (x' := fb) W54 hx V54 (by decide) (Nat.lt_of_lt_of_le (Nat.lt_succ_self _) (Nat.le_of_ble_eq_true rfl)) (List.mem_of_getElem? (i := 0) rfl) (own_nchar (own_c16 okfb.lat)) (hb hby d_method_4_67) rfl fun T55 h55 W55 K55 V55 => ?_
  have z_K55 : h54.size ≤ h55.size := K55.1
  have V55 : Ary Z h55 b41 .char [(.int fa), (.int fb), (.int fc), (.int fd), (.int fa), (.int fb), (.int fc), (.int fd), (.int fa), (.int fb), (.int fc), (.int fd), (.int fa), (.int fb), (.int (0 : Int32)), (.int (0 : Int32)), (.int (0 : Int32)), (.int (0 : Int32)), (.int (0 : Int32)), (.int (0 : Int32)), (.int (0 : Int32)), (.int (0 : Int32)), (.int (0 : Int32)), (.int (0 : Int32)), (.int (0 : Int32)), (.int (0 : Int32)), (.int (0 : Int32)), (.int (0 : Int32)), (.int (0 : Int32)), (.int (0 : Int32)), (.int (0 : Int32)), (.int (0 : Int32)), (.int (0 : Int32)), (.int (0 : Int32)), (.int (0 : Int32)), (.int (0 : Int32)), (.int (0 : Int32)), (.int (0 : Int32)), (.int (0 : Int32)), (.int (0 : Int32)), (.int (0 : Int32)), (.int (0 : Int32)), (.int (0 : Int32)), (.int (0 : Int32)), (.int (0 : Int32)), (.int (0 : Int32)), (.int (0 : Int32)), (.int (0 : Int32)), (.int (0 : Int32)), (.int (0 : Int32))] := V55
  refine g_dup (pc' := 69) W55.here hx (hb hby d_method_4_68) rfl rfl ?_
  refine g_bipush (14 : Int32) (pc' := 71) W55.here hx (hb hby d_method_4_69) rfl rfl ?_
  refine g_iloadN (pc' := 72) W55.here hx (hb hby d_method_4_71) rfl rfl ?_
  refine w_castore (pc' := 73) (x' := fc) W55 hx V55 (by decide) (Nat.lt_of_lt_of_le (Nat.lt_succ_self _) (Nat.le_of_ble_eq_true rfl)) (List.mem_of_getElem? (i := 0) rfl) (own_nchar (own_c16 okfc.lat)) (hb hby d_method_4_72) rfl fun T56 h56 W56 K56 V56 => ?_
  have z_K56 : h55.size ≤ h56.size := K56.1
  have V56 : Ary Z h56 b41 .char [(.int fa), (.int fb), (.int fc), (.int fd), (.int fa), (.int fb), (.int fc), (.int fd), (.int fa), (.int fb), (.int fc), (.int fd), (.int fa), (.int fb), (.int fc), (.int (0 : Int32)), (.int (0 : Int32)), (.int (0 : Int32)), (.int (0 : Int32)), (.int (0 : Int32)), (.int (0 : Int32)), (.int (0 : Int32)), (.int (0 : Int32)), (.int (0 : Int32)), (.int (0 : Int32)), (.int (0 : Int32)), (.int (0 : Int32)), (.int (0 : Int32)), (.int (0 : Int32)), (.int (0 : Int32)), (.int (0 : Int32)), (.int (0 : Int32)), (.int (0 : Int32)), (.int (0 : Int32)), (.int (0 : Int32)), (.int (0 : Int32)), (.int (0 : Int32)), (.int (0 : Int32)), (.int (0 : Int32)), (.int (0 : Int32)), (.int (0 : Int32)), (.int (0 : Int32)), (.int (0 : Int32)), (.int (0 : Int32)), (.int (0 : Int32)), (.int (0 : Int32)), (.int (0 : Int32)), (.int (0 : Int32)), (.int (0 : Int32)), (.int (0 : Int32))] := V56
  refine g_dup (pc' := 74) W56.here hx (hb hby d_method_4_73) rfl rfl ?_
  refine g_bipush (15 : Int32) (pc' := 76) W56.here hx (hb hby d_method_4_74) rfl rfl ?_
  refine g_iloadN (pc' := 77) W56.here hx (hb hby d_method_4_76) rfl rfl ?_
  refine w_castore (pc' := 78) (x' := fd) W56 hx V56 (by decide) (Nat.lt_of_lt_of_le (Nat.lt_succ_self _) (Nat.le_of_ble_eq_true rfl)) (List.mem_of_getElem? (i := 0) rfl) (own_nchar (own_c16 okfd.lat)) (hb hby d_method_4_77) rfl fun T57 h57 W57 K57 V57 => ?_
  have z_K57 : h56.size ≤ h57.size := K57.1
  have V57 : Ary Z h57 b41 .char [(.int fa), (.int fb), (.int fc), (.int fd), (.int fa), (.int fb), (.int fc), (.int fd), (.int fa), (.int fb), (.int fc), (.int fd), (.int fa), (.int fb), (.int fc), (.int fd), (.int (0 : Int32)), (.int (0 : Int32)), (.int (0 : Int32)), (.int (0 : Int32)), (.int (0 : Int32)), (.int (0 : Int32)), (.int (0 : Int32)), (.int (0 : Int32)), (.int (0 : Int32)), (.int (0 : Int32)), (.int (0 : Int32)), (.int (0 : Int32)), (.int (0 : Int32)), (.int (0 : Int32)), (.int (0 : Int32)), (.int (0 : Int32)), (.int (0 : Int32)), (.int (0 : Int32)), (.int (0 : Int32)), (.int (0 : Int32)), (.int (0 : Int32)), (.int (0 : Int32)), (.int (0 : Int32)), (.int (0 : Int32)), (.int (0 : Int32)), (.int (0 : Int32)), (.int (0 : Int32)), (.int (0 : Int32)), (.int (0 : Int32)), (.int (0 : Int32)), (.int (0 : Int32)), (.int (0 : Int32)), (.int (0 : Int32)), (.int (0 : Int32))] := V57
  refine g_dup (pc' := 79) W57.here hx (hb hby d_method_4_78) rfl rfl ?_
  refine g_bipush (16 : Int32) (pc' := 81) W57.here hx (hb hby d_method_4_79) rfl rfl ?_
  refine g_iloadN (pc' := 82) W57.here hx (hb hby d_method_4_81) rfl rfl ?_
  refine w_castore (pc' := 83) (x' := fa) W57 hx V57 (by decide) (Nat.lt_of_lt_of_le (Nat.lt_succ_self _) (Nat.le_of_ble_eq_true rfl)) (List.mem_of_getElem? (i := 0) rfl) (own_nchar (own_c16 okfa.lat)) (hb hby d_method_4_82) rfl fun T58 h58 W58 K58 V58 => ?_
  have z_K58 : h57.size ≤ h58.size := K58.1
  have V58 : Ary Z h58 b41 .char [(.int fa), (.int fb), (.int fc), (.int fd), (.int fa), (.int fb), (.int fc), (.int fd), (.int fa), (.int fb), (.int fc), (.int fd), (.int fa), (.int fb), (.int fc), (.int fd), (.int fa), (.int (0 : Int32)), (.int (0 : Int32)), (.int (0 : Int32)), (.int (0 : Int32)), (.int (0 : Int32)), (.int (0 : Int32)), (.int (0 : Int32)), (.int (0 : Int32)), (.int (0 : Int32)), (.int (0 : Int32)), (.int (0 : Int32)), (.int (0 : Int32)), (.int (0 : Int32)), (.int (0 : Int32)), (.int (0 : Int32)), (.int (0 : Int32)), (.int (0 : Int32)), (.int (0 : Int32)), (.int (0 : Int32)), (.int (0 : Int32)), (.int (0 : Int32)), (.int (0 : Int32)), (.int (0 : Int32)), (.int (0 : Int32)), (.int (0 : Int32)), (.int (0 : Int32)), (.int (0 : Int32)), (.int (0 : Int32)), (.int (0 : Int32)), (.int (0 : Int32)), (.int (0 : Int32)), (.int (0 : Int32)), (.int (0 : Int32))] := V58
  refine g_dup (pc' := 84) W58.here hx (hb hby d_method_4_83) rfl rfl ?_
  refine g_bipush (17 : Int32) (pc' := 86) W58.here hx (hb hby d_method_4_84) rfl rfl ?_
  refine g_iloadN (pc' := 87) W58.here hx (hb hby d_method_4_86) rfl rfl ?_
  refine w_castore (pc' := 88) (x' := fb) W58 hx V58 (by decide) (Nat.lt_of_lt_of_le (Nat.lt_succ_self _) (Nat.le_of_ble_eq_true rfl)) (List.mem_of_getElem? (i := 0) rfl) (own_nchar (own_c16 okfb.lat)) (hb hby d_method_4_87) rfl fun T59 h59 W59 K59 V59 => ?_
  have z_K59 : h58.size ≤ h59.size := K59.1
  have V59 : Ary Z h59 b41 .char [(.int fa), (.int fb), (.int fc), (.int fd), (.int fa), (.int fb), (.int fc), (.int fd), (.int fa), (.int fb), (.int fc), (.int fd), (.int fa), (.int fb), (.int fc), (.int fd), (.int fa), (.int fb), (.int (0 : Int32)), (.int (0 : Int32)), (.int (0 : Int32)), (.int (0 : Int32)), (.int (0 : Int32)), (.int (0 : Int32)), (.int (0 : Int32)), (.int (0 : Int32)), (.int (0 : Int32)), (.int (0 : Int32)), (.int (0 : Int32)), (.int (0 : Int32)), (.int (0 : Int32)), (.int (0 : Int32)), (.int (0 : Int32)), (.int (0 : Int32)), (.int (0 : Int32)), (.int (0 : Int32)), (.int (0 : Int32)), (.int (0 : Int32)), (.int (0 : Int32)), (.int (0 : Int32)), (.int (0 : Int32)), (.int (0 : Int32)), (.int (0 : Int32)), (.int (0 : Int32)), (.int (0 : Int32)), (.int (0 : Int32)), (.int (0 : Int32)), (.int (0 : Int32)), (.int (0 : Int32)), (.int (0 : Int32))] := V59
  refine g_dup (pc' := 89) W59.here hx (hb hby d_method_4_88) rfl rfl ?_
  refine g_bipush (18 : Int32) (pc' := 91) W59.here hx (hb hby d_method_4_89) rfl rfl ?_
  refine g_iloadN (pc' := 92) W59.here hx (hb hby d_method_4_91) rfl rfl ?_
  refine w_castore (pc' := 93) (x' := fc) W59 hx V59 (by decide) (Nat.lt_of_lt_of_le (Nat.lt_succ_self _) (Nat.le_of_ble_eq_true rfl)) (List.mem_of_getElem? (i := 0) rfl) (own_nchar (own_c16 okfc.lat)) (hb hby d_method_4_92) rfl fun T60 h60 W60 K60 V60 => ?_
  have z_K60 : h59.size ≤ h60.size := K60.1
  have V60 : Ary Z h60 b41 .char [(.int fa), (.int fb), (.int fc), (.int fd), (.int fa), (.int fb), (.int fc), (.int fd), (.int fa), (.int fb), (.int fc), (.int fd), (.int fa), (.int fb), (.int fc), (.int fd), (.int fa), (.int fb), (.int fc), (.int (0 : Int32)), (.int (0 : Int32)), (.int (0 : Int32)), (.int (0 : Int32)), (.int (0 : Int32)), (.int (0 : Int32)), (.int (0 : Int32)), (.int (0 : Int32)), (.int (0 : Int32)), (.int (0 : Int32)), (.int (0 : Int32)), (.int (0 : Int32)), (.int (0 : Int32)), (.int (0 : Int32)), (.int (0 : Int32)), (.int (0 : Int32)), (.int (0 : Int32)), (.int (0 : Int32)), (.int (0 : Int32)), (.int (0 : Int32)), (.int (0 : Int32)), (.int (0 : Int32)), (.int (0 : Int32)), (.int (0 : Int32)), (.int (0 : Int32)), (.int (0 : Int32)), (.int (0 : Int32)), (.int (0 : Int32)), (.int (0 : Int32)), (.int (0 : Int32)), (.int (0 : Int32))] := V60
  refine g_dup (pc' := 94) W60.here hx (hb hby d_method_4_93) rfl rfl ?_
  refine g_bipush (19 : Int32) (pc' := 96) W60.here hx (hb hby d_method_4_94) rfl rfl ?_
  refine g_iloadN (pc' := 97) W60.here hx (hb hby d_method_4_96) rfl rfl ?_
  refine w_castore (pc' := 98) (x' := fd) W60 hx V60 (by decide) (Nat.lt_of_lt_of_le (Nat.lt_succ_self _) (Nat.le_of_ble_eq_true rfl)) (List.mem_of_getElem? (i := 0) rfl) (own_nchar (own_c16 okfd.lat)) (hb hby d_method_4_97) rfl fun T61 h61 W61 K61 V61 => ?_
  have z_K61 : h60.size ≤ h61.size := K61.1
  have V61 : Ary Z h61 b41 .char [(.int fa), (.int fb), (.int fc), (.int fd), (.int fa), (.int fb), (.int fc), (.int fd), (.int fa), (.int fb), (.int fc), (.int fd), (.int fa), (.int fb), (.int fc), (.int fd), (.int fa), (.int fb), (.int fc), (.int fd), (.int (0 : Int32)), (.int (0 : Int32)), (.int (0 : Int32)), (.int (0 : Int32)), (.int (0 : Int32)), (.int (0 : Int32)), (.int (0 : Int32)), (.int (0 : Int32)), (.int (0 : Int32)), (.int (0 : Int32)), (.int (0 : Int32)), (.int (0 : Int32)), (.int (0 : Int32)), (.int (0 : Int32)), (.int (0 : Int32)), (.int (0 : Int32)), (.int (0 : Int32)), (.int (0 : Int32)), (.int (0 : Int32)), (.int (0 : Int32)), (.int (0 : Int32)), (.int (0 : Int32)), (.int (0 : Int32)), (.int (0 : Int32)), (.int (0 : Int32)), (.int (0 : Int32)), (.int (0 : Int32)), (.int (0 : Int32)), (.int (0 : Int32)), (.int (0 : Int32))] := V61
  refine g_dup (pc' := 99) W61.here hx (hb hby d_method_4_98) rfl rfl ?_
  refine g_bipush (20 : Int32) (pc' := 101) W61.here hx (hb hby d_method_4_99) rfl rfl ?_
  refine g_iloadN (pc' := 102) W61.here hx (hb hby d_method_4_101) rfl rfl ?_
  refine w_castore (pc' := 103) (x' := fa) W61 hx V61 (by decide) (Nat.lt_of_lt_of_le (Nat.lt_succ_self _) (Nat.le_of_ble_eq_true rfl)) (List.mem_of_getElem? (i := 0) rfl) (own_nchar (own_c16 okfa.lat)) (hb hby d_method_4_102) rfl fun T62 h62 W62 K62 V62 => ?_
  have z_K62 : h61.size ≤ h62.size := K62.1
  have V62 : Ary Z h62 b41 .char [(.int fa), (.int fb), (.int fc), (.int fd), (.int fa), (.int fb), (.int fc), (.int fd), (.int fa), (.int fb), (.int fc), (.int fd), (.int fa), (.int fb), (.int fc), (.int fd), (.int fa), (.int fb), (.int fc), (.int fd), (.int fa), (.int (0 : Int32)), (.int (0 : Int32)), (.int (0 : Int32)), (.int (0 : Int32)), (.int (0 : Int32)), (.int (0 : Int32)), (.int (0 : Int32)), (.int (0 : Int32)), (.int (0 : Int32)), (.int (0 : Int32)), (.int (0 : Int32)), (.int (0 : Int32)), (.int (0 : Int32)), (.int (0 : Int32)), (.int (0 : Int32)), (.int (0 : Int32)), (.int (0 : Int32)), (.int (0 : Int32)), (.int (0 : Int32)), (.int (0 : Int32)), (.int (0 : Int32)), (.int (0 : Int32)), (.int (0 : Int32)), (.int (0 : Int32)), (.int (0 : Int32)), (.int (0 : Int32)), (.int (0 : Int32)), (.int (0 : Int32)), (.int (0 : Int32))] := V62
  refine g_dup (pc' := 104) W62.here hx (hb hby d_method_4_103) rfl rfl ?_
  refine g_bipush (21 : Int32) (pc' := 106) W62.here hx (hb hby d_method_4_104) rfl rfl ?_
  refine g_iloadN (pc' := 107) W62.here hx (hb hby d_method_4_106) rfl rfl ?_
  refine w_castore (pc' := 108) (x' := fb) W62 hx V62 (by decide) (Nat.lt_of_lt_of_le (Nat.lt_succ_self _) (Nat.le_of_ble_eq_true rfl)) (List.mem_of_getElem? (i := 0) rfl) (own_nchar (own_c16 okfb.lat)) (hb hby d_method_4_107) rfl fun T63 h63 W63 K63 V63 => ?_
  have z_K63 : h62.size ≤ h63.size := K63.1
  have V63 : Ary Z h63 b41 .char [(.int fa), (.int fb), (.int fc), (.int fd), (.int fa), (.int fb), (.int fc), (.int fd), (.int fa), (.int fb), (.int fc), (.int fd), (.int fa), (.int fb), (.int fc), (.int fd), (.int fa), (.int fb), (.int fc), (.int fd), (.int fa), (.int fb), (.int (0 : Int32)), (.int (0 : Int32)), (.int (0 : Int32)), (.int (0 : Int32)), (.int (0 : Int32)), (.int (0 : Int32)), (.int (0 : Int32)), (.int (0 : Int32)), (.int (0 : Int32)), (.int (0 : Int32)), (.int (0 : Int32)), (.int (0 : Int32)), (.int (0 : Int32)), (.int (0 : Int32)), (.int (0 : Int32)), (.int (0 : Int32)), (.int (0 : Int32)), (.int (0 : Int32)), (.int (0 : Int32)), (.int (0 : Int32)), (.int (0 : Int32)), (.int (0 : Int32)), (.int (0 : Int32)), (.int (0 : Int32)), (.int (0 : Int32)), (.int (0 : Int32)), (.int (0 : Int32)), (.int (0 : Int32))] := V63
  refine g_dup (pc' := 109) W63.here hx (hb hby d_method_4_108) rfl rfl ?_
  refine g_bipush (22 : Int32) (pc' := 111) W63.here hx (hb hby d_method_4_109) rfl rfl ?_
  refine g_iloadN (pc' := 112) W63.here hx (hb hby d_method_4_111) rfl rfl ?_
  refine w_castore (pc' := 113) (x' := fc) W63 hx V63 (by decide) (Nat.lt_of_lt_of_le (Nat.lt_succ_self _) (Nat.le_of_ble_eq_true rfl)) (List.mem_of_getElem? (i := 0) rfl) (own_nchar (own_c16 okfc.lat)) (hb hby d_method_4_112) rfl fun T64 h64 W64 K64 V64 => ?_
  have z_K64 : h63.size ≤ h64.size := K64.1
  have V64 : Ary Z h64 b41 .char [(.int fa), (.int fb), (.int fc), (.int fd), (.int fa), (.int fb), (.int fc), (.int fd), (.int fa), (.int fb), (.int fc), (.int fd), (.int fa), (.int fb), (.int fc), (.int fd), (.int fa), (.int fb), (.int fc), (.int fd), (.int fa), (.int fb), (.int fc), (.int (0 : Int32)), (.int (0 : Int32)), (.int (0 : Int32)), (.int (0 : Int32)), (.int (0 : Int32)), (.int (0 : Int32)), (.int (0 : Int32)), (.int (0 : Int32)), (.int (0 : Int32)), (.int (0 : Int32)), (.int (0 : Int32)), (.int (0 : Int32)), (.int (0 : Int32)), (.int (0 : Int32)), (.int (0 : Int32)), (.int (0 : Int32)), (.int (0 : Int32)), (.int (0 : Int32)), (.int (0 : Int32)), (.int (0 : Int32)), (.int (0 : Int32)), (.int (0 : Int32)), (.int (0 : Int32)), (.int (0 : Int32)), (.int (0 : Int32)), (.int (0 : Int32)), (.int (0 : Int32))] := V64
  refine g_dup (pc' := 114) W64.here hx (hb hby d_method_4_113) rfl rfl ?_
  refine g_bipush (23 : Int32) (pc' := 116) W64.here hx (hb hby d_method_4_114) rfl rfl ?_
  refine g_iloadN (pc' := 117) W64.here hx (hb hby d_method_4_116) rfl rfl ?_
  refine w_castore (pc' := 118) (x' := fd) W64 hx V64 (by decide) (Nat.lt_of_lt_of_le (Nat.lt_succ_self _) (Nat.le_of_ble_eq_true rfl)) (List.mem_of_getElem? (i := 0) rfl) (own_nchar (own_c16 okfd.lat)) (hb hby d_method_4_117) rfl fun T65 h65 W65 K65 V65 => ?_
  have z_K65 : h64.size ≤ h65.size := K65.1
  have V65 : Ary Z h65 b41 .char [(.int fa), (.int fb), (.int fc), (.int fd), (.int fa), (.int fb), (.int fc), (.int fd), (.int fa), (.int fb), (.int fc), (.int fd), (.int fa), (.int fb), (.int fc), (.int fd), (.int fa), (.int fb), (.int fc), (.int fd), (.int fa), (.int fb), (.int fc), (.int fd), (.int (0 : Int32)), (.int (0 : Int32)), (.int (0 : Int32)), (.int (0 : Int32)), (.int (0 : Int32)), (.int (0 : Int32)), (.int (0 : Int32)), (.int (0 : Int32)), (.int (0 : Int32)), (.int (0 : Int32)), (.int (0 : Int32)), (.int (0 : Int32)), (.int (0 : Int32)), (.int (0 : Int32)), (.int (0 : Int32)), (.int (0 : Int32)), (.int (0 : Int32)), (.int (0 : Int32)), (.int (0 : Int32)), (.int (0 : Int32)), (.int (0 : Int32)), (.int (0 : Int32)), (.int (0 : Int32)), (.int (0 : Int32)), (.int (0 : Int32)), (.int (0 : Int32))] := V65
  refine g_dup (pc' := 119) W65.here hx (hb hby d_method_4_118) rfl rfl ?_
  refine g_bipush (24 : Int32) (pc' := 121) W65.here hx (hb hby d_method_4_119) rfl rfl ?_
  refine g_iloadN (pc' := 122) W65.here hx (hb hby d_method_4_121) rfl rfl ?_
  refine w_castore (pc' := 123) (x' := fa) W65 hx V65 (by decide) (Nat.lt_of_lt_of_le (Nat.lt_succ_self _) (Nat.le_of_ble_eq_true rfl)) (List.mem_of_getElem? (i := 0) rfl) (own_nchar (own_c16 okfa.lat)) (hb hby d_method_4_122) rfl fun T66 h66 W66 K66 V66 => ?_
  have z_K66 : h65.size ≤ h66.size := K66.1
  have V66 : Ary Z h66 b41 .char [(.int fa), (.int fb), (.int fc), (.int fd), (.int fa), (.int fb), (.int fc), (.int fd), (.int fa), (.int fb), (.int fc), (.int fd), (.int fa), (.int fb), (.int fc), (.int fd), (.int fa), (.int fb), (.int fc), (.int fd), (.int fa), (.int fb), (.int fc), (.int fd), (.int fa), (.int (0 : Int32)), (.int (0 : Int32)), (.int (0 : Int32)), (.int (0 : Int32)), (.int (0 : Int32)), (.int (0 : Int32)), (.int (0 : Int32)), (.int (0 : Int32)), (.int (0 : Int32)), (.int (0 : Int32)), (.int (0 : Int32)), (.int (0 : Int32)), (.int (0 : Int32)), (.int (0 : Int32)), (.int (0 : Int32)), (.int (0 : Int32)), (.int (0 : Int32)), (.int (0 : Int32)), (.int (0 : Int32)), (.int (0 : Int32)), (.int (0 : Int32)), (.int (0 : Int32)), (.int (0 : Int32)), (.int (0 : Int32)), (.int (0 : Int32))] := V66
  refine g_dup (pc' := 124) W66.here hx (hb hby d_method_4_123) rfl rfl ?_
  refine g_bipush (25 : Int32) (pc' := 126) W66.here hx (hb hby d_method_4_124) rfl rfl ?_
  refine g_iloadN (pc' := 127) W66.here hx (hb hby d_method_4_126) rfl rfl ?_
  refine w_castore (pc' := 128) (x' := fb) W66 hx V66 (by decide) (Nat.lt_of_lt_of_le (Nat.lt_succ_self _) (Nat.le_of_ble_eq_true rfl)) (List.mem_of_getElem? (i := 0) rfl) (own_nchar (own_c16 okfb.lat)) (hb hby d_method_4_127) rfl fun T67 h67 W67 K67 V67 => ?_
  have z_K67 : h66.size ≤ h67.size := K67.1
  have V67 : Ary Z h67 b41 .char [(.int fa), (.int fb), (.int fc), (.int fd), (.int fa), (.int fb), (.int fc), (.int fd), (.int fa), (.int fb), (.int fc), (.int fd), (.int fa), (.int fb), (.int fc), (.int fd), (.int fa), (.int fb), (.int fc), (.int fd), (.int fa), (.int fb), (.int fc), (.int fd), (.int fa), (.int fb), (.int (0 : Int32)), (.int (0 : Int32)), (.int (0 : Int32)), (.int (0 : Int32)), (.int (0 : Int32)), (.int (0 : Int32)), (.int (0 : Int32)), (.int (0 : Int32)), (.int (0 : Int32)), (.int (0 : Int32)), (.int (0 : Int32)), (.int (0 : Int32)), (.int (0 : Int32)), (.int (0 : Int32)), (.int (0 : Int32)), (.int (0 : Int32)), (.int (0 : Int32)), (.int (0 : Int32)), (.int (0 : Int32)), (.int (0 : Int32)), (.int (0 : Int32)), (.int (0 : Int32)), (.int (0 : Int32)), (.int (0 : Int32))] := V67
  refine g_dup (pc' := 129) W67.here hx (hb hby d_method_4_128) rfl rfl ?_
  refine g_bipush (26 : Int32) (pc' := 131) W67.here hx (hb hby d_method_4_129) rfl rfl ?_
  refine g_iloadN (pc' := 132) W67.here hx (hb hby d_method_4_131) rfl rfl ?_
  refine w_castore (pc' := 133) (x' := fc) W67 hx V67 (by decide) (Nat.lt_of_lt_of_le (Nat.lt_succ_self _) (Nat.le_of_ble_eq_true rfl)) (List.mem_of_getElem? (i := 0) rfl) (own_nchar (own_c16 okfc.lat)) (hb hby d_method_4_132) rfl fun T68 h68 W68 K68 V68 => ?_
  have z_K68 : h67.size ≤ h68.size := K68.1
  have V68 : Ary Z h68 b41 .char [(.int fa), (.int fb), (.int fc), (.int fd), (.int fa), (.int fb), (.int fc), (.int fd), (.int fa), (.int fb), (.int fc), (.int fd), (.int fa), (.int fb), (.int fc), (.int fd), (.int fa), (.int fb), (.int fc), (.int fd), (.int fa), (.int fb), (.int fc), (.int fd), (.int fa), (.int fb), (.int fc), (.int (0 : Int32)), (.int (0 : Int32)), (.int (0 : Int32)), (.int (0 : Int32)), (.int (0 : Int32)), (.int (0 : Int32)), (.int (0 : Int32)), (.int (0 : Int32)), (.int (0 : Int32)), (.int (0 : Int32)), (.int (0 : Int32)), (.int (0 : Int32)), (.int (0 : Int32)), (.int (0 : Int32)), (.int (0 : Int32)), (.int (0 : Int32)), (.int (0 : Int32)), (.int (0 : Int32)), (.int (0 : Int32)), (.int (0 : Int32)), (.int (0 : Int32)), (.int (0 : Int32)), (.int (0 : Int32))] := V68
  refine g_dup (pc' := 134) W68.here hx (hb hby d_method_4_133) rfl rfl ?_
  refine g_bipush (27 : Int32) (pc' := 136) W68.here hx (hb hby d_method_4_134) rfl rfl ?_
  refine g_iloadN (pc' := 137) W68.here hx (hb hby d_method_4_136) rfl rfl ?_
  refine w_castore (pc' := 138) (x' := fd) W68 hx V68 (by decide) (Nat.lt_of_lt_of_le (Nat.lt_succ_self _) (Nat.le_of_ble_eq_true rfl)) (List.mem_of_getElem? (i := 0) rfl) (own_nchar (own_c16 okfd.lat)) (hb hby d_method_4_137) rfl fun T69 h69 W69 K69 V69 => ?_
  have z_K69 : h68.size ≤ h69.size := K69.1
  have V69 : Ary Z h69 b41 .char [(.int fa), (.int fb), (.int fc), (.int fd), (.int fa), (.int fb), (.int fc), (.int fd), (.int fa), (.int fb), (.int fc), (.int fd), (.int fa), (.int fb), (.int fc), (.int fd), (.int fa), (.int fb), (.int fc), (.int fd), (.int fa), (.int fb), (.int fc), (.int fd), (.int fa), (.int fb), (.int fc), (.int fd), (.int (0 : Int32)), (.int (0 : Int32)), (.int (0 : Int32)), (.int (0 : Int32)), (.int (0 : Int32)), (.int (0 : Int32)), (.int (0 : Int32)), (.int (0 : Int32)), (.int (0 : Int32)), (.int (0 : Int32)), (.int (0 : Int32)), (.int (0 : Int32)), (.int (0 : Int32)), (.int (0 : Int32)), (.int (0 : Int32)), (.int (0 : Int32)), (.int (0 : Int32)), (.int (0 : Int32)), (.int (0 : Int32)), (.int (0 : Int32)), (.int (0 : Int32)), (.int (0 : Int32))] := V69
  refine g_dup (pc' := 139) W69.here hx (hb hby d_method_4_138) rfl rfl ?_
  refine g_bipush (28 : Int32) (pc' := 141) W69.here hx (hb hby d_method_4_139) rfl rfl ?_
  refine g_iloadN (pc' := 142) W69.here hx (hb hby d_method_4_141) rfl rfl ?_
  refine w_castore (pc' := 143) (x' := fa) W69 hx V69 (by decide) (Nat.lt_of_lt_of_le (Nat.lt_succ_self _) (Nat.le_of_ble_eq_true rfl)) (List.mem_of_getElem? (i := 0) rfl) (own_nchar (own_c16 okfa.lat)) (hb hby d_method_4_142) rfl fun T70 h70 W70 K70 V70 => ?_
  have z_K70 : h69.size ≤ h70.size := K70.1
  have V70 : Ary Z h70 b41 .char [(.int fa), (.int fb), (.int fc), (.int fd), (.int fa), (.int fb), (.int fc), (.int fd), (.int fa), (.int fb), (.int fc), (.int fd), (.int fa), (.int fb), (.int fc), (.int fd), (.int fa), (.int fb), (.int fc), (.int fd), (.int fa), (.int fb), (.int fc), (.int fd), (.int fa), (.int fb), (.int fc), (.int fd), (.int fa), (.int (0 : Int32)), (.int (0 : Int32)), (.int (0 : Int32)), (.int (0 : Int32)), (.int (0 : Int32)), (.int (0 : Int32)), (.int (0 : Int32)), (.int (0 : Int32)), (.int (0 : Int32)), (.int (0 : Int32)), (.int (0 : Int32)), (.int (0 : Int32)), (.int (0 : Int32)), (.int (0 : Int32)), (.int (0 : Int32)), (.int (0 : Int32)), (.int (0 : Int32)), (.int (0 : Int32)), (.int (0 : Int32)), (.int (0 : Int32)), (.int (0 : Int32))] := V70
  refine g_dup (pc' := 144) W70.here hx (hb hby d_method_4_143) rfl rfl ?_
  refine g_bipush (29 : Int32) (pc' := 146) W70.here hx (hb hby d_method_4_144) rfl rfl ?_
  refine g_iloadN (pc' := 147) W70.here hx (hb hby d_method_4_146) rfl rfl ?_
  refine w_castore (pc' := 148) (x' := fb) W70 hx V70 (by decide) (Nat.lt_of_lt_of_le (Nat.lt_succ_self _) (Nat.le_of_ble_eq_true rfl)) (List.mem_of_getElem? (i := 0) rfl) (own_nchar (own_c16 okfb.lat)) (hb hby d_method_4_147) rfl fun T71 h71 W71 K71 V71 => ?_
  have z_K71 : h70.size ≤ h71.size := K71.1
  have V71 : Ary Z h71 b41 .char [(.int fa), (.int fb), (.int fc), (.int fd), (.int fa), (.int fb), (.int fc), (.int fd), (.int fa), (.int fb), (.int fc), (.int fd), (.int fa), (.int fb), (.int fc), (.int fd), (.int fa), (.int fb), (.int fc), (.int fd), (.int fa), (.int fb), (.int fc), (.int fd), (.int fa), (.int fb), (.int fc), (.int fd), (.int fa), (.int fb), (.int (0 : Int32)), (.int (0 : Int32)), (.int (0 : Int32)), (.int (0 : Int32)), (.int (0 : Int32)), (.int (0 : Int32)), (.int (0 : Int32)), (.int (0 : Int32)), (.int (0 : Int32)), (.int (0 : Int32)), (.int (0 : Int32)), (.int (0 : Int32)), (.int (0 : Int32)), (.int (0 : Int32)), (.int (0 : Int32)), (.int (0 : Int32)), (.int (0 : Int32)), (.int (0 : Int32)), (.int (0 : Int32)), (.int (0 : Int32))] := V71
  refine g_dup (pc' := 149) W71.here hx (hb hby d_method_4_148) rfl rfl ?_
  refine g_bipush (30 : Int32) (pc' := 151) W71.here hx (hb hby d_method_4_149) rfl rfl ?_
  refine g_iloadN (pc' := 152) W71.here hx (hb hby d_method_4_151) rfl rfl ?_
  refine w_castore (pc' := 153) (x' := fc) W71 hx V71 (by decide) (Nat.lt_of_lt_of_le (Nat.lt_succ_self _) (Nat.le_of_ble_eq_true rfl)) (List.mem_of_getElem? (i := 0) rfl) (own_nchar (own_c16 okfc.lat)) (hb hby d_method_4_152) rfl fun T72 h72 W72 K72 V72 => ?_
  have z_K72 : h71.size ≤ h72.size := K72.1
  have V72 : Ary Z h72 b41 .char [(.int fa), (.int fb), (.int fc), (.int fd), (.int fa), (.int fb), (.int fc), (.int fd), (.int fa), (.int fb), (.int fc), (.int fd), (.int fa), (.int fb), (.int fc), (.int fd), (.int fa), (.int fb), (.int fc), (.int fd), (.int fa), (.int fb), (.int fc), (.int fd), (.int fa), (.int fb), (.int fc), (.int fd), (.int fa), (.int fb), (.int fc), (.int (0 : Int32)), (.int (0 : Int32)), (.int (0 : Int32)), (.int (0 : Int32)), (.int (0 : Int32)), (.int (0 : Int32)), (.int (0 : Int32)), (.int (0 : Int32)), (.int (0 : Int32)), (.int (0 : Int32)), (.int (0 : Int32)), (.int (0 : Int32)), (.int (0 : Int32)), (.int (0 : Int32)), (.int (0 : Int32)), (.int (0 : Int32)), (.int (0 : Int32)), (.int (0 : Int32)), (.int (0 : Int32))] := V72
  refine g_dup (pc' := 154) W72.here hx (hb hby d_method_4_153) rfl rfl ?_
  refine g_bipush (31 : Int32) (pc' := 156) W72.here hx (hb hby d_method_4_154) rfl rfl ?_
  refine g_iloadN (pc' := 157) W72.here hx (hb hby d_method_4_156) rfl rfl ?_
  refine w_castore (pc' := 158) (x' := fd) W72 hx V72 (by decide) (Nat.lt_of_lt_of_le (Nat.lt_succ_self _) (Nat.le_of_ble_eq_true rfl)) (List.mem_of_getElem? (i := 0) rfl) (own_nchar (own_c16 okfd.lat)) (hb hby d_method_4_157) rfl fun T73 h73 W73 K73 V73 => ?_
  have z_K73 : h72.size ≤ h73.size := K73.1
  have V73 : Ary Z h73 b41 .char [(.int fa), (.int fb), (.int fc), (.int fd), (.int fa), (.int fb), (.int fc), (.int fd), (.int fa), (.int fb), (.int fc), (.int fd), (.int fa), (.int fb), (.int fc), (.int fd), (.int fa), (.int fb), (.int fc), (.int fd), (.int fa), (.int fb), (.int fc), (.int fd), (.int fa), (.int fb), (.int fc), (.int fd), (.int fa), (.int fb), (.int fc), (.int fd), (.int (0 : Int32)), (.int (0 : Int32)), (.int (0 : Int32)), (.int (0 : Int32)), (.int (0 : Int32)), (.int (0 : Int32)), (.int (0 : Int32)), (.int (0 : Int32)), (.int (0 : Int32)), (.int (0 : Int32)), (.int (0 : Int32)), (.int (0 : Int32)), (.int (0 : Int32)), (.int (0 : Int32)), (.int (0 : Int32)), (.int (0 : Int32)), (.int (0 : Int32)), (.int (0 : Int32))] := V73
  refine g_dup (pc' := 159) W73.here hx (hb hby d_method_4_158) rfl rfl ?_
  refine g_bipush (32 : Int32) (pc' := 161) W73.here hx (hb hby d_method_4_159) rfl rfl ?_
  refine g_iloadN (pc' := 162) W73.here hx (hb hby d_method_4_161) rfl rfl ?_
  refine w_castore (pc' := 163) (x' := fa) W73 hx V73 (by decide) (Nat.lt_of_lt_of_le (Nat.lt_succ_self _) (Nat.le_of_ble_eq_true rfl)) (List.mem_of_getElem? (i := 0) rfl) (own_nchar (own_c16 okfa.lat)) (hb hby d_method_4_162) rfl fun T74 h74 W74 K74 V74 => ?_
  have z_K74 : h73.size ≤ h74.size := K74.1
  have V74 : Ary Z h74 b41 .char [(.int fa), (.int fb), (.int fc), (.int fd), (.int fa), (.int fb), (.int fc), (.int fd), (.int fa), (.int fb), (.int fc), (.int fd), (.int fa), (.int fb), (.int fc), (.int fd), (.int fa), (.int fb), (.int fc), (.int fd), (.int fa), (.int fb), (.int fc), (.int fd), (.int fa), (.int fb), (.int fc), (.int fd), (.int fa), (.int fb), (.int fc), (.int fd), (.int fa), (.int (0 : Int32)), (.int (0 : Int32)), (.int (0 : Int32)), (.int (0 : Int32)), (.int (0 : Int32)), (.int (0 : Int32)), (.int (0 : Int32)), (.int (0 : Int32)), (.int (0 : Int32)), (.int (0 : Int32)), (.int (0 : Int32)), (.int (0 : Int32)), (.int (0 : Int32)), (.int (0 : Int32)), (.int (0 : Int32)), (.int (0 : Int32)), (.int (0 : Int32))] := V74
  refine g_dup (pc' := 164) W74.here hx (hb hby d_method_4_163) rfl rfl ?_
  refine g_bipush (33 : Int32) (pc' := 166) W74.here hx (hb hby d_method_4_164) rfl rfl ?_
  refine g_iloadN (pc' := 167) W74.here hx (hb hby d_method_4_166) rfl rfl ?_
  refine w_castore (pc' := 168) (x' := fb) W74 hx V74 (by decide) (Nat.lt_of_lt_of_le (Nat.lt_succ_self _) (Nat.le_of_ble_eq_true rfl)) (List.mem_of_getElem? (i := 0) rfl) (own_nchar (own_c16 okfb.lat)) (hb hby d_method_4_167) rfl fun T75 h75 W75 K75 V75 => ?_
  have z_K75 : h74.size ≤ h75.size := K75.1
  have V75 : Ary Z h75 b41 .char [(.int fa), (.int fb), (.int fc), (.int fd), (.int fa), (.int fb), (.int fc), (.int fd), (.int fa), (.int fb), (.int fc), (.int fd), (.int fa), (.int fb), (.int fc), (.int fd), (.int fa), (.int fb), (.int fc), (.int fd), (.int fa), (.int fb), (.int fc), (.int fd), (.int fa), (.int fb), (.int fc), (.int fd), (.int fa), (.int fb), (.int fc), (.int fd), (.int fa), (.int fb), (.int (0 : Int32)), (.int (0 : Int32)), (.int (0 : Int32)), (.int (0 : Int32)), (.int (0 : Int32)), (.int (0 : Int32)), (.int (0 : Int32)), (.int (0 : Int32)), (.int (0 : Int32)), (.int (0 : Int32)), (.int (0 : Int32)), (.int (0 : Int32)), (.int (0 : Int32)), (.int (0 : Int32)), (.int (0 : Int32)), (.int (0 : Int32))] := V75
  refine g_dup (pc' := 169) W75.here hx (hb hby d_method_4_168) rfl rfl ?_
  refine g_bipush (34 : Int32) (pc' := 171) W75.here hx (hb hby d_method_4_169) rfl rfl ?_
  refine g_iloadN (pc' := 172) W75.here hx (hb hby d_method_4_171) rfl rfl ?_
  refine w_castore (pc' := 173) (x' := fc) W75 hx V75 (by decide) (Nat.lt_of_lt_of_le (Nat.lt_succ_self _) (Nat.le_of_ble_eq_true rfl)) (List.mem_of_getElem? (i := 0) rfl) (own_nchar (own_c16 okfc.lat)) (hb hby d_method_4_172) rfl fun T76 h76 W76 K76 V76 => ?_
  have z_K76 : h75.size ≤ h76.size := K76.1
  have V76 : Ary Z h76 b41 .char [(.int fa), (.int fb), (.int fc), (.int fd), (.int fa), (.int fb), (.int fc), (.int fd), (.int fa), (.int fb), (.int fc), (.int fd), (.int fa), (.int fb), (.int fc), (.int fd), (.int fa), (.int fb), (.int fc), (.int fd), (.int fa), (.int fb), (.int fc), (.int fd), (.int fa), (.int fb), (.int fc), (.int fd), (.int fa), (.int fb), (.int fc), (.int fd), (.int fa), (.int fb), (.int fc), (.int (0 : Int32)), (.int (0 : Int32)), (.int (0 : Int32)), (.int (0 : Int32)), (.int (0 : Int32)), (.int (0 : Int32)), (.int (0 : Int32)), (.int (0 : Int32)), (.int (0 : Int32)), (.int (0 : Int32)), (.int (0 : Int32)), (.int (0 : Int32)), (.int (0 : Int32)), (.int (0 : Int32)), (.int (0 : Int32))] := V76
  refine g_dup (pc' := 174) W76.here hx (hb hby d_method_4_173) rfl rfl ?_
  refine g_bipush (35 : Int32) (pc' := 176) W76.here hx (hb hby d_method_4_174) rfl rfl ?_
  refine g_iloadN (pc' := 177) W76.here hx (hb hby d_method_4_176) rfl rfl ?_
  refine w_castore (pc' := 178) (x' := fd) W76 hx V76 (by decide) (Nat.lt_of_lt_of_le (Nat.lt_succ_self _) (Nat.le_of_ble_eq_true rfl)) (List.mem_of_getElem? (i := 0) rfl) (own_nchar (own_c16 okfd.lat)) (hb hby d_method_4_177) rfl fun T77 h77 W77 K77 V77 => ?_
  have z_K77 : h76.size ≤ h77.size := K77.1
  have V77 : Ary Z h77 b41 .char [(.int fa), (.int fb), (.int fc), (.int fd), (.int fa), (.int fb), (.int fc), (.int fd), (.int fa), (.int fb), (.int fc), (.int fd), (.int fa), (.int fb), (.int fc), (.int fd), (.int fa), (.int fb), (.int fc), (.int fd), (.int fa), (.int fb), (.int fc), (.int fd), (.int fa), (.int fb), (.int fc), (.int fd), (.int fa), (.int fb), (.int fc), (.int fd), (.int fa), (.int fb), (.int fc), (.int fd), (.int (0 : Int32)), (.int (0 : Int32)), (.int (0 : Int32)), (.int (0 : Int32)), (.int (0 : Int32)), (.int (0 : Int32)), (.int (0 : Int32)), (.int (0 : Int32)), (.int (0 : Int32)), (.int (0 : Int32)), (.int (0 : Int32)), (.int (0 : Int32)), (.int (0 : Int32)), (.int (0 : Int32))] := V77
  refine g_dup (pc' := 179) W77.here hx (hb hby d_method_4_178) rfl rfl ?_
  refine g_bipush (36 : Int32) (pc' := 181) W77.here hx (hb hby d_method_4_179) rfl rfl ?_
  refine g_iloadN (pc' := 182) W77.here hx (hb hby d_method_4_181) rfl rfl ?_
  refine w_castore (pc' := 183) (x' := fa) W77 hx V77 (by decide) (Nat.lt_of_lt_of_le (Nat.lt_succ_self _) (Nat.le_of_ble_eq_true rfl)) (List.mem_of_getElem? (i := 0) rfl) (own_nchar (own_c16 okfa.lat)) (hb hby d_method_4_182) rfl fun T78 h78 W78 K78 V78 => ?_
  have z_K78 : h77.size ≤ h78.size := K78.1
  have V78 : Ary Z h78 b41 .char [(.int fa), (.int fb), (.int fc), (.int fd), (.int fa), (.int fb), (.int fc), (.int fd), (.int fa), (.int fb), (.int fc), (.int fd), (.int fa), (.int fb), (.int fc), (.int fd), (.int fa), (.int fb), (.int fc), (.int fd), (.int fa), (.int fb), (.int fc), (.int fd), (.int fa), (.int fb), (.int fc), (.int fd), (.int fa), (.int fb), (.int fc), (.int fd), (.int fa), (.int fb), (.int fc), (.int fd), (.int fa), (.int (0 : Int32)), (.int (0 : Int32)), (.int (0 : Int32)), (.int (0 : Int32)), (.int (0 : Int32)), (.int (0 : Int32)), (.int (0 : Int32)), (.int (0 : Int32)), (.int (0 : Int32)), (.int (0 : Int32)), (.int (0 : Int32)), (.int (0 : Int32)), (.int (0 : Int32))] := V78
  refine g_dup (pc' := 184) W78.here hx (hb hby d_method_4_183) rfl rfl ?_
  refine g_bipush (37 : Int32) (pc' := 186) W78.here hx (hb hby d_method_4_184) rfl rfl ?_
  refine g_iloadN (pc' := 187) W78.here hx (hb hby d_method_4_186) rfl rfl ?_
  refine w_castore (pc' := 188) (x' := fb) W78 hx V78 (by decide) (Nat.lt_of_lt_of_le (Nat.lt_succ_self _) (Nat.le_of_ble_eq_true rfl)) (List.mem_of_getElem? (i := 0) rfl) (own_nchar (own_c16 okfb.lat)) (hb hby d_method_4_187) rfl fun T79 h79 W79 K79 V79 => ?_
  have z_K79 : h78.size ≤ h79.size := K79.1
  have V79 : Ary Z h79 b41 .char [(.int fa), (.int fb), (.int fc), (.int fd), (.int fa), (.int fb), (.int fc), (.int fd), (.int fa), (.int fb), (.int fc), (.int fd), (.int fa), (.int fb), (.int fc), (.int fd), (.int fa), (.int fb), (.int fc), (.int fd), (.int fa), (.int fb), (.int fc), (.int fd), (.int fa), (.int fb), (.int fc), (.int fd), (.int fa), (.int fb), (.int fc), (.int fd), (.int fa), (.int fb), (.int fc), (.int fd), (.int fa), (.int fb), (.int (0 : Int32)), (.int (0 : Int32)), (.int (0 : Int32)), (.int (0 : Int32)), (.int (0 : Int32)), (.int (0 : Int32)), (.int (0 : Int32)), (.int (0 : Int32)), (.int (0 : Int32)), (.int (0 : Int32)), (.int (0 : Int32)), (.int (0 : Int32))] := V79
  refine g_dup (pc' := 189) W79.here hx (hb hby d_method_4_188) rfl rfl ?_
  refine g_bipush (38 : Int32) (pc' := 191) W79.here hx (hb hby d_method_4_189) rfl rfl ?_
  refine g_iloadN (pc' := 192) W79.here hx (hb hby d_method_4_191) rfl rfl ?_
  refine w_castore (pc' := 193) (x' := fc) W79 hx V79 (by decide) (Nat.lt_of_lt_of_le (Nat.lt_succ_self _) (Nat.le_of_ble_eq_true rfl)) (List.mem_of_getElem? (i := 0) rfl) (own_nchar (own_c16 okfc.lat)) (hb hby d_method_4_192) rfl fun T80 h80 W80 K80 V80 => ?_
  have z_K80 : h79.size ≤ h80.size := K80.1
  have V80 : Ary Z h80 b41 .char [(.int fa), (.int fb), (.int fc), (.int fd), (.int fa), (.int fb), (.int fc), (.int fd), (.int fa), (.int fb), (.int fc), (.int fd), (.int fa), (.int fb), (.int fc), (.int fd), (.int fa), (.int fb), (.int fc), (.int fd), (.int fa), (.int fb), (.int fc), (.int fd), (.int fa), (.int fb), (.int fc), (.int fd), (.int fa), (.int fb), (.int fc), (.int fd), (.int fa), (.int fb), (.int fc), (.int fd), (.int fa), (.int fb), (.int fc), (.int (0 : Int32)), (.int (0 : Int32)), (.int (0 : Int32)), (.int (0 : Int32)), (.int (0 : Int32)), (.int (0 : Int32)), (.int (0 : Int32)), (.int (0 : Int32)), (.int (0 : Int32)), (.int (0 : Int32)), (.int (0 : Int32))] := V80
  refine g_dup (pc' := 194) W80.here hx (hb hby d_method_4_193) rfl rfl ?_
  refine g_bipush (39 : Int32) (pc' := 196) W80.here hx (hb hby d_method_4_194) rfl rfl ?_
  refine g_iloadN (pc' := 197) W80.here hx (hb hby d_method_4_196) rfl rfl ?_
  refine w_castore (pc' := 198) (x' := fd) W80 hx V80 (by decide) (Nat.lt_of_lt_of_le (Nat.lt_succ_self _) (Nat.le_of_ble_eq_true rfl)) (List.mem_of_getElem? (i := 0) rfl) (own_nchar (own_c16 okfd.lat)) (hb hby d_method_4_197) rfl fun T81 h81 W81 K81 V81 => ?_
  have z_K81 : h80.size ≤ h81.size := K81.1
  have V81 : Ary Z h81 b41 .char [(.int fa), (.int fb), (.int fc), (.int fd), (.int fa), (.int fb), (.int fc), (.int fd), (.int fa), (.int fb), (.int fc), (.int fd), (.int fa), (.int fb), (.int fc), (.int fd), (.int fa), (.int fb), (.int fc), (.int fd), (.int fa), (.int fb), (.int fc), (.int fd), (.int fa), (.int fb), (.int fc), (.int fd), (.int fa), (.int fb), (.int fc), (.int fd), (.int fa), (.int fb), (.int fc), (.int fd), (.int fa), (.int fb), (.int fc), (.int fd), (.int (0 : Int32)), (.int (0 : Int32)), (.int (0 : Int32)), (.int (0 : Int32)), (.int (0 : Int32)), (.int (0 : Int32)), (.int (0 : Int32)), (.int (0 : Int32)), (.int (0 : Int32)), (.int (0 : Int32))] := V81
  refine g_dup (pc' := 199) W81.here hx (hb hby d_method_4_198) rfl rfl ?_
  refine g_bipush (40 : Int32) (pc' := 201) W81.here hx (hb hby d_method_4_199) rfl rfl ?_
  refine g_iloadN (pc' := 202) W81.here hx (hb hby d_method_4_201) rfl rfl ?_
  refine w_castore (pc' := 203) (x' := fa) W81 hx V81 (by decide) (Nat.lt_of_lt_of_le (Nat.lt_succ_self _) (Nat.le_of_ble_eq_true rfl)) (List.mem_of_getElem? (i := 0) rfl) (own_nchar (own_c16 okfa.lat)) (hb hby d_method_4_202) rfl fun T82 h82 W82 K82 V82 => ?_
  have z_K82 : h81.size ≤ h82.size := K82.1
  have V82 : Ary Z h82 b41 .char [(.int fa), (.int fb), (.int fc), (.int fd), (.int fa), (.int fb), (.int fc), (.int fd), (.int fa), (.int fb), (.int fc), (.int fd), (.int fa), (.int fb), (.int fc), (.int fd), (.int fa), (.int fb), (.int fc), (.int fd), (.int fa), (.int fb), (.int fc), (.int fd), (.int fa), (.int fb), (.int fc), (.int fd), (.int fa), (.int fb), (.int fc), (.int fd), (.int fa), (.int fb), (.int fc), (.int fd), (.int fa), (.int fb), (.int fc), (.int fd), (.int fa), (.int (0 : Int32)), (.int (0 : Int32)), (.int (0 : Int32)), (.int (0 : Int32)), (.int (0 : Int32)), (.int (0 : Int32)), (.int (0 : Int32)), (.int (0 : Int32)), (.int (0 : Int32))] := V82
  refine g_dup (pc' := 204) W82.here hx (hb hby d_method_4_203) rfl rfl ?_
  refine g_bipush (41 : Int32) (pc' := 206) W82.here hx (hb hby d_method_4_204) rfl rfl ?_
  refine g_iloadN (pc' := 207) W82.here hx (hb hby d_method_4_206) rfl rfl ?_
  refine w_castore (pc' := 208) (x' := fb) W82 hx V82 (by decide) (Nat.lt_of_lt_of_le (Nat.lt_succ_self _) (Nat.le_of_ble_eq_true rfl)) (List.mem_of_getElem? (i := 0) rfl) (own_nchar (own_c16 okfb.lat)) (hb hby d_method_4_207) rfl fun T83 h83 W83 K83 V83 => ?_
  have z_K83 : h82.size ≤ h83.size := K83.1
  have V83 : Ary Z h83 b41 .char [(.int fa), (.int fb), (.int fc), (.int fd), (.int fa), (.int fb), (.int fc), (.int fd), (.int fa), (.int fb), (.int fc), (.int fd), (.int fa), (.int fb), (.int fc), (.int fd), (.int fa), (.int fb), (.int fc), (.int fd), (.int fa), (.int fb), (.int fc), (.int fd), (.int fa), (.int fb), (.int fc), (.int fd), (.int fa), (.int fb), (.int fc), (.int fd), (.int fa), (.int fb), (.int fc), (.int fd), (.int fa), (.int fb), (.int fc), (.int fd), (.int fa), (.int fb), (.int (0 : Int32)), (.int (0 : Int32)), (.int (0 : Int32)), (.int (0 : Int32)), (.int (0 : Int32)), (.int (0 : Int32)), (.int (0 : Int32)), (.int (0 : Int32))] := V83
  refine g_dup (pc' := 209) W83.here hx (hb hby d_method_4_208) rfl rfl ?_
  refine g_bipush (42 : Int32) (pc' := 211) W83.here hx (hb hby d_method_4_209) rfl rfl ?_
  refine g_iloadN (pc' := 212) W83.here hx (hb hby d_method_4_211) rfl rfl ?_
  refine w_castore (pc' := 213) (x' := fc) W83 hx V83 (by decide) (Nat.lt_of_lt_of_le (Nat.lt_succ_self _) (Nat.le_of_ble_eq_true rfl)) (List.mem_of_getElem? (i := 0) rfl) (own_nchar (own_c16 okfc.lat)) (hb hby d_method_4_212) rfl fun T84 h84 W84 K84 V84 => ?_
  have z_K84 : h83.size ≤ h84.size := K84.1
  have V84 : Ary Z h84 b41 .char [(.int fa), (.int fb), (.int fc), (.int fd), (.int fa), (.int fb), (.int fc), (.int fd), (.int fa), (.int fb), (.int fc), (.int fd), (.int fa), (.int fb), (.int fc), (.int fd), (.int fa), (.int fb), (.int fc), (.int fd), (.int fa), (.int fb), (.int fc), (.int fd), (.int fa), (.int fb), (.int fc), (.int fd), (.int fa), (.int fb), (.int fc), (.int fd), (.int fa), (.int fb), (.int fc), (.int fd), (.int fa), (.int fb), (.int fc), (.int fd), (.int fa), (.int fb), (.int fc), (.int (0 : Int32)), (.int (0 : Int32)), (.int (0 : Int32)), (.int (0 : Int32)), (.int (0 : Int32)), (.int (0 : Int32)), (.int (0 : Int32))] := V84
  refine g_dup (pc' := 214) W84.here hx (hb hby d_method_4_213) rfl rfl ?_
  refine g_bipush (43 : Int32) (pc' := 216) W84.here hx (hb hby d_method_4_214) rfl rfl ?_
  refine g_iloadN (pc' := 217) W84.here hx (hb hby d_method_4_216) rfl rfl ?_
  refine w_castore (pc' := 218) (x' := fd) W84 hx V84 (by decide) (Nat.lt_of_lt_of_le (Nat.lt_succ_self _) (Nat.le_of_ble_eq_true rfl)) (List.mem_of_getElem? (i := 0) rfl) (own_nchar (own_c16 okfd.lat)) (hb hby d_method_4_217) rfl fun T85 h85 W85 K85 V85 => ?_
  have z_K85 : h84.size ≤ h85.size := K85.1
  have V85 : Ary Z h85 b41 .char [(.int fa), (.int fb), (.int fc), (.int fd), (.int fa), (.int fb), (.int fc), (.int fd), (.int fa), (.int fb), (.int fc), (.int fd), (.int fa), (.int fb), (.int fc), (.int fd), (.int fa), (.int fb), (.int fc), (.int fd), (.int fa), (.int fb), (.int fc), (.int fd), (.int fa), (.int fb), (.int fc), (.int fd), (.int fa), (.int fb), (.int fc), (.int fd), (.int fa), (.int fb), (.int fc), (.int fd), (.int fa), (.int fb), (.int fc), (.int fd), (.int fa), (.int fb), (.int fc), (.int fd), (.int (0 : Int32)), (.int (0 : Int32)), (.int (0 : Int32)), (.int (0 : Int32)), (.int (0 : Int32)), (.int (0 : Int32))] := V85
  refine g_dup (pc' := 219) W85.here hx (hb hby d_method_4_218) rfl rfl ?_
  refine g_bipush (44 : Int32) (pc' := 221) W85.here hx (hb hby d_method_4_219) rfl rfl ?_
  refine g_iloadN (pc' := 222) W85.here hx (hb hby d_method_4_221) rfl rfl ?_
  refine w_castore (pc' := 223) (x' := fa) W85 hx V85 (by decide) (Nat.lt_of_lt_of_le (Nat.lt_succ_self _) (Nat.le_of_ble_eq_true rfl)) (List.mem_of_getElem? (i := 0) rfl) (own_nchar (own_c16 okfa.lat)) (hb hby d_method_4_222) rfl fun T86 h86 W86 K86 V86 => ?_
  have z_K86 : h85.size ≤ h86.size := K86.1
  have V86 : Ary Z h86 b41 .char [(.int fa), (.int fb), (.int fc), (.int fd), (.int fa), (.int fb), (.int fc), (.int fd), (.int fa), (.int fb), (.int fc), (.int fd), (.int fa), (.int fb), (.int fc), (.int fd), (.int fa), (.int fb), (.int fc), (.int fd), (.int fa), (.int fb), (.int fc), (.int fd), (.int fa), (.int fb), (.int fc), (.int fd), (.int fa), (.int fb), (.int fc), (.int fd), (.int fa), (.int fb), (.int fc), (.int fd), (.int fa), (.int fb), (.int fc), (.int fd), (.int fa), (.int fb), (.int fc), (.int fd), (.int fa), (.int (0 : Int32)), (.int (0 : Int32)), (.int (0 : Int32)), (.int (0 : Int32)), (.int (0 : Int32))] := V86
  refine g_dup (pc' := 224) W86.here hx (hb hby d_method_4_223) rfl rfl ?_
  refine g_bipush (45 : Int32) (pc' := 226) W86.here hx (hb hby d_method_4_224) rfl rfl ?_
  refine g_iloadN (pc' := 227) W86.here hx (hb hby d_method_4_226) rfl rfl ?_
  refine w_castore (pc' := 228) (x' := fb) W86 hx V86 (by decide) (Nat.lt_of_lt_of_le (Nat.lt_succ_self _) (Nat.le_of_ble_eq_true rfl)) (List.mem_of_getElem? (i := 0) rfl) (own_nchar (own_c16 okfb.lat)) (hb hby d_method_4_227) rfl fun T87 h87 W87 K87 V87 => ?_
  have z_K87 : h86.size ≤ h87.size := K87.1
  have V87 : Ary Z h87 b41 .char [(.int fa), (.int fb), (.int fc), (.int fd), (.int fa), (.int fb), (.int fc), (.int fd), (.int fa), (.int fb), (.int fc), (.int fd), (.int fa), (.int fb), (.int fc), (.int fd), (.int fa), (.int fb), (.int fc), (.int fd), (.int fa), (.int fb), (.int fc), (.int fd), (.int fa), (.int fb), (.int fc), (.int fd), (.int fa), (.int fb), (.int fc), (.int fd), (.int fa), (.int fb), (.int fc), (.int fd), (.int fa), (.int fb), (.int fc), (.int fd), (.int fa), (.int fb), (.int fc), (.int fd), (.int fa), (.int fb), (.int (0 : Int32)), (.int (0 : Int32)), (.int (0 : Int32)), (.int (0 : Int32))] := V87
  refine g_dup (pc' := 229) W87.here hx (hb hby d_method_4_228) rfl rfl ?_
  refine g_bipush (46 : Int32) (pc' := 231) W87.here hx (hb hby d_method_4_229) rfl rfl ?_
  refine g_iloadN (pc' := 232) W87.here hx (hb hby d_method_4_231) rfl rfl ?_
  refine w_castore (pc' := 233) (x' := fc) W87 hx V87 (by decide) (Nat.lt_of_lt_of_le (Nat.lt_succ_self _) (Nat.le_of_ble_eq_true rfl)) (List.mem_of_getElem? (i := 0) rfl) (own_nchar (own_c16 okfc.lat)) (hb hby d_method_4_232) rfl fun T88 h88 W88 K88 V88 => ?_
  have z_K88 : h87.size ≤ h88.size := K88.1
  have V88 : Ary Z h88 b41 .char [(.int fa), (.int fb), (.int fc), (.int fd), (.int fa), (.int fb), (.int fc), (.int fd), (.int fa), (.int fb), (.int fc), (.int fd), (.int fa), (.int fb), (.int fc), (.int fd), (.int fa), (.int fb), (.int fc), (.int fd), (.int fa), (.int fb), (.int fc), (.int fd), (.int fa), (.int fb), (.int fc), (.int fd), (.int fa), (.int fb), (.int fc), (.int fd), (.int fa), (.int fb), (.int fc), (.int fd), (.int fa), (.int fb), (.int fc), (.int fd), (.int fa), (.int fb), (.int fc), (.int fd), (.int fa), (.int fb), (.int fc), (.int (0 : Int32)), (.int (0 : Int32)), (.int (0 : Int32))] := V88
  refine g_dup (pc' := 234) W88.here hx (hb hby d_method_4_233) rfl rfl ?_
  refine g_bipush (47 : Int32) (pc' := 236) W88.here hx (hb hby d_method_4_234) rfl rfl ?_
  refine g_iloadN (pc' := 237) W88.here hx (hb hby d_method_4_236) rfl rfl ?_
  refine w_castore (pc' := 238) (x' := fd) W88 hx V88 (by decide) (Nat.lt_of_lt_of_le (Nat.lt_succ_self _) (Nat.le_of_ble_eq_true rfl)) (List.mem_of_getElem? (i := 0) rfl) (own_nchar (own_c16 okfd.lat)) (hb hby d_method_4_237) rfl fun T89 h89 W89 K89 V89 => ?_
  have z_K89 : h88.size ≤ h89.size := K89.1
  have V89 : Ary Z h89 b41 .char [(.int fa), (.int fb), (.int fc), (.int fd), (.int fa), (.int fb), (.int fc), (.int fd), (.int fa), (.int fb), (.int fc), (.int fd), (.int fa), (.int fb), (.int fc), (.int fd), (.int fa), (.int fb), (.int fc), (.int fd), (.int fa), (.int fb), (.int fc), (.int fd), (.int fa), (.int fb), (.int fc), (.int fd), (.int fa), (.int fb), (.int fc), (.int fd), (.int fa), (.int fb), (.int fc), (.int fd), (.int fa), (.int fb), (.int fc), (.int fd), (.int fa), (.int fb), (.int fc), (.int fd), (.int fa), (.int fb), (.int fc), (.int fd), (.int (0 : Int32)), (.int (0 : Int32))] := V89
  refine g_dup (pc' := 239) W89.here hx (hb hby d_method_4_238) rfl rfl ?_
  refine g_bipush (48 : Int32) (pc' := 241) W89.here hx (hb hby d_method_4_239) rfl rfl ?_
  refine g_iloadN (pc' := 242) W89.here hx (hb hby d_method_4_241) rfl rfl ?_
  refine w_castore (pc' := 243) (x' := fa) W89 hx V89 (by decide) (Nat.lt_of_lt_of_le (Nat.lt_succ_self _) (Nat.le_of_ble_eq_true rfl)) (List.mem_of_getElem? (i := 0) rfl) (own_nchar (own_c16 okfa.lat)) (hb hby d_method_4_242) rfl fun T90 h90 W90 K90 V90 => ?_
  have z_K90 : h89.size ≤ h90.size := K90.1
  have V90 : Ary Z h90 b41 .char [(.int fa), (.int fb), (.int fc), (.int fd), (.int fa), (.int fb), (.int fc), (.int fd), (.int fa), (.int fb), (.int fc), (.int fd), (.int fa), (.int fb), (.int fc), (.int fd), (.int fa), (.int fb), (.int fc), (.int fd), (.int fa), (.int fb), (.int fc), (.int fd), (.int fa), (.int fb), (.int fc), (.int fd), (.int fa), (.int fb), (.int fc), (.int fd), (.int fa), (.int fb), (.int fc), (.int fd), (.int fa), (.int fb), (.int fc), (.int fd), (.int fa), (.int fb), (.int fc), (.int fd), (.int fa), (.int fb), (.int fc), (.int fd), (.int fa), (.int (0 : Int32))] := V90
  refine g_dup (pc' := 244) W90.here hx (hb hby d_method_4_243) rfl rfl ?_
  refine g_bipush (49 : Int32) (pc' := 246) W90.here hx (hb hby d_method_4_244) rfl rfl ?_
  refine g_iloadN (pc' := 247) W90.here hx (hb hby d_method_4_246) rfl rfl ?_
  refine w_castore (pc' := 248) (x' := fb) W90 hx V90 (by decide) (Nat.lt_of_lt_of_le (Nat.lt_succ_self _) (Nat.le_of_ble_eq_true rfl)) (List.mem_of_getElem? (i := 0) rfl) (own_nchar (own_c16 okfb.lat)) (hb hby d_method_4_247) rfl fun T91 h91 W91 K91 V91 => ?_
  have z_K91 : h90.size ≤ h91.size := K91.1
  have V91 : Ary Z h91 b41 .char [(.int fa), (.int fb), (.int fc), (.int fd), (.int fa), (.int fb), (.int fc), (.int fd), (.int fa), (.int fb), (.int fc), (.int fd), (.int fa), (.int fb), (.int fc), (.int fd), (.int fa), (.int fb), (.int fc), (.int fd), (.int fa), (.int fb), (.int fc), (.int fd), (.int fa), (.int fb), (.int fc), (.int fd), (.int fa), (.int fb), (.int fc), (.int fd), (.int fa), (.int fb), (.int fc), (.int fd), (.int fa), (.int fb), (.int fc), (.int fd), (.int fa), (.int fb), (.int fc), (.int fd), (.int fa), (.int fb), (.int fc), (.int fd), (.int fa), (.int fb)] := V91
  refine w_retA W91 hx hh hlk hret rfl rfl (hb hby d_method_4_248) (Nat.le_of_ble_eq_true rfl) (Nat.le_of_ble_eq_true rfl) ?_
  exact ⟨_, rfl, by omega, V91⟩
set_option maxRecDepth 65536 in
set_option maxHeartbeats 40000000 in
theorem c_isKey (l : Launch) (Z : State) (a0 : Array Value) (hw : ∀ d ∈ tables_1, d.before a0 Z = true) (hE : EW Z a0 ([] : List (String × Nat))) (cv : Int32) (h0 : Heap) (O : Ext Z.heap h0) (hok : okc cv) :
    Con l Z ([] : List (String × Nat)) (⟨"com/example/grapple/grapple/internal/Limits", "isKeyPrefixCharacter", "(C)Z"⟩ : MethodName) prog_3_method_7_code 1 (Option.some Jvm.ClassFile.FieldType.boolean) ({ frames := 0, cells := 0, slots := 0, locals := 0 } : Room) #[(.int cv)] h0 [] (pureQ (some (.int 1)) h0) := by
  refine Con.of (a0 := a0) #[.val (.int cv)] (plainFor_of_name pn_5) hE O all0 (fun m => by first | (simp [entryFrame, mkF, argsToLocals, Value.category]; done) | rfl) ?_
  intro p e s m below meth c T0 hx hby hml hnm hret hlk hh W0
  refine g_iloadN (pc' := 1) W0.here hx (hb hby d_prog_3_7_0) rfl rfl ?_
  refine g_bipush (97 : Int32) (pc' := 3) W0.here hx (hb hby d_prog_3_7_1) rfl rfl ?_
  by_cases hc3_92 : cv < (97 : Int32)
  · refine g_icmpY (pc' := 12) W0.here hx (hb hby d_prog_3_7_3) rfl (tlt hc3_92).1 ?_
    refine g_iloadN (pc' := 13) W0.here hx (hb hby d_prog_3_7_12) rfl rfl ?_
    refine g_bipush (65 : Int32) (pc' := 15) W0.here hx (hb hby d_prog_3_7_13) rfl rfl ?_
    by_cases hc15_93 : cv < (65 : Int32)
    · refine g_icmpY (pc' := 24) W0.here hx (hb hby d_prog_3_7_15) rfl (tlt hc15_93).1 ?_
      refine g_iloadN (pc' := 25) W0.here hx (hb hby d_prog_3_7_24) rfl rfl ?_
      refine g_bipush (48 : Int32) (pc' := 27) W0.here hx (hb hby d_prog_3_7_25) rfl rfl ?_
      by_cases hc27_94 : cv < (48 : Int32)
      · refine g_icmpY (pc' := 36) W0.here hx (hb hby d_prog_3_7_27) rfl (tlt hc27_94).1 ?_
        refine g_iloadN (pc' := 37) W0.here hx (hb hby d_prog_3_7_36) rfl rfl ?_
        refine g_bipush (45 : Int32) (pc' := 39) W0.here hx (hb hby d_prog_3_7_37) rfl rfl ?_
        by_cases hc39_95 : cv = (45 : Int32)
        · refine g_icmpY (pc' := 54) W0.here hx (hb hby d_prog_3_7_39) rfl (teq hc39_95).1 ?_
          refine g_iconst (1 : Int32) (pc' := 55) W0.here hx (hb hby d_prog_3_7_54) rfl rfl ?_
          refine g_goto (pc' := 59) W0.here hx (hb hby d_prog_3_7_55) rfl ?_
          refine w_retN (t := .boolean) W0 hx hh hlk hret (by simp) (hb hby d_prog_3_7_59) (Nat.le_of_ble_eq_true rfl) (Nat.le_of_ble_eq_true rfl) ?_
          exact ⟨rfl, rfl⟩
        · refine g_icmpN (pc' := 42) W0.here hx (hb hby d_prog_3_7_39) rfl (feq hc39_95).1 ?_
          refine g_iloadN (pc' := 43) W0.here hx (hb hby d_prog_3_7_42) rfl rfl ?_
          refine g_bipush (95 : Int32) (pc' := 45) W0.here hx (hb hby d_prog_3_7_43) rfl rfl ?_
          by_cases hc45_96 : cv = (95 : Int32)
          · refine g_icmpY (pc' := 54) W0.here hx (hb hby d_prog_3_7_45) rfl (teq hc45_96).1 ?_
            refine g_iconst (1 : Int32) (pc' := 55) W0.here hx (hb hby d_prog_3_7_54) rfl rfl ?_
            refine g_goto (pc' := 59) W0.here hx (hb hby d_prog_3_7_55) rfl ?_
            refine w_retN (t := .boolean) W0 hx hh hlk hret (by simp) (hb hby d_prog_3_7_59) (Nat.le_of_ble_eq_true rfl) (Nat.le_of_ble_eq_true rfl) ?_
            exact ⟨rfl, rfl⟩
          · refine g_icmpN (pc' := 48) W0.here hx (hb hby d_prog_3_7_45) rfl (feq hc45_96).1 ?_
            refine g_iloadN (pc' := 49) W0.here hx (hb hby d_prog_3_7_48) rfl rfl ?_
            refine g_bipush (46 : Int32) (pc' := 51) W0.here hx (hb hby d_prog_3_7_49) rfl rfl ?_
            by_cases hc51_97 : cv = (46 : Int32)
            · refine g_icmpN (pc' := 54) W0.here hx (hb hby d_prog_3_7_51) rfl (teq hc51_97).2 ?_
              refine g_iconst (1 : Int32) (pc' := 55) W0.here hx (hb hby d_prog_3_7_54) rfl rfl ?_
              refine g_goto (pc' := 59) W0.here hx (hb hby d_prog_3_7_55) rfl ?_
              refine w_retN (t := .boolean) W0 hx hh hlk hret (by simp) (hb hby d_prog_3_7_59) (Nat.le_of_ble_eq_true rfl) (Nat.le_of_ble_eq_true rfl) ?_
              exact ⟨rfl, rfl⟩
            · refine g_icmpY (pc' := 58) W0.here hx (hb hby d_prog_3_7_51) rfl (feq hc51_97).2 ?_
              exfalso
              simp only [okc, Int32.lt_iff_toInt_lt, ← Int32.toInt_inj, own_t26, own_t45, own_t46, own_t48, own_t52, own_t57, own_t62, own_t63, own_t65, own_t90, own_t95, own_t97, own_t122, own_t0] at hok hc3_92 hc15_93 hc27_94 hc39_95 hc45_96 hc51_97
              omega
      · refine g_icmpN (pc' := 30) W0.here hx (hb hby d_prog_3_7_27) rfl (flt hc27_94).1 ?_
        refine g_iloadN (pc' := 31) W0.here hx (hb hby d_prog_3_7_30) rfl rfl ?_
        refine g_bipush (57 : Int32) (pc' := 33) W0.here hx (hb hby d_prog_3_7_31) rfl rfl ?_
        by_cases hc33_98 : (57 : Int32) < cv
        · refine g_icmpN (pc' := 36) W0.here hx (hb hby d_prog_3_7_33) rfl (tlt hc33_98).2.2.2 ?_
          refine g_iloadN (pc' := 37) W0.here hx (hb hby d_prog_3_7_36) rfl rfl ?_
          refine g_bipush (45 : Int32) (pc' := 39) W0.here hx (hb hby d_prog_3_7_37) rfl rfl ?_
          by_cases hc39_99 : cv = (45 : Int32)
          · refine g_icmpY (pc' := 54) W0.here hx (hb hby d_prog_3_7_39) rfl (teq hc39_99).1 ?_
            refine g_iconst (1 : Int32) (pc' := 55) W0.here hx (hb hby d_prog_3_7_54) rfl rfl ?_
            refine g_goto (pc' := 59) W0.here hx (hb hby d_prog_3_7_55) rfl ?_
            refine w_retN (t := .boolean) W0 hx hh hlk hret (by simp) (hb hby d_prog_3_7_59) (Nat.le_of_ble_eq_true rfl) (Nat.le_of_ble_eq_true rfl) ?_
            exact ⟨rfl, rfl⟩
          · refine g_icmpN (pc' := 42) W0.here hx (hb hby d_prog_3_7_39) rfl (feq hc39_99).1 ?_
            refine g_iloadN (pc' := 43) W0.here hx (hb hby d_prog_3_7_42) rfl rfl ?_
            refine g_bipush (95 : Int32) (pc' := 45) W0.here hx (hb hby d_prog_3_7_43) rfl rfl ?_
            by_cases hc45_100 : cv = (95 : Int32)
            · refine g_icmpY (pc' := 54) W0.here hx (hb hby d_prog_3_7_45) rfl (teq hc45_100).1 ?_
              refine g_iconst (1 : Int32) (pc' := 55) W0.here hx (hb hby d_prog_3_7_54) rfl rfl ?_
              refine g_goto (pc' := 59) W0.here hx (hb hby d_prog_3_7_55) rfl ?_
              refine w_retN (t := .boolean) W0 hx hh hlk hret (by simp) (hb hby d_prog_3_7_59) (Nat.le_of_ble_eq_true rfl) (Nat.le_of_ble_eq_true rfl) ?_
              exact ⟨rfl, rfl⟩
            · refine g_icmpN (pc' := 48) W0.here hx (hb hby d_prog_3_7_45) rfl (feq hc45_100).1 ?_
              refine g_iloadN (pc' := 49) W0.here hx (hb hby d_prog_3_7_48) rfl rfl ?_
              refine g_bipush (46 : Int32) (pc' := 51) W0.here hx (hb hby d_prog_3_7_49) rfl rfl ?_
              by_cases hc51_101 : cv = (46 : Int32)
              · refine g_icmpN (pc' := 54) W0.here hx (hb hby d_prog_3_7_51) rfl (teq hc51_101).2 ?_
                refine g_iconst (1 : Int32) (pc' := 55) W0.here hx (hb hby d_prog_3_7_54) rfl rfl ?_
                refine g_goto (pc' := 59) W0.here hx (hb hby d_prog_3_7_55) rfl ?_
                refine w_retN (t := .boolean) W0 hx hh hlk hret (by simp) (hb hby d_prog_3_7_59) (Nat.le_of_ble_eq_true rfl) (Nat.le_of_ble_eq_true rfl) ?_
                exact ⟨rfl, rfl⟩
              · refine g_icmpY (pc' := 58) W0.here hx (hb hby d_prog_3_7_51) rfl (feq hc51_101).2 ?_
                exfalso
                simp only [okc, Int32.lt_iff_toInt_lt, ← Int32.toInt_inj, own_t26, own_t45, own_t46, own_t48, own_t52, own_t57, own_t62, own_t63, own_t65, own_t90, own_t95, own_t97, own_t122, own_t0] at hok hc3_92 hc15_93 hc27_94 hc33_98 hc39_99 hc45_100 hc51_101
                omega
        · refine g_icmpY (pc' := 54) W0.here hx (hb hby d_prog_3_7_33) rfl (flt hc33_98).2.2.2 ?_
          refine g_iconst (1 : Int32) (pc' := 55) W0.here hx (hb hby d_prog_3_7_54) rfl rfl ?_
          refine g_goto (pc' := 59) W0.here hx (hb hby d_prog_3_7_55) rfl ?_
          refine w_retN (t := .boolean) W0 hx hh hlk hret (by simp) (hb hby d_prog_3_7_59) (Nat.le_of_ble_eq_true rfl) (Nat.le_of_ble_eq_true rfl) ?_
          exact ⟨rfl, rfl⟩
    · refine g_icmpN (pc' := 18) W0.here hx (hb hby d_prog_3_7_15) rfl (flt hc15_93).1 ?_
      refine g_iloadN (pc' := 19) W0.here hx (hb hby d_prog_3_7_18) rfl rfl ?_
      refine g_bipush (90 : Int32) (pc' := 21) W0.here hx (hb hby d_prog_3_7_19) rfl rfl ?_
      by_cases hc21_102 : (90 : Int32) < cv
      · refine g_icmpN (pc' := 24) W0.here hx (hb hby d_prog_3_7_21) rfl (tlt hc21_102).2.2.2 ?_
        refine g_iloadN (pc' := 25) W0.here hx (hb hby d_prog_3_7_24) rfl rfl ?_
        refine g_bipush (48 : Int32) (pc' := 27) W0.here hx (hb hby d_prog_3_7_25) rfl rfl ?_
        by_cases hc27_103 : cv < (48 : Int32)
        · refine g_icmpY (pc' := 36) W0.here hx (hb hby d_prog_3_7_27) rfl (tlt hc27_103).1 ?_
          refine g_iloadN (pc' := 37) W0.here hx (hb hby d_prog_3_7_36) rfl rfl ?_
          refine g_bipush (45 : Int32) (pc' := 39) W0.here hx (hb hby d_prog_3_7_37) rfl rfl ?_
          by_cases hc39_104 : cv = (45 : Int32)
          · refine g_icmpY (pc' := 54) W0.here hx (hb hby d_prog_3_7_39) rfl (teq hc39_104).1 ?_
            refine g_iconst (1 : Int32) (pc' := 55) W0.here hx (hb hby d_prog_3_7_54) rfl rfl ?_
            refine g_goto (pc' := 59) W0.here hx (hb hby d_prog_3_7_55) rfl ?_
            refine w_retN (t := .boolean) W0 hx hh hlk hret (by simp) (hb hby d_prog_3_7_59) (Nat.le_of_ble_eq_true rfl) (Nat.le_of_ble_eq_true rfl) ?_
            exact ⟨rfl, rfl⟩
          · refine g_icmpN (pc' := 42) W0.here hx (hb hby d_prog_3_7_39) rfl (feq hc39_104).1 ?_
            refine g_iloadN (pc' := 43) W0.here hx (hb hby d_prog_3_7_42) rfl rfl ?_
            refine g_bipush (95 : Int32) (pc' := 45) W0.here hx (hb hby d_prog_3_7_43) rfl rfl ?_
            by_cases hc45_105 : cv = (95 : Int32)
            · refine g_icmpY (pc' := 54) W0.here hx (hb hby d_prog_3_7_45) rfl (teq hc45_105).1 ?_
              refine g_iconst (1 : Int32) (pc' := 55) W0.here hx (hb hby d_prog_3_7_54) rfl rfl ?_
              refine g_goto (pc' := 59) W0.here hx (hb hby d_prog_3_7_55) rfl ?_
              refine w_retN (t := .boolean) W0 hx hh hlk hret (by simp) (hb hby d_prog_3_7_59) (Nat.le_of_ble_eq_true rfl) (Nat.le_of_ble_eq_true rfl) ?_
              exact ⟨rfl, rfl⟩
            · refine g_icmpN (pc' := 48) W0.here hx (hb hby d_prog_3_7_45) rfl (feq hc45_105).1 ?_
              refine g_iloadN (pc' := 49) W0.here hx (hb hby d_prog_3_7_48) rfl rfl ?_
              refine g_bipush (46 : Int32) (pc' := 51) W0.here hx (hb hby d_prog_3_7_49) rfl rfl ?_
              by_cases hc51_106 : cv = (46 : Int32)
              · refine g_icmpN (pc' := 54) W0.here hx (hb hby d_prog_3_7_51) rfl (teq hc51_106).2 ?_
                refine g_iconst (1 : Int32) (pc' := 55) W0.here hx (hb hby d_prog_3_7_54) rfl rfl ?_
                refine g_goto (pc' := 59) W0.here hx (hb hby d_prog_3_7_55) rfl ?_
                refine w_retN (t := .boolean) W0 hx hh hlk hret (by simp) (hb hby d_prog_3_7_59) (Nat.le_of_ble_eq_true rfl) (Nat.le_of_ble_eq_true rfl) ?_
                exact ⟨rfl, rfl⟩
              · refine g_icmpY (pc' := 58) W0.here hx (hb hby d_prog_3_7_51) rfl (feq hc51_106).2 ?_
                exfalso
                simp only [okc, Int32.lt_iff_toInt_lt, ← Int32.toInt_inj, own_t26, own_t45, own_t46, own_t48, own_t52, own_t57, own_t62, own_t63, own_t65, own_t90, own_t95, own_t97, own_t122, own_t0] at hok hc3_92 hc15_93 hc21_102 hc27_103 hc39_104 hc45_105 hc51_106
                omega
        · refine g_icmpN (pc' := 30) W0.here hx (hb hby d_prog_3_7_27) rfl (flt hc27_103).1 ?_
          refine g_iloadN (pc' := 31) W0.here hx (hb hby d_prog_3_7_30) rfl rfl ?_
          refine g_bipush (57 : Int32) (pc' := 33) W0.here hx (hb hby d_prog_3_7_31) rfl rfl ?_
          by_cases hc33_107 : (57 : Int32) < cv
          · refine g_icmpN (pc' := 36) W0.here hx (hb hby d_prog_3_7_33) rfl (tlt hc33_107).2.2.2 ?_
            refine g_iloadN (pc' := 37) W0.here hx (hb hby d_prog_3_7_36) rfl rfl ?_
            refine g_bipush (45 : Int32) (pc' := 39) W0.here hx (hb hby d_prog_3_7_37) rfl rfl ?_
            by_cases hc39_108 : cv = (45 : Int32)
            · refine g_icmpY (pc' := 54) W0.here hx (hb hby d_prog_3_7_39) rfl (teq hc39_108).1 ?_
              refine g_iconst (1 : Int32) (pc' := 55) W0.here hx (hb hby d_prog_3_7_54) rfl rfl ?_
              refine g_goto (pc' := 59) W0.here hx (hb hby d_prog_3_7_55) rfl ?_
              refine w_retN (t := .boolean) W0 hx hh hlk hret (by simp) (hb hby d_prog_3_7_59) (Nat.le_of_ble_eq_true rfl) (Nat.le_of_ble_eq_true rfl) ?_
              exact ⟨rfl, rfl⟩
            · refine g_icmpN (pc' := 42) W0.here hx (hb hby d_prog_3_7_39) rfl (feq hc39_108).1 ?_
              refine g_iloadN (pc' := 43) W0.here hx (hb hby d_prog_3_7_42) rfl rfl ?_
              refine g_bipush (95 : Int32) (pc' := 45) W0.here hx (hb hby d_prog_3_7_43) rfl rfl ?_
              by_cases hc45_109 : cv = (95 : Int32)
              · refine g_icmpY (pc' := 54) W0.here hx (hb hby d_prog_3_7_45) rfl (teq hc45_109).1 ?_
                refine g_iconst (1 : Int32) (pc' := 55) W0.here hx (hb hby d_prog_3_7_54) rfl rfl ?_
                refine g_goto (pc' := 59) W0.here hx (hb hby d_prog_3_7_55) rfl ?_
                refine w_retN (t := .boolean) W0 hx hh hlk hret (by simp) (hb hby d_prog_3_7_59) (Nat.le_of_ble_eq_true rfl) (Nat.le_of_ble_eq_true rfl) ?_
                exact ⟨rfl, rfl⟩
              · refine g_icmpN (pc' := 48) W0.here hx (hb hby d_prog_3_7_45) rfl (feq hc45_109).1 ?_
                refine g_iloadN (pc' := 49) W0.here hx (hb hby d_prog_3_7_48) rfl rfl ?_
                refine g_bipush (46 : Int32) (pc' := 51) W0.here hx (hb hby d_prog_3_7_49) rfl rfl ?_
                by_cases hc51_110 : cv = (46 : Int32)
                · refine g_icmpN (pc' := 54) W0.here hx (hb hby d_prog_3_7_51) rfl (teq hc51_110).2 ?_
                  refine g_iconst (1 : Int32) (pc' := 55) W0.here hx (hb hby d_prog_3_7_54) rfl rfl ?_
                  refine g_goto (pc' := 59) W0.here hx (hb hby d_prog_3_7_55) rfl ?_
                  refine w_retN (t := .boolean) W0 hx hh hlk hret (by simp) (hb hby d_prog_3_7_59) (Nat.le_of_ble_eq_true rfl) (Nat.le_of_ble_eq_true rfl) ?_
                  exact ⟨rfl, rfl⟩
                · refine g_icmpY (pc' := 58) W0.here hx (hb hby d_prog_3_7_51) rfl (feq hc51_110).2 ?_
                  exfalso
                  simp only [okc, Int32.lt_iff_toInt_lt, ← Int32.toInt_inj, own_t26, own_t45, own_t46, own_t48, own_t52, own_t57, own_t62, own_t63, own_t65, own_t90, own_t95, own_t97, own_t122, own_t0] at hok hc3_92 hc15_93 hc21_102 hc27_103 hc33_107 hc39_108 hc45_109 hc51_110
                  omega
          · refine g_icmpY (pc' := 54) W0.here hx (hb hby d_prog_3_7_33) rfl (flt hc33_107).2.2.2 ?_
            refine g_iconst (1 : Int32) (pc' := 55) W0.here hx (hb hby d_prog_3_7_54) rfl rfl ?_
            refine g_goto (pc' := 59) W0.here hx (hb hby d_prog_3_7_55) rfl ?_
            refine w_retN (t := .boolean) W0 hx hh hlk hret (by simp) (hb hby d_prog_3_7_59) (Nat.le_of_ble_eq_true rfl) (Nat.le_of_ble_eq_true rfl) ?_
            exact ⟨rfl, rfl⟩
      · refine g_icmpY (pc' := 54) W0.here hx (hb hby d_prog_3_7_21) rfl (flt hc21_102).2.2.2 ?_
        refine g_iconst (1 : Int32) (pc' := 55) W0.here hx (hb hby d_prog_3_7_54) rfl rfl ?_
        refine g_goto (pc' := 59) W0.here hx (hb hby d_prog_3_7_55) rfl ?_
        refine w_retN (t := .boolean) W0 hx hh hlk hret (by simp) (hb hby d_prog_3_7_59) (Nat.le_of_ble_eq_true rfl) (Nat.le_of_ble_eq_true rfl) ?_
        exact ⟨rfl, rfl⟩
  · refine g_icmpN (pc' := 6) W0.here hx (hb hby d_prog_3_7_3) rfl (flt hc3_92).1 ?_
    refine g_iloadN (pc' := 7) W0.here hx (hb hby d_prog_3_7_6) rfl rfl ?_
    refine g_bipush (122 : Int32) (pc' := 9) W0.here hx (hb hby d_prog_3_7_7) rfl rfl ?_
    by_cases hc9_111 : (122 : Int32) < cv
    · refine g_icmpN (pc' := 12) W0.here hx (hb hby d_prog_3_7_9) rfl (tlt hc9_111).2.2.2 ?_
      refine g_iloadN (pc' := 13) W0.here hx (hb hby d_prog_3_7_12) rfl rfl ?_
      refine g_bipush (65 : Int32) (pc' := 15) W0.here hx (hb hby d_prog_3_7_13) rfl rfl ?_
      by_cases hc15_112 : cv < (65 : Int32)
      · refine g_icmpY (pc' := 24) W0.here hx (hb hby d_prog_3_7_15) rfl (tlt hc15_112).1 ?_
        refine g_iloadN (pc' := 25) W0.here hx (hb hby d_prog_3_7_24) rfl rfl ?_
        refine g_bipush (48 : Int32) (pc' := 27) W0.here hx (hb hby d_prog_3_7_25) rfl rfl ?_
        by_cases hc27_113 : cv < (48 : Int32)
        · refine g_icmpY (pc' := 36) W0.here hx (hb hby d_prog_3_7_27) rfl (tlt hc27_113).1 ?_
          refine g_iloadN (pc' := 37) W0.here hx (hb hby d_prog_3_7_36) rfl rfl ?_
          refine g_bipush (45 : Int32) (pc' := 39) W0.here hx (hb hby d_prog_3_7_37) rfl rfl ?_
          by_cases hc39_114 : cv = (45 : Int32)
          · refine g_icmpY (pc' := 54) W0.here hx (hb hby d_prog_3_7_39) rfl (teq hc39_114).1 ?_
            refine g_iconst (1 : Int32) (pc' := 55) W0.here hx (hb hby d_prog_3_7_54) rfl rfl ?_
            refine g_goto (pc' := 59) W0.here hx (hb hby d_prog_3_7_55) rfl ?_
            refine w_retN (t := .boolean) W0 hx hh hlk hret (by simp) (hb hby d_prog_3_7_59) (Nat.le_of_ble_eq_true rfl) (Nat.le_of_ble_eq_true rfl) ?_
            exact ⟨rfl, rfl⟩
          · refine g_icmpN (pc' := 42) W0.here hx (hb hby d_prog_3_7_39) rfl (feq hc39_114).1 ?_
            refine g_iloadN (pc' := 43) W0.here hx (hb hby d_prog_3_7_42) rfl rfl ?_
            refine g_bipush (95 : Int32) (pc' := 45) W0.here hx (hb hby d_prog_3_7_43) rfl rfl ?_
            by_cases hc45_115 : cv = (95 : Int32)
            · refine g_icmpY (pc' := 54) W0.here hx (hb hby d_prog_3_7_45) rfl (teq hc45_115).1 ?_
              refine g_iconst (1 : Int32) (pc' := 55) W0.here hx (hb hby d_prog_3_7_54) rfl rfl ?_
              refine g_goto (pc' := 59) W0.here hx (hb hby d_prog_3_7_55) rfl ?_
              refine w_retN (t := .boolean) W0 hx hh hlk hret (by simp) (hb hby d_prog_3_7_59) (Nat.le_of_ble_eq_true rfl) (Nat.le_of_ble_eq_true rfl) ?_
              exact ⟨rfl, rfl⟩
            · refine g_icmpN (pc' := 48) W0.here hx (hb hby d_prog_3_7_45) rfl (feq hc45_115).1 ?_
              refine g_iloadN (pc' := 49) W0.here hx (hb hby d_prog_3_7_48) rfl rfl ?_
              refine g_bipush (46 : Int32) (pc' := 51) W0.here hx (hb hby d_prog_3_7_49) rfl rfl ?_
              by_cases hc51_116 : cv = (46 : Int32)
              · refine g_icmpN (pc' := 54) W0.here hx (hb hby d_prog_3_7_51) rfl (teq hc51_116).2 ?_
                refine g_iconst (1 : Int32) (pc' := 55) W0.here hx (hb hby d_prog_3_7_54) rfl rfl ?_
                refine g_goto (pc' := 59) W0.here hx (hb hby d_prog_3_7_55) rfl ?_
                refine w_retN (t := .boolean) W0 hx hh hlk hret (by simp) (hb hby d_prog_3_7_59) (Nat.le_of_ble_eq_true rfl) (Nat.le_of_ble_eq_true rfl) ?_
                exact ⟨rfl, rfl⟩
              · refine g_icmpY (pc' := 58) W0.here hx (hb hby d_prog_3_7_51) rfl (feq hc51_116).2 ?_
                exfalso
                simp only [okc, Int32.lt_iff_toInt_lt, ← Int32.toInt_inj, own_t26, own_t45, own_t46, own_t48, own_t52, own_t57, own_t62, own_t63, own_t65, own_t90, own_t95, own_t97, own_t122, own_t0] at hok hc3_92 hc9_111 hc15_112 hc27_113 hc39_114 hc45_115 hc51_116
                omega
        · refine g_icmpN (pc' := 30) W0.here hx (hb hby d_prog_3_7_27) rfl (flt hc27_113).1 ?_
          refine g_iloadN (pc' := 31) W0.here hx (hb hby d_prog_3_7_30) rfl rfl ?_
          refine g_bipush (57 : Int32) (pc' := 33) W0.here hx (hb hby d_prog_3_7_31) rfl rfl ?_
          by_cases hc33_117 : (57 : Int32) < cv
          · refine g_icmpN (pc' := 36) W0.here hx (hb hby d_prog_3_7_33) rfl (tlt hc33_117).2.2.2 ?_
            refine g_iloadN (pc' := 37) W0.here hx (hb hby d_prog_3_7_36) rfl rfl ?_
            refine g_bipush (45 : Int32) (pc' := 39) W0.here hx (hb hby d_prog_3_7_37) rfl rfl ?_
            by_cases hc39_118 : cv = (45 : Int32)
            · refine g_icmpY (pc' := 54) W0.here hx (hb hby d_prog_3_7_39) rfl (teq hc39_118).1 ?_
              refine g_iconst (1 : Int32) (pc' := 55) W0.here hx (hb hby d_prog_3_7_54) rfl rfl ?_
              refine g_goto (pc' := 59) W0.here hx (hb hby d_prog_3_7_55) rfl ?_
              refine w_retN (t := .boolean) W0 hx hh hlk hret (by simp) (hb hby d_prog_3_7_59) (Nat.le_of_ble_eq_true rfl) (Nat.le_of_ble_eq_true rfl) ?_
              exact ⟨rfl, rfl⟩
            · refine g_icmpN (pc' := 42) W0.here hx (hb hby d_prog_3_7_39) rfl (feq hc39_118).1 ?_
              refine g_iloadN (pc' := 43) W0.here hx (hb hby d_prog_3_7_42) rfl rfl ?_
              refine g_bipush (95 : Int32) (pc' := 45) W0.here hx (hb hby d_prog_3_7_43) rfl rfl ?_
              by_cases hc45_119 : cv = (95 : Int32)
              · refine g_icmpY (pc' := 54) W0.here hx (hb hby d_prog_3_7_45) rfl (teq hc45_119).1 ?_
                refine g_iconst (1 : Int32) (pc' := 55) W0.here hx (hb hby d_prog_3_7_54) rfl rfl ?_
                refine g_goto (pc' := 59) W0.here hx (hb hby d_prog_3_7_55) rfl ?_
                refine w_retN (t := .boolean) W0 hx hh hlk hret (by simp) (hb hby d_prog_3_7_59) (Nat.le_of_ble_eq_true rfl) (Nat.le_of_ble_eq_true rfl) ?_
                exact ⟨rfl, rfl⟩
              · refine g_icmpN (pc' := 48) W0.here hx (hb hby d_prog_3_7_45) rfl (feq hc45_119).1 ?_
                refine g_iloadN (pc' := 49) W0.here hx (hb hby d_prog_3_7_48) rfl rfl ?_
                refine g_bipush (46 : Int32) (pc' := 51) W0.here hx (hb hby d_prog_3_7_49) rfl rfl ?_
                by_cases hc51_120 : cv = (46 : Int32)
                · refine g_icmpN (pc' := 54) W0.here hx (hb hby d_prog_3_7_51) rfl (teq hc51_120).2 ?_
                  refine g_iconst (1 : Int32) (pc' := 55) W0.here hx (hb hby d_prog_3_7_54) rfl rfl ?_
                  refine g_goto (pc' := 59) W0.here hx (hb hby d_prog_3_7_55) rfl ?_
                  refine w_retN (t := .boolean) W0 hx hh hlk hret (by simp) (hb hby d_prog_3_7_59) (Nat.le_of_ble_eq_true rfl) (Nat.le_of_ble_eq_true rfl) ?_
                  exact ⟨rfl, rfl⟩
                · refine g_icmpY (pc' := 58) W0.here hx (hb hby d_prog_3_7_51) rfl (feq hc51_120).2 ?_
                  exfalso
                  simp only [okc, Int32.lt_iff_toInt_lt, ← Int32.toInt_inj, own_t26, own_t45, own_t46, own_t48, own_t52, own_t57, own_t62, own_t63, own_t65, own_t90, own_t95, own_t97, own_t122, own_t0] at hok hc3_92 hc9_111 hc15_112 hc27_113 hc33_117 hc39_118 hc45_119 hc51_120
                  omega
          · refine g_icmpY (pc' := 54) W0.here hx (hb hby d_prog_3_7_33) rfl (flt hc33_117).2.2.2 ?_
            refine g_iconst (1 : Int32) (pc' := 55) W0.here hx (hb hby d_prog_3_7_54) rfl rfl ?_
            refine g_goto (pc' := 59) W0.here hx (hb hby d_prog_3_7_55) rfl ?_
            refine w_retN (t := .boolean) W0 hx hh hlk hret (by simp) (hb hby d_prog_3_7_59) (Nat.le_of_ble_eq_true rfl) (Nat.le_of_ble_eq_true rfl) ?_
            exact ⟨rfl, rfl⟩
      · refine g_icmpN (pc' := 18) W0.here hx (hb hby d_prog_3_7_15) rfl (flt hc15_112).1 ?_
        refine g_iloadN (pc' := 19) W0.here hx (hb hby d_prog_3_7_18) rfl rfl ?_
        refine g_bipush (90 : Int32) (pc' := 21) W0.here hx (hb hby d_prog_3_7_19) rfl rfl ?_
        by_cases hc21_121 : (90 : Int32) < cv
        · refine g_icmpN (pc' := 24) W0.here hx (hb hby d_prog_3_7_21) rfl (tlt hc21_121).2.2.2 ?_
          refine g_iloadN (pc' := 25) W0.here hx (hb hby d_prog_3_7_24) rfl rfl ?_
          refine g_bipush (48 : Int32) (pc' := 27) W0.here hx (hb hby d_prog_3_7_25) rfl rfl ?_
          by_cases hc27_122 : cv < (48 : Int32)
          · refine g_icmpY (pc' := 36) W0.here hx (hb hby d_prog_3_7_27) rfl (tlt hc27_122).1 ?_
            refine g_iloadN (pc' := 37) W0.here hx (hb hby d_prog_3_7_36) rfl rfl ?_
            refine g_bipush (45 : Int32) (pc' := 39) W0.here hx (hb hby d_prog_3_7_37) rfl rfl ?_
            by_cases hc39_123 : cv = (45 : Int32)
            · refine g_icmpY (pc' := 54) W0.here hx (hb hby d_prog_3_7_39) rfl (teq hc39_123).1 ?_
              refine g_iconst (1 : Int32) (pc' := 55) W0.here hx (hb hby d_prog_3_7_54) rfl rfl ?_
              refine g_goto (pc' := 59) W0.here hx (hb hby d_prog_3_7_55) rfl ?_
              refine w_retN (t := .boolean) W0 hx hh hlk hret (by simp) (hb hby d_prog_3_7_59) (Nat.le_of_ble_eq_true rfl) (Nat.le_of_ble_eq_true rfl) ?_
              exact ⟨rfl, rfl⟩
            · refine g_icmpN (pc' := 42) W0.here hx (hb hby d_prog_3_7_39) rfl (feq hc39_123).1 ?_
              refine g_iloadN (pc' := 43) W0.here hx (hb hby d_prog_3_7_42) rfl rfl ?_
              refine g_bipush (95 : Int32) (pc' := 45) W0.here hx (hb hby d_prog_3_7_43) rfl rfl ?_
              by_cases hc45_124 : cv = (95 : Int32)
              · refine g_icmpY (pc' := 54) W0.here hx (hb hby d_prog_3_7_45) rfl (teq hc45_124).1 ?_
                refine g_iconst (1 : Int32) (pc' := 55) W0.here hx (hb hby d_prog_3_7_54) rfl rfl ?_
                refine g_goto (pc' := 59) W0.here hx (hb hby d_prog_3_7_55) rfl ?_
                refine w_retN (t := .boolean) W0 hx hh hlk hret (by simp) (hb hby d_prog_3_7_59) (Nat.le_of_ble_eq_true rfl) (Nat.le_of_ble_eq_true rfl) ?_
                exact ⟨rfl, rfl⟩
              · refine g_icmpN (pc' := 48) W0.here hx (hb hby d_prog_3_7_45) rfl (feq hc45_124).1 ?_
                refine g_iloadN (pc' := 49) W0.here hx (hb hby d_prog_3_7_48) rfl rfl ?_
                refine g_bipush (46 : Int32) (pc' := 51) W0.here hx (hb hby d_prog_3_7_49) rfl rfl ?_
                by_cases hc51_125 : cv = (46 : Int32)
                · refine g_icmpN (pc' := 54) W0.here hx (hb hby d_prog_3_7_51) rfl (teq hc51_125).2 ?_
                  refine g_iconst (1 : Int32) (pc' := 55) W0.here hx (hb hby d_prog_3_7_54) rfl rfl ?_
                  refine g_goto (pc' := 59) W0.here hx (hb hby d_prog_3_7_55) rfl ?_
                  refine w_retN (t := .boolean) W0 hx hh hlk hret (by simp) (hb hby d_prog_3_7_59) (Nat.le_of_ble_eq_true rfl) (Nat.le_of_ble_eq_true rfl) ?_
                  exact ⟨rfl, rfl⟩
                · refine g_icmpY (pc' := 58) W0.here hx (hb hby d_prog_3_7_51) rfl (feq hc51_125).2 ?_
                  exfalso
                  simp only [okc, Int32.lt_iff_toInt_lt, ← Int32.toInt_inj, own_t26, own_t45, own_t46, own_t48, own_t52, own_t57, own_t62, own_t63, own_t65, own_t90, own_t95, own_t97, own_t122, own_t0] at hok hc3_92 hc9_111 hc15_112 hc21_121 hc27_122 hc39_123 hc45_124 hc51_125
                  omega
          · refine g_icmpN (pc' := 30) W0.here hx (hb hby d_prog_3_7_27) rfl (flt hc27_122).1 ?_
            refine g_iloadN (pc' := 31) W0.here hx (hb hby d_prog_3_7_30) rfl rfl ?_
            refine g_bipush (57 : Int32) (pc' := 33) W0.here hx (hb hby d_prog_3_7_31) rfl rfl ?_
            by_cases hc33_126 : (57 : Int32) < cv
            · refine g_icmpN (pc' := 36) W0.here hx (hb hby d_prog_3_7_33) rfl (tlt hc33_126).2.2.2 ?_
              refine g_iloadN (pc' := 37) W0.here hx (hb hby d_prog_3_7_36) rfl rfl ?_
              refine g_bipush (45 : Int32) (pc' := 39) W0.here hx (hb hby d_prog_3_7_37) rfl rfl ?_
              by_cases hc39_127 : cv = (45 : Int32)
              · refine g_icmpY (pc' := 54) W0.here hx (hb hby d_prog_3_7_39) rfl (teq hc39_127).1 ?_
                refine g_iconst (1 : Int32) (pc' := 55) W0.here hx (hb hby d_prog_3_7_54) rfl rfl ?_
                refine g_goto (pc' := 59) W0.here hx (hb hby d_prog_3_7_55) rfl ?_
                refine w_retN (t := .boolean) W0 hx hh hlk hret (by simp) (hb hby d_prog_3_7_59) (Nat.le_of_ble_eq_true rfl) (Nat.le_of_ble_eq_true rfl) ?_
                exact ⟨rfl, rfl⟩
              · refine g_icmpN (pc' := 42) W0.here hx (hb hby d_prog_3_7_39) rfl (feq hc39_127).1 ?_
                refine g_iloadN (pc' := 43) W0.here hx (hb hby d_prog_3_7_42) rfl rfl ?_
                refine g_bipush (95 : Int32) (pc' := 45) W0.here hx (hb hby d_prog_3_7_43) rfl rfl ?_
                by_cases hc45_128 : cv = (95 : Int32)
                · refine g_icmpY (pc' := 54) W0.here hx (hb hby d_prog_3_7_45) rfl (teq hc45_128).1 ?_
                  refine g_iconst (1 : Int32) (pc' := 55) W0.here hx (hb hby d_prog_3_7_54) rfl rfl ?_
                  refine g_goto (pc' := 59) W0.here hx (hb hby d_prog_3_7_55) rfl ?_
                  refine w_retN (t := .boolean) W0 hx hh hlk hret (by simp) (hb hby d_prog_3_7_59) (Nat.le_of_ble_eq_true rfl) (Nat.le_of_ble_eq_true rfl) ?_
                  exact ⟨rfl, rfl⟩
                · refine g_icmpN (pc' := 48) W0.here hx (hb hby d_prog_3_7_45) rfl (feq hc45_128).1 ?_
                  refine g_iloadN (pc' := 49) W0.here hx (hb hby d_prog_3_7_48) rfl rfl ?_
                  refine g_bipush (46 : Int32) (pc' := 51) W0.here hx (hb hby d_prog_3_7_49) rfl rfl ?_
                  by_cases hc51_129 : cv = (46 : Int32)
                  · refine g_icmpN (pc' := 54) W0.here hx (hb hby d_prog_3_7_51) rfl (teq hc51_129).2 ?_
                    refine g_iconst (1 : Int32) (pc' := 55) W0.here hx (hb hby d_prog_3_7_54) rfl rfl ?_
                    refine g_goto (pc' := 59) W0.here hx (hb hby d_prog_3_7_55) rfl ?_
                    refine w_retN (t := .boolean) W0 hx hh hlk hret (by simp) (hb hby d_prog_3_7_59) (Nat.le_of_ble_eq_true rfl) (Nat.le_of_ble_eq_true rfl) ?_
                    exact ⟨rfl, rfl⟩
                  · refine g_icmpY (pc' := 58) W0.here hx (hb hby d_prog_3_7_51) rfl (feq hc51_129).2 ?_
                    exfalso
                    simp only [okc, Int32.lt_iff_toInt_lt, ← Int32.toInt_inj, own_t26, own_t45, own_t46, own_t48, own_t52, own_t57, own_t62, own_t63, own_t65, own_t90, own_t95, own_t97, own_t122, own_t0] at hok hc3_92 hc9_111 hc15_112 hc21_121 hc27_122 hc33_126 hc39_127 hc45_128 hc51_129
                    omega
            · refine g_icmpY (pc' := 54) W0.here hx (hb hby d_prog_3_7_33) rfl (flt hc33_126).2.2.2 ?_
              refine g_iconst (1 : Int32) (pc' := 55) W0.here hx (hb hby d_prog_3_7_54) rfl rfl ?_
              refine g_goto (pc' := 59) W0.here hx (hb hby d_prog_3_7_55) rfl ?_
              refine w_retN (t := .boolean) W0 hx hh hlk hret (by simp) (hb hby d_prog_3_7_59) (Nat.le_of_ble_eq_true rfl) (Nat.le_of_ble_eq_true rfl) ?_
              exact ⟨rfl, rfl⟩
        · refine g_icmpY (pc' := 54) W0.here hx (hb hby d_prog_3_7_21) rfl (flt hc21_121).2.2.2 ?_
          refine g_iconst (1 : Int32) (pc' := 55) W0.here hx (hb hby d_prog_3_7_54) rfl rfl ?_
          refine g_goto (pc' := 59) W0.here hx (hb hby d_prog_3_7_55) rfl ?_
          refine w_retN (t := .boolean) W0 hx hh hlk hret (by simp) (hb hby d_prog_3_7_59) (Nat.le_of_ble_eq_true rfl) (Nat.le_of_ble_eq_true rfl) ?_
          exact ⟨rfl, rfl⟩
    · refine g_icmpY (pc' := 54) W0.here hx (hb hby d_prog_3_7_9) rfl (flt hc9_111).2.2.2 ?_
      refine g_iconst (1 : Int32) (pc' := 55) W0.here hx (hb hby d_prog_3_7_54) rfl rfl ?_
      refine g_goto (pc' := 59) W0.here hx (hb hby d_prog_3_7_55) rfl ?_
      refine w_retN (t := .boolean) W0 hx hh hlk hret (by simp) (hb hby d_prog_3_7_59) (Nat.le_of_ble_eq_true rfl) (Nat.le_of_ble_eq_true rfl) ?_
      exact ⟨rfl, rfl⟩
set_option maxRecDepth 65536 in
set_option maxHeartbeats 40000000 in
theorem c_check (l : Launch) (Z : State) (a0 : Array Value) (hw : ∀ d ∈ tables_1, d.before a0 Z = true) (hE : EW Z a0 ([] : List (String × Nat))) (cc : Int32) (fm : Value) (a b : Nat) (cs : List Int32) (h0 : Heap) (O : Ext Z.heap h0) (G : SEnv Z cc fm) (S0 : SL Z h0 a b cs) (hne : ¬ cs = []) (h50 : cs.length ≤ 50) (hok : ∀ c ∈ cs, okc c) :
    Con l Z ([] : List (String × Nat)) (⟨"com/example/grapple/grapple/internal/Limits", "checkKeyPrefix", "(Ljava/lang/String;)Ljava/lang/String;"⟩ : MethodName) prog_3_method_4_code 3 (Option.some (Jvm.ClassFile.FieldType.object "java/lang/String")) ({ frames := 4, cells := 0, slots := 0, locals := 53 } : Room) #[(.ref a)] h0 [] (pureQ (some (.ref a)) h0) := by
  refine Con.of (a0 := a0) #[.val (.ref a), .unset, .unset] (plainFor_of_name pn_5) hE O all0 (fun m => by first | (simp [entryFrame, mkF, argsToLocals, Value.category]; done) | rfl) ?_
  intro p e s m below meth c T0 hx hby hml hnm hret hlk hh W0
  have ES0 := S0.1
  have lt_a : a < h0.size := S0.lt
  have lt_b : b < h0.size := S0.ltb
  have hlen : cs.length < 2 ^ 31 := by omega
  refine g_aloadN (pc' := 1) W0.here hx (hb hby d_prog_3_4_0) rfl rfl rfl ?_
  refine g_nonnullY (pc' := 14) W0.here hx (hb hby d_prog_3_4_1) rfl ?_
  refine g_iconst (0 : Int32) (pc' := 15) W0.here hx (hb hby d_prog_3_4_14) rfl rfl ?_
  refine g_istoreN (pc' := 16) (Ls' := #[.val (.ref a), .val (.int (0 : Int32)), .unset]) W0.here hx (hb hby d_prog_3_4_15) rfl rfl ?_
  have LOOP : ∀ (k i : Nat), i + k = cs.length → ∀ (TL : State) (o2 : Slot), One o2 → Wk p l e ({ frames := 4, cells := 0, slots := 0, locals := 53 } : Room) s m #[(.ref a)] below meth c Z ([] : List (String × Nat)) "com/example/grapple/grapple/internal/Limits" [] [] TL h0 0 0 → Gets p.tables e below (Post s Z ([] : List (String × Nat)) ({ frames := 4, cells := 0, slots := 0, locals := 53 } : Room) h0 [] (pureQ (some (.ref a)) h0)) TL (mkF m 16 #[.val (.ref a), .val (.int i.toInt32), o2] []) := by
    intro k
    induction k with
    | zero =>
      intro i hi TL o2 ho_o2 WL 
      refine g_iloadN (pc' := 17) WL.here hx (hb hby d_prog_3_4_16) rfl rfl ?_
      refine g_aloadN (pc' := 18) WL.here hx (hb hby d_prog_3_4_17) rfl rfl rfl ?_
      refine w_virtualp (pc' := 21) (st := [(.int i.toInt32)]) (y := (⟨"java/lang/String", "length", "()I"⟩ : MethodName)) (z := (⟨"java/lang/String", "length", "()I"⟩ : MethodName)) (a := a) WL hx [] (hw _ (List.mem_of_getElem? w_39)) (hw _ (List.mem_of_getElem? w_40)) (nfS (z := (⟨"java/lang/String", "length", "()I"⟩ : MethodName)) (hw _ (List.mem_of_getElem? w_42))) (hw _ (List.mem_of_getElem? w_42)) (hw _ (List.mem_of_getElem? w_41)) (hw _ (List.mem_of_getElem? w_8)) (hw _ (List.mem_of_getElem? w_43)) (by decide) (c_length l Z a0 hw hE cc fm a b cs  h0 WL.old G S0 ) ES0 (by rw [hml]; rfl) (lenOf pd_9 rfl) rfl (hb hby d_prog_3_4_18) (Nat.le_of_ble_eq_true rfl) (Nat.le_of_ble_eq_true rfl) rfl rfl (Nat.le_of_ble_eq_true rfl) (Nat.le_of_ble_eq_true rfl) rfl fun T130 W130 => ?_
      refine g_icmpY (pc' := 61) W130.here hx (hb hby d_prog_3_4_21) rfl (flt (show ¬ (i.toInt32 < cs.length.toInt32) from (own_nltn (by omega) (by omega)))).2.1 ?_
      refine g_aloadN (pc' := 62) W130.here hx (hb hby d_prog_3_4_61) rfl rfl rfl ?_
      refine w_virtualp (pc' := 65) (st := []) (y := (⟨"java/lang/String", "isEmpty", "()Z"⟩ : MethodName)) (z := (⟨"java/lang/String", "isEmpty", "()Z"⟩ : MethodName)) (a := a) W130 hx [] (hw _ (List.mem_of_getElem? w_74)) (hw _ (List.mem_of_getElem? w_75)) (nfS (z := (⟨"java/lang/String", "isEmpty", "()Z"⟩ : MethodName)) (hw _ (List.mem_of_getElem? w_77))) (hw _ (List.mem_of_getElem? w_77)) (hw _ (List.mem_of_getElem? w_76)) (hw _ (List.mem_of_getElem? w_8)) (hw _ (List.mem_of_getElem? w_78)) (by decide) (c_isEmpty l Z a0 hw hE cc fm a b cs  h0 W130.old G S0 ) ES0 (by rw [hml]; rfl) (lenOf pd_7 rfl) rfl (hb hby d_prog_3_4_62) (Nat.le_of_ble_eq_true rfl) (Nat.le_of_ble_eq_true rfl) rfl rfl (Nat.le_of_ble_eq_true rfl) (Nat.le_of_ble_eq_true rfl) rfl fun T131 W131 => ?_
      refine g_ifN (pc' := 68) W131.here hx (hb hby d_prog_3_4_65) rfl (teq (show (if cs = [] then (1 : Int32) else 0) = (0 : Int32) from (by rw [if_neg hne]))).2 ?_
      refine g_aloadN (pc' := 69) W131.here hx (hb hby d_prog_3_4_68) rfl rfl rfl ?_
      refine w_virtualp (pc' := 72) (st := []) (y := (⟨"java/lang/String", "length", "()I"⟩ : MethodName)) (z := (⟨"java/lang/String", "length", "()I"⟩ : MethodName)) (a := a) W131 hx [] (hw _ (List.mem_of_getElem? w_39)) (hw _ (List.mem_of_getElem? w_40)) (nfS (z := (⟨"java/lang/String", "length", "()I"⟩ : MethodName)) (hw _ (List.mem_of_getElem? w_42))) (hw _ (List.mem_of_getElem? w_42)) (hw _ (List.mem_of_getElem? w_41)) (hw _ (List.mem_of_getElem? w_8)) (hw _ (List.mem_of_getElem? w_43)) (by decide) (c_length l Z a0 hw hE cc fm a b cs  h0 W131.old G S0 ) ES0 (by rw [hml]; rfl) (lenOf pd_9 rfl) rfl (hb hby d_prog_3_4_69) (Nat.le_of_ble_eq_true rfl) (Nat.le_of_ble_eq_true rfl) rfl rfl (Nat.le_of_ble_eq_true rfl) (Nat.le_of_ble_eq_true rfl) rfl fun T132 W132 => ?_
      refine g_bipush (50 : Int32) (pc' := 74) W132.here hx (hb hby d_prog_3_4_72) rfl rfl ?_
      refine g_icmpY (pc' := 94) W132.here hx (hb hby d_prog_3_4_74) rfl (flt (show ¬ ((50 : Int32) < cs.length.toInt32) from (by rw [Int32.lt_iff_toInt_lt, own_toInt hlen]; have : (50 : Int32).toInt = 50 := rfl; omega))).2.2.2 ?_
      refine g_aloadN (pc' := 95) W132.here hx (hb hby d_prog_3_4_94) rfl rfl rfl ?_
      refine w_retA W132 hx hh hlk hret rfl rfl (hb hby d_prog_3_4_95) (Nat.le_of_ble_eq_true rfl) (Nat.le_of_ble_eq_true rfl) ?_
      exact ⟨rfl, rfl⟩
    | succ k ih =>
      intro i hi TL o2 ho_o2 WL 
      have hi2 : i < cs.length := by omega
      obtain ⟨ci, hci⟩ : ∃ ci, cs[i]? = some ci := ⟨_, List.getElem?_eq_getElem hi2⟩
      have hoki := hok ci (List.mem_of_getElem? hci)
      refine g_iloadN (pc' := 17) WL.here hx (hb hby d_prog_3_4_16) rfl rfl ?_
      refine g_aloadN (pc' := 18) WL.here hx (hb hby d_prog_3_4_17) rfl rfl rfl ?_
      refine w_virtualp (pc' := 21) (st := [(.int i.toInt32)]) (y := (⟨"java/lang/String", "length", "()I"⟩ : MethodName)) (z := (⟨"java/lang/String", "length", "()I"⟩ : MethodName)) (a := a) WL hx [] (hw _ (List.mem_of_getElem? w_39)) (hw _ (List.mem_of_getElem? w_40)) (nfS (z := (⟨"java/lang/String", "length", "()I"⟩ : MethodName)) (hw _ (List.mem_of_getElem? w_42))) (hw _ (List.mem_of_getElem? w_42)) (hw _ (List.mem_of_getElem? w_41)) (hw _ (List.mem_of_getElem? w_8)) (hw _ (List.mem_of_getElem? w_43)) (by decide) (c_length l Z a0 hw hE cc fm a b cs  h0 WL.old G S0 ) ES0 (by rw [hml]; rfl) (lenOf pd_9 rfl) rfl (hb hby d_prog_3_4_18) (Nat.le_of_ble_eq_true rfl) (Nat.le_of_ble_eq_true rfl) rfl rfl (Nat.le_of_ble_eq_true rfl) (Nat.le_of_ble_eq_true rfl) rfl fun T133 W133 => ?_
      refine g_icmpN (pc' := 24) W133.here hx (hb hby d_prog_3_4_21) rfl (tlt (show i.toInt32 < cs.length.toInt32 from (own_ltn hi2 hlen))).2.1 ?_
      refine g_aloadN (pc' := 25) W133.here hx (hb hby d_prog_3_4_24) rfl rfl rfl ?_
      refine g_iloadN (pc' := 26) W133.here hx (hb hby d_prog_3_4_25) rfl rfl ?_
      refine w_virtualp (pc' := 29) (st := []) (y := (⟨"java/lang/String", "charAt", "(I)C"⟩ : MethodName)) (z := (⟨"java/lang/String", "charAt", "(I)C"⟩ : MethodName)) (a := a) W133 hx [(.int i.toInt32)] (hw _ (List.mem_of_getElem? w_49)) (hw _ (List.mem_of_getElem? w_50)) (nfS (z := (⟨"java/lang/String", "charAt", "(I)C"⟩ : MethodName)) (hw _ (List.mem_of_getElem? w_52))) (hw _ (List.mem_of_getElem? w_52)) (hw _ (List.mem_of_getElem? w_51)) (hw _ (List.mem_of_getElem? w_8)) (hw _ (List.mem_of_getElem? w_53)) (by decide) (c_charAt l Z a0 hw hE cc fm a b cs i.toInt32 ci h0 W133.old G S0 (own_nneg (by omega)) (own_ltn hi2 hlen) (by rw [i32_nat (by omega)]; exact hci)) ES0 (by rw [hml]; rfl) (lenOf pd_10 rfl) rfl (hb hby d_prog_3_4_26) (Nat.le_of_ble_eq_true rfl) (Nat.le_of_ble_eq_true rfl) rfl rfl (Nat.le_of_ble_eq_true rfl) (Nat.le_of_ble_eq_true rfl) rfl fun T134 W134 => ?_
      refine g_istoreN (pc' := 30) (Ls' := #[.val (.ref a), .val (.int i.toInt32), .val (.int ci)]) W134.here hx (hb hby d_prog_3_4_29) (XS.store1 (o := o2) rfl ho_o2 rfl) rfl ?_
      refine g_iloadN (pc' := 31) W134.here hx (hb hby d_prog_3_4_30) rfl rfl ?_
      refine w_callSp (pc' := 34) (st := []) (y := (⟨"com/example/grapple/grapple/internal/Limits", "isKeyPrefixCharacter", "(C)Z"⟩ : MethodName)) W134 hx [(.int ci)] (hw _ (List.mem_of_getElem? w_71)) (hw _ (List.mem_of_getElem? w_72)) (hw _ (List.mem_of_getElem? w_37)) (hw _ (List.mem_of_getElem? w_73)) (by decide) (c_isKey l Z a0 hw hE ci h0 W134.old hoki) (by rw [hml]; rfl) (lenOf pd_11 rfl) rfl (hb hby d_prog_3_4_31) (Nat.le_of_ble_eq_true rfl) (Nat.le_of_ble_eq_true rfl) rfl rfl (Nat.le_of_ble_eq_true rfl) (Nat.le_of_ble_eq_true rfl) rfl fun T135 W135 => ?_
      refine g_ifY (pc' := 55) W135.here hx (hb hby d_prog_3_4_34) rfl (feq (show ¬ ((1 : Int32) = (0 : Int32)) from (by decide))).2 ?_
      refine g_iincV (i + 1).toInt32 (pc' := 58) (Ls' := #[.val (.ref a), .val (.int (i + 1).toInt32), .val (.int ci)]) W135.here hx (hb hby d_prog_3_4_55) (own_succ i) rfl rfl rfl ?_
      refine g_goto (pc' := 16) W135.here hx (hb hby d_prog_3_4_58) rfl ?_
      exact ih (i + 1) (by omega) _ _ (One.val rfl) W135 
  exact LOOP cs.length 0 (by omega) _ _ One.u W0 
set_option maxRecDepth 65536 in
set_option maxHeartbeats 40000000 in
theorem c_law (l : Launch) (Z : State) (a0 : Array Value) (hw : ∀ d ∈ tables_1, d.before a0 Z = true) (hE : EW Z a0 ([] : List (String × Nat))) (cc : Int32) (fm : Value) (p0 p1 p2 p3 p4 : Int32) (h0 : Heap) (O : Ext Z.heap h0) (G : SEnv Z cc fm)  :
    ConL tables_1 l Z ([] : List (String × Nat)) x code maxLocals ret room_1 #[(.int p0), (.int p1), (.int p2), (.int p3), (.int p4)] h0 [] (fun v _ => v = some (.int 1)) := by
  refine Con.of (a0 := a0) #[.val (.int p0), .val (.int p1), .val (.int p2), .val (.int p3), .val (.int p4), .unset, .unset, .unset, .unset, .unset, .unset, .unset, .unset] (plainFor_of_name pn_4) hE O all0 (fun m => by first | (simp [entryFrame, mkF, argsToLocals, Value.category, maxLocals]; done) | rfl) ?_
  intro p e s m below meth c T0 hx hby hml hnm hret hlk hh W0
  refine g_iloadN (pc' := 1) W0.here hx (hb hby at_0) rfl rfl ?_
  refine w_callS (pc' := 4) (st := []) (y := (⟨"com/example/grapple/grapple/internal/LimitsCheckKeyPrefixPinLaw", "allowed", "(I)C"⟩ : MethodName)) W0 hx [(.int p1)] (hw _ (List.mem_of_getElem? w_0)) (hw _ (List.mem_of_getElem? w_1)) (hw _ (List.mem_of_getElem? w_2)) (hw _ (List.mem_of_getElem? w_3)) (by decide) (c_allowed l Z a0 hw hE p1 h0 W0.old) all0 (by rw [hml]; rfl) (lenOf pd_10 rfl) rfl (hb hby at_1) (Nat.le_of_ble_eq_true rfl) (Nat.le_of_ble_eq_true rfl) (Nat.le_of_ble_eq_true rfl) (Nat.le_of_ble_eq_true rfl) rfl fun v136 T136 h136 W136 K136 Q136 => ?_
  have z_K136 : h0.size ≤ h136.size := K136.1
  obtain ⟨xc137, rfl, ok_xc137⟩ := Q136
  refine g_istore (pc' := 6) (Ls' := #[.val (.int p0), .val (.int p1), .val (.int p2), .val (.int p3), .val (.int p4), .val (.int xc137), .unset, .unset, .unset, .unset, .unset, .unset, .unset]) W136.here hx (hb hby at_4) rfl rfl ?_
  refine g_iloadN (pc' := 7) W136.here hx (hb hby at_6) rfl rfl ?_
  refine w_callS (pc' := 10) (st := []) (y := (⟨"com/example/grapple/grapple/internal/LimitsCheckKeyPrefixPinLaw", "allowed", "(I)C"⟩ : MethodName)) W136 hx [(.int p2)] (hw _ (List.mem_of_getElem? w_0)) (hw _ (List.mem_of_getElem? w_1)) (hw _ (List.mem_of_getElem? w_2)) (hw _ (List.mem_of_getElem? w_3)) (by decide) (c_allowed l Z a0 hw hE p2 h136 W136.old) all0 (by rw [hml]; rfl) (lenOf pd_10 rfl) rfl (hb hby at_7) (Nat.le_of_ble_eq_true rfl) (Nat.le_of_ble_eq_true rfl) (Nat.le_of_ble_eq_true rfl) (Nat.le_of_ble_eq_true rfl) rfl fun v138 T138 h138 W138 K138 Q138 => ?_
  have z_K138 : h136.size ≤ h138.size := K138.1
  obtain ⟨xc139, rfl, ok_xc139⟩ := Q138
  refine g_istore (pc' := 12) (Ls' := #[.val (.int p0), .val (.int p1), .val (.int p2), .val (.int p3), .val (.int p4), .val (.int xc137), .val (.int xc139), .unset, .unset, .unset, .unset, .unset, .unset]) W138.here hx (hb hby at_10) rfl rfl ?_
  refine g_iloadN (pc' := 13) W138.here hx (hb hby at_12) rfl rfl ?_
  refine w_callS (pc' := 16) (st := []) (y := (⟨"com/example/grapple/grapple/internal/LimitsCheckKeyPrefixPinLaw", "allowed", "(I)C"⟩ : MethodName)) W138 hx [(.int p3)] (hw _ (List.mem_of_getElem? w_0)) (hw _ (List.mem_of_getElem? w_1)) (hw _ (List.mem_of_getElem? w_2)) (hw _ (List.mem_of_getElem? w_3)) (by decide) (c_allowed l Z a0 hw hE p3 h138 W138.old) all0 (by rw [hml]; rfl) (lenOf pd_10 rfl) rfl (hb hby at_13) (Nat.le_of_ble_eq_true rfl) (Nat.le_of_ble_eq_true rfl) (Nat.le_of_ble_eq_true rfl) (Nat.le_of_ble_eq_true rfl) rfl fun v140 T140 h140 W140 K140 Q140 => ?_
  have z_K140 : h138.size ≤ h140.size := K140.1
  obtain ⟨xc141, rfl, ok_xc141⟩ := Q140
  refine g_istore (pc' := 18) (Ls' := #[.val (.int p0), .val (.int p1), .val (.int p2), .val (.int p3), .val (.int p4), .val (.int xc137), .val (.int xc139), .val (.int xc141), .unset, .unset, .unset, .unset, .unset]) W140.here hx (hb hby at_16) rfl rfl ?_
  refine g_iload (pc' := 20) W140.here hx (hb hby at_18) rfl rfl ?_
  refine w_callS (pc' := 23) (st := []) (y := (⟨"com/example/grapple/grapple/internal/LimitsCheckKeyPrefixPinLaw", "allowed", "(I)C"⟩ : MethodName)) W140 hx [(.int p4)] (hw _ (List.mem_of_getElem? w_0)) (hw _ (List.mem_of_getElem? w_1)) (hw _ (List.mem_of_getElem? w_2)) (hw _ (List.mem_of_getElem? w_3)) (by decide) (c_allowed l Z a0 hw hE p4 h140 W140.old) all0 (by rw [hml]; rfl) (lenOf pd_10 rfl) rfl (hb hby at_20) (Nat.le_of_ble_eq_true rfl) (Nat.le_of_ble_eq_true rfl) (Nat.le_of_ble_eq_true rfl) (Nat.le_of_ble_eq_true rfl) rfl fun v142 T142 h142 W142 K142 Q142 => ?_
  have z_K142 : h140.size ≤ h142.size := K142.1
  obtain ⟨xc143, rfl, ok_xc143⟩ := Q142
  refine g_istore (pc' := 25) (Ls' := #[.val (.int p0), .val (.int p1), .val (.int p2), .val (.int p3), .val (.int p4), .val (.int xc137), .val (.int xc139), .val (.int xc141), .val (.int xc143), .unset, .unset, .unset, .unset]) W142.here hx (hb hby at_23) rfl rfl ?_
  refine g_iloadN (pc' := 26) W142.here hx (hb hby at_25) rfl rfl ?_
  refine g_iconst (3 : Int32) (pc' := 27) W142.here hx (hb hby at_26) rfl rfl ?_
  refine g_iand (pc' := 28) W142.here hx (hb hby at_27) rfl ?_
  refine g_istore (pc' := 30) (Ls' := #[.val (.int p0), .val (.int p1), .val (.int p2), .val (.int p3), .val (.int p4), .val (.int xc137), .val (.int xc139), .val (.int xc141), .val (.int xc143), .val (.int (p0 &&& (3 : Int32))), .unset, .unset, .unset]) W142.here hx (hb hby at_28) rfl rfl ?_
  refine g_iload (pc' := 32) W142.here hx (hb hby at_30) rfl rfl ?_
  by_cases hc32_144 : (p0 &&& (3 : Int32)) = (0 : Int32)
  · refine g_ifN (pc' := 35) W142.here hx (hb hby at_32) rfl (teq hc32_144).2 ?_
    refine g_iconst (1 : Int32) (pc' := 36) W142.here hx (hb hby at_35) rfl rfl ?_
    refine w_newarr (pc' := 38) (cap := 1) W142 hx (hw _ (List.mem_of_getElem? w_5)) (hb hby at_36) (by decide) (Nat.le_refl _) (Nat.le_of_ble_eq_true rfl) (Nat.le_of_ble_eq_true rfl) (Nat.le_of_ble_eq_true rfl) rfl rfl fun T145 h145 b145 g145 W145 K145 V145 => ?_
    have z_K145 : h142.size ≤ h145.size := K145.1
    have lt_b145 : b145 < h145.size := W145.lt (List.mem_cons_self ..)
    have V145 : Ary Z h145 b145 .char [(.int (0 : Int32))] := V145
    refine g_dup (pc' := 39) W145.here hx (hb hby at_38) rfl rfl ?_
    refine g_iconst (0 : Int32) (pc' := 40) W145.here hx (hb hby at_39) rfl rfl ?_
    refine g_iload (pc' := 42) W145.here hx (hb hby at_40) rfl rfl ?_
    refine w_castore (pc' := 43) (x' := xc137) W145 hx V145 (by decide) (Nat.lt_of_lt_of_le (Nat.lt_succ_self _) (Nat.le_of_ble_eq_true rfl)) (List.mem_of_getElem? (i := 0) rfl) (own_nchar (own_c16 ok_xc137.lat)) (hb hby at_42) rfl fun T146 h146 W146 K146 V146 => ?_
    have z_K146 : h145.size ≤ h146.size := K146.1
    have V146 : Ary Z h146 b145 .char [(.int xc137)] := V146
    refine g_astore (pc' := 45) (Ls' := #[.val (.int p0), .val (.int p1), .val (.int p2), .val (.int p3), .val (.int p4), .val (.int xc137), .val (.int xc139), .val (.int xc141), .val (.int xc143), .val (.int (p0 &&& (3 : Int32))), .val (.ref b145), .unset, .unset]) W146.here hx (hb hby at_43) rfl rfl rfl ?_
    refine g_goto (pc' := 119) W146.here hx (hb hby at_45) rfl ?_
    refine w_new (pc' := 122) W146 hx (hw _ (List.mem_of_getElem? w_6)) (hw _ (List.mem_of_getElem? w_7)) (hw _ (List.mem_of_getElem? w_8)) (hb hby at_119) (Nat.le_of_ble_eq_true rfl) (Nat.le_of_ble_eq_true rfl) rfl fun T147 h147 b147 g147 W147 K147 A147 D147 => ?_
    have z_K147 : h146.size ≤ h147.size := K147.1
    have ne_b145_b147 : b145 ≠ b147 := by omega
    have lt_b147 : b147 < h147.size := W147.lt (List.mem_cons_self ..)
    have F147_coder : Fld Z h147 b147 "java/lang/String" "coder" "B" (.int (0 : Int32)) := D147 (Or.inr (hw _ (List.mem_of_getElem? w_32))) (ty := .byte) (by decide)
    have F147_value : Fld Z h147 b147 "java/lang/String" "value" "[B" .null := D147 (Or.inr (hw _ (List.mem_of_getElem? w_34))) (ty := (.array .byte)) (by decide)
    refine g_dup (pc' := 123) W147.here hx (hb hby at_122) rfl rfl ?_
    refine g_aload (pc' := 125) W147.here hx (hb hby at_123) rfl rfl rfl ?_
    have c148 := (V146.keep K147 nin0)
    refine w_special (pc' := 128) (st := [(.ref b147)]) (y := (⟨"java/lang/String", "<init>", "([C)V"⟩ : MethodName)) (a := b147) W147 hx [(.ref b145)] rfl (hw _ (List.mem_of_getElem? w_9)) (hw _ (List.mem_of_getElem? w_10)) (hw _ (List.mem_of_getElem? w_8)) (hw _ (List.mem_of_getElem? w_11)) (by decide) (c_strC l Z a0 hw hE cc fm b147 b145 [xc137] h147 W147.old G (Nat.succ_pos _) (Nat.le_of_ble_eq_true rfl) (own_allS ok_xc137.lat own_all0) c148 (by have := O.1; omega) A147 _ _ F147_coder F147_value (Ne.symm ne_b145_b147)) (allS (List.mem_of_getElem? (i := 0) rfl) all0) (by rw [hml]; rfl) (lenOf pd_12 rfl) rfl (hb hby at_125) (Nat.le_of_ble_eq_true rfl) (Nat.le_of_ble_eq_true rfl) (Nat.le_of_ble_eq_true rfl) (Nat.le_of_ble_eq_true rfl) rfl fun v149 T149 h149 W149 K149 Q149 => ?_
    have z_K149 : h147.size ≤ h149.size := K149.1
    obtain ⟨rfl, sb150, S150⟩ := Q149
    have ES150 := S150.1
    have lt_sb150 : sb150 < h149.size := S150.ltb
    refine g_astore (pc' := 130) (Ls' := #[.val (.int p0), .val (.int p1), .val (.int p2), .val (.int p3), .val (.int p4), .val (.int xc137), .val (.int xc139), .val (.int xc141), .val (.int xc143), .val (.int (p0 &&& (3 : Int32))), .val (.ref b145), .val (.ref b147), .unset]) W149.here hx (hb hby at_128) rfl rfl rfl ?_
    refine g_aload (pc' := 132) W149.here hx (hb hby at_130) rfl rfl rfl ?_
    refine w_callSp (pc' := 135) (st := []) (y := (⟨"com/example/grapple/grapple/internal/Limits", "checkKeyPrefix", "(Ljava/lang/String;)Ljava/lang/String;"⟩ : MethodName)) W149 hx [(.ref b147)] (hw _ (List.mem_of_getElem? w_35)) (hw _ (List.mem_of_getElem? w_36)) (hw _ (List.mem_of_getElem? w_37)) (hw _ (List.mem_of_getElem? w_38)) (by decide) (c_check l Z a0 hw hE cc fm b147 sb150 [xc137] h149 W149.old G S150 (by simp) (Nat.le_of_ble_eq_true rfl) (own_allS ok_xc137 own_all0)) (by rw [hml]; rfl) (lenOf pd_13 rfl) rfl (hb hby at_132) (Nat.le_of_ble_eq_true rfl) (Nat.le_of_ble_eq_true rfl) rfl rfl (Nat.le_of_ble_eq_true rfl) (Nat.le_of_ble_eq_true rfl) rfl fun T151 W151 => ?_
    refine g_astore (pc' := 137) (Ls' := #[.val (.int p0), .val (.int p1), .val (.int p2), .val (.int p3), .val (.int p4), .val (.int xc137), .val (.int xc139), .val (.int xc141), .val (.int xc143), .val (.int (p0 &&& (3 : Int32))), .val (.ref b145), .val (.ref b147), .val (.ref b147)]) W151.here hx (hb hby at_135) rfl rfl rfl ?_
    refine g_aload (pc' := 139) W151.here hx (hb hby at_137) rfl rfl rfl ?_
    refine g_aload (pc' := 141) W151.here hx (hb hby at_139) rfl rfl rfl ?_
    refine w_acmp (pc' := 144) W151 hx rfl rfl true (hb hby at_141) (decide_eq_true rfl) (by decide) (by decide) ?_
    refine g_aload (pc' := 146) W151.here hx (hb hby at_144) rfl rfl rfl ?_
    refine w_virtualp (pc' := 149) (st := []) (y := (⟨"java/lang/String", "length", "()I"⟩ : MethodName)) (z := (⟨"java/lang/String", "length", "()I"⟩ : MethodName)) (a := b147) W151 hx [] (hw _ (List.mem_of_getElem? w_79)) (hw _ (List.mem_of_getElem? w_40)) (nfS (z := (⟨"java/lang/String", "length", "()I"⟩ : MethodName)) (hw _ (List.mem_of_getElem? w_42))) (hw _ (List.mem_of_getElem? w_42)) (hw _ (List.mem_of_getElem? w_41)) (hw _ (List.mem_of_getElem? w_8)) (hw _ (List.mem_of_getElem? w_43)) (by decide) (c_length l Z a0 hw hE cc fm b147 sb150 [xc137]  h149 W151.old G S150 ) ES150 (by rw [hml]; rfl) (lenOf pd_9 rfl) rfl (hb hby at_146) (Nat.le_of_ble_eq_true rfl) (Nat.le_of_ble_eq_true rfl) rfl rfl (Nat.le_of_ble_eq_true rfl) (Nat.le_of_ble_eq_true rfl) rfl fun T152 W152 => ?_
    refine g_name (w := .int (1 : Int32)) rfl ?_
    refine g_aload (pc' := 151) W152.here hx (hb hby at_149) rfl rfl rfl ?_
    have c153 := (c148.keep K149 (ninS ne_b145_b147 nin0))
    refine w_len (pc' := 152) W152 hx c153 (hb hby at_151) rfl ?_
    refine g_name (w := .int (1 : Int32)) rfl ?_
    refine g_icmpN (pc' := 155) W152.here hx (hb hby at_152) rfl (teq (show (1 : Int32) = (1 : Int32) from (by decide))).2 ?_
    refine g_iconst (1 : Int32) (pc' := 156) W152.here hx (hb hby at_155) rfl rfl ?_
    refine g_goto (pc' := 160) W152.here hx (hb hby at_156) rfl ?_
    refine w_retN (t := .boolean) W152 hx hh hlk hret (by simp) (hb hby at_160) (Nat.le_of_ble_eq_true rfl) (Nat.le_of_ble_eq_true rfl) ?_
    exact rfl
  · refine g_ifY (pc' := 48) W142.here hx (hb hby at_32) rfl (feq hc32_144).2 ?_
    refine g_iload (pc' := 50) W142.here hx (hb hby at_48) rfl rfl ?_
    refine g_iconst (1 : Int32) (pc' := 51) W142.here hx (hb hby at_50) rfl rfl ?_
    by_cases hc51_154 : (p0 &&& (3 : Int32)) = (1 : Int32)
    · refine g_icmpN (pc' := 54) W142.here hx (hb hby at_51) rfl (teq hc51_154).2 ?_
      refine g_iconst (2 : Int32) (pc' := 55) W142.here hx (hb hby at_54) rfl rfl ?_
      refine w_newarr (pc' := 57) (cap := 2) W142 hx (hw _ (List.mem_of_getElem? w_5)) (hb hby at_55) (by decide) (Nat.le_refl _) (Nat.le_of_ble_eq_true rfl) (Nat.le_of_ble_eq_true rfl) (Nat.le_of_ble_eq_true rfl) rfl rfl fun T155 h155 b155 g155 W155 K155 V155 => ?_
      have z_K155 : h142.size ≤ h155.size := K155.1
      have lt_b155 : b155 < h155.size := W155.lt (List.mem_cons_self ..)
      have V155 : Ary Z h155 b155 .char [(.int (0 : Int32)), (.int (0 : Int32))] := V155
      refine g_dup (pc' := 58) W155.here hx (hb hby at_57) rfl rfl ?_
      refine g_iconst (0 : Int32) (pc' := 59) W155.here hx (hb hby at_58) rfl rfl ?_
      refine g_iload (pc' := 61) W155.here hx (hb hby at_59) rfl rfl ?_
      refine w_castore (pc' := 62) (x' := xc137) W155 hx V155 (by decide) (Nat.lt_of_lt_of_le (Nat.lt_succ_self _) (Nat.le_of_ble_eq_true rfl)) (List.mem_of_getElem? (i := 0) rfl) (own_nchar (own_c16 ok_xc137.lat)) (hb hby at_61) rfl fun T156 h156 W156 K156 V156 => ?_
      have z_K156 : h155.size ≤ h156.size := K156.1
      have V156 : Ary Z h156 b155 .char [(.int xc137), (.int (0 : Int32))] := V156
      refine g_dup (pc' := 63) W156.here hx (hb hby at_62) rfl rfl ?_
      refine g_iconst (1 : Int32) (pc' := 64) W156.here hx (hb hby at_63) rfl rfl ?_
      refine g_iload (pc' := 66) W156.here hx (hb hby at_64) rfl rfl ?_
      refine w_castore (pc' := 67) (x' := xc139) W156 hx V156 (by decide) (Nat.lt_of_lt_of_le (Nat.lt_succ_self _) (Nat.le_of_ble_eq_true rfl)) (List.mem_of_getElem? (i := 0) rfl) (own_nchar (own_c16 ok_xc139.lat)) (hb hby at_66) rfl fun T157 h157 W157 K157 V157 => ?_
      have z_K157 : h156.size ≤ h157.size := K157.1
      have V157 : Ary Z h157 b155 .char [(.int xc137), (.int xc139)] := V157
      refine g_astore (pc' := 69) (Ls' := #[.val (.int p0), .val (.int p1), .val (.int p2), .val (.int p3), .val (.int p4), .val (.int xc137), .val (.int xc139), .val (.int xc141), .val (.int xc143), .val (.int (p0 &&& (3 : Int32))), .val (.ref b155), .unset, .unset]) W157.here hx (hb hby at_67) rfl rfl rfl ?_
      refine g_goto (pc' := 119) W157.here hx (hb hby at_69) rfl ?_
      refine w_new (pc' := 122) W157 hx (hw _ (List.mem_of_getElem? w_6)) (hw _ (List.mem_of_getElem? w_7)) (hw _ (List.mem_of_getElem? w_8)) (hb hby at_119) (Nat.le_of_ble_eq_true rfl) (Nat.le_of_ble_eq_true rfl) rfl fun T158 h158 b158 g158 W158 K158 A158 D158 => ?_
      have z_K158 : h157.size ≤ h158.size := K158.1
      have ne_b155_b158 : b155 ≠ b158 := by omega
      have lt_b158 : b158 < h158.size := W158.lt (List.mem_cons_self ..)
      have F158_coder : Fld Z h158 b158 "java/lang/String" "coder" "B" (.int (0 : Int32)) := D158 (Or.inr (hw _ (List.mem_of_getElem? w_32))) (ty := .byte) (by decide)
      have F158_value : Fld Z h158 b158 "java/lang/String" "value" "[B" .null := D158 (Or.inr (hw _ (List.mem_of_getElem? w_34))) (ty := (.array .byte)) (by decide)
      refine g_dup (pc' := 123) W158.here hx (hb hby at_122) rfl rfl ?_
      refine g_aload (pc' := 125) W158.here hx (hb hby at_123) rfl rfl rfl ?_
      have c159 := (V157.keep K158 nin0)
      refine w_special (pc' := 128) (st := [(.ref b158)]) (y := (⟨"java/lang/String", "<init>", "([C)V"⟩ : MethodName)) (a := b158) W158 hx [(.ref b155)] rfl (hw _ (List.mem_of_getElem? w_9)) (hw _ (List.mem_of_getElem? w_10)) (hw _ (List.mem_of_getElem? w_8)) (hw _ (List.mem_of_getElem? w_11)) (by decide) (c_strC l Z a0 hw hE cc fm b158 b155 [xc137, xc139] h158 W158.old G (Nat.succ_pos _) (Nat.le_of_ble_eq_true rfl) (own_allS ok_xc137.lat (own_allS ok_xc139.lat own_all0)) c159 (by have := O.1; omega) A158 _ _ F158_coder F158_value (Ne.symm ne_b155_b158)) (allS (List.mem_of_getElem? (i := 0) rfl) all0) (by rw [hml]; rfl) (lenOf pd_12 rfl) rfl (hb hby at_125) (Nat.le_of_ble_eq_true rfl) (Nat.le_of_ble_eq_true rfl) (Nat.le_of_ble_eq_true rfl) (Nat.le_of_ble_eq_true rfl) rfl fun v160 T160 h160 W160 K160 Q160 => ?_
      have z_K160 : h158.size ≤ h160.size := K160.1
      obtain ⟨rfl, sb161, S161⟩ := Q160
      have ES161 := S161.1
      have lt_sb161 : sb161 < h160.size := S161.ltb
      refine g_astore (pc' := 130) (Ls' := #[.val (.int p0), .val (.int p1), .val (.int p2), .val (.int p3), .val (.int p4), .val (.int xc137), .val (.int xc139), .val (.int xc141), .val (.int xc143), .val (.int (p0 &&& (3 : Int32))), .val (.ref b155), .val (.ref b158), .unset]) W160.here hx (hb hby at_128) rfl rfl rfl ?_
      refine g_aload (pc' := 132) W160.here hx (hb hby at_130) rfl rfl rfl ?_
      refine w_callSp (pc' := 135) (st := []) (y := (⟨"com/example/grapple/grapple/internal/Limits", "checkKeyPrefix", "(Ljava/lang/String;)Ljava/lang/String;"⟩ : MethodName)) W160 hx [(.ref b158)] (hw _ (List.mem_of_getElem? w_35)) (hw _ (List.mem_of_getElem? w_36)) (hw _ (List.mem_of_getElem? w_37)) (hw _ (List.mem_of_getElem? w_38)) (by decide) (c_check l Z a0 hw hE cc fm b158 sb161 [xc137, xc139] h160 W160.old G S161 (by simp) (Nat.le_of_ble_eq_true rfl) (own_allS ok_xc137 (own_allS ok_xc139 own_all0))) (by rw [hml]; rfl) (lenOf pd_13 rfl) rfl (hb hby at_132) (Nat.le_of_ble_eq_true rfl) (Nat.le_of_ble_eq_true rfl) rfl rfl (Nat.le_of_ble_eq_true rfl) (Nat.le_of_ble_eq_true rfl) rfl fun T162 W162 => ?_
      refine g_astore (pc' := 137) (Ls' := #[.val (.int p0), .val (.int p1), .val (.int p2), .val (.int p3), .val (.int p4), .val (.int xc137), .val (.int xc139), .val (.int xc141), .val (.int xc143), .val (.int (p0 &&& (3 : Int32))), .val (.ref b155), .val (.ref b158), .val (.ref b158)]) W162.here hx (hb hby at_135) rfl rfl rfl ?_
      refine g_aload (pc' := 139) W162.here hx (hb hby at_137) rfl rfl rfl ?_
      refine g_aload (pc' := 141) W162.here hx (hb hby at_139) rfl rfl rfl ?_
      refine w_acmp (pc' := 144) W162 hx rfl rfl true (hb hby at_141) (decide_eq_true rfl) (by decide) (by decide) ?_
      refine g_aload (pc' := 146) W162.here hx (hb hby at_144) rfl rfl rfl ?_
      refine w_virtualp (pc' := 149) (st := []) (y := (⟨"java/lang/String", "length", "()I"⟩ : MethodName)) (z := (⟨"java/lang/String", "length", "()I"⟩ : MethodName)) (a := b158) W162 hx [] (hw _ (List.mem_of_getElem? w_79)) (hw _ (List.mem_of_getElem? w_40)) (nfS (z := (⟨"java/lang/String", "length", "()I"⟩ : MethodName)) (hw _ (List.mem_of_getElem? w_42))) (hw _ (List.mem_of_getElem? w_42)) (hw _ (List.mem_of_getElem? w_41)) (hw _ (List.mem_of_getElem? w_8)) (hw _ (List.mem_of_getElem? w_43)) (by decide) (c_length l Z a0 hw hE cc fm b158 sb161 [xc137, xc139]  h160 W162.old G S161 ) ES161 (by rw [hml]; rfl) (lenOf pd_9 rfl) rfl (hb hby at_146) (Nat.le_of_ble_eq_true rfl) (Nat.le_of_ble_eq_true rfl) rfl rfl (Nat.le_of_ble_eq_true rfl) (Nat.le_of_ble_eq_true rfl) rfl fun T163 W163 => ?_
      refine g_name (w := .int (2 : Int32)) rfl ?_
      refine g_aload (pc' := 151) W163.here hx (hb hby at_149) rfl rfl rfl ?_
      have c164 := (c159.keep K160 (ninS ne_b155_b158 nin0))
      refine w_len (pc' := 152) W163 hx c164 (hb hby at_151) rfl ?_
      refine g_name (w := .int (2 : Int32)) rfl ?_
      refine g_icmpN (pc' := 155) W163.here hx (hb hby at_152) rfl (teq (show (2 : Int32) = (2 : Int32) from (by decide))).2 ?_
      refine g_iconst (1 : Int32) (pc' := 156) W163.here hx (hb hby at_155) rfl rfl ?_
      refine g_goto (pc' := 160) W163.here hx (hb hby at_156) rfl ?_
      refine w_retN (t := .boolean) W163 hx hh hlk hret (by simp) (hb hby at_160) (Nat.le_of_ble_eq_true rfl) (Nat.le_of_ble_eq_true rfl) ?_
      exact rfl
    · refine g_icmpY (pc' := 72) W142.here hx (hb hby at_51) rfl (feq hc51_154).2 ?_
      refine g_iload (pc' := 74) W142.here hx (hb hby at_72) rfl rfl ?_
      refine g_iconst (2 : Int32) (pc' := 75) W142.here hx (hb hby at_74) rfl rfl ?_
      by_cases hc75_165 : (p0 &&& (3 : Int32)) = (2 : Int32)
      · refine g_icmpN (pc' := 78) W142.here hx (hb hby at_75) rfl (teq hc75_165).2 ?_
        refine g_iconst (4 : Int32) (pc' := 79) W142.here hx (hb hby at_78) rfl rfl ?_
        refine w_newarr (pc' := 81) (cap := 4) W142 hx (hw _ (List.mem_of_getElem? w_5)) (hb hby at_79) (by decide) (Nat.le_refl _) (Nat.le_of_ble_eq_true rfl) (Nat.le_of_ble_eq_true rfl) (Nat.le_of_ble_eq_true rfl) rfl rfl fun T166 h166 b166 g166 W166 K166 V166 => ?_
        have z_K166 : h142.size ≤ h166.size := K166.1
        have lt_b166 : b166 < h166.size := W166.lt (List.mem_cons_self ..)
        have V166 : Ary Z h166 b166 .char [(.int (0 : Int32)), (.int (0 : Int32)), (.int (0 : Int32)), (.int (0 : Int32))] := V166
        refine g_dup (pc' := 82) W166.here hx (hb hby at_81) rfl rfl ?_
        refine g_iconst (0 : Int32) (pc' := 83) W166.here hx (hb hby at_82) rfl rfl ?_
        refine g_iload (pc' := 85) W166.here hx (hb hby at_83) rfl rfl ?_
        refine w_castore (pc' := 86) (x' := xc137) W166 hx V166 (by decide) (Nat.lt_of_lt_of_le (Nat.lt_succ_self _) (Nat.le_of_ble_eq_true rfl)) (List.mem_of_getElem? (i := 0) rfl) (own_nchar (own_c16 ok_xc137.lat)) (hb hby at_85) rfl fun T167 h167 W167 K167 V167 => ?_
        have z_K167 : h166.size ≤ h167.size := K167.1
        have V167 : Ary Z h167 b166 .char [(.int xc137), (.int (0 : Int32)), (.int (0 : Int32)), (.int (0 : Int32))] := V167
        refine g_dup (pc' := 87) W167.here hx (hb hby at_86) rfl rfl ?_
        refine g_iconst (1 : Int32) (pc' := 88) W167.here hx (hb hby at_87) rfl rfl ?_
        refine g_iload (pc' := 90) W167.here hx (hb hby at_88) rfl rfl ?_
        refine w_castore (pc' := 91) (x' := xc139) W167 hx V167 (by decide) (Nat.lt_of_lt_of_le (Nat.lt_succ_self _) (Nat.le_of_ble_eq_true rfl)) (List.mem_of_getElem? (i := 0) rfl) (own_nchar (own_c16 ok_xc139.lat)) (hb hby at_90) rfl fun T168 h168 W168 K168 V168 => ?_
        have z_K168 : h167.size ≤ h168.size := K168.1
        have V168 : Ary Z h168 b166 .char [(.int xc137), (.int xc139), (.int (0 : Int32)), (.int (0 : Int32))] := V168
        refine g_dup (pc' := 92) W168.here hx (hb hby at_91) rfl rfl ?_
        refine g_iconst (2 : Int32) (pc' := 93) W168.here hx (hb hby at_92) rfl rfl ?_
        refine g_iload (pc' := 95) W168.here hx (hb hby at_93) rfl rfl ?_
        refine w_castore (pc' := 96) (x' := xc141) W168 hx V168 (by decide) (Nat.lt_of_lt_of_le (Nat.lt_succ_self _) (Nat.le_of_ble_eq_true rfl)) (List.mem_of_getElem? (i := 0) rfl) (own_nchar (own_c16 ok_xc141.lat)) (hb hby at_95) rfl fun T169 h169 W169 K169 V169 => ?_
        have z_K169 : h168.size ≤ h169.size := K169.1
        have V169 : Ary Z h169 b166 .char [(.int xc137), (.int xc139), (.int xc141), (.int (0 : Int32))] := V169
        refine g_dup (pc' := 97) W169.here hx (hb hby at_96) rfl rfl ?_
        refine g_iconst (3 : Int32) (pc' := 98) W169.here hx (hb hby at_97) rfl rfl ?_
        refine g_iload (pc' := 100) W169.here hx (hb hby at_98) rfl rfl ?_
        refine w_castore (pc' := 101) (x' := xc143) W169 hx V169 (by decide) (Nat.lt_of_lt_of_le (Nat.lt_succ_self _) (Nat.le_of_ble_eq_true rfl)) (List.mem_of_getElem? (i := 0) rfl) (own_nchar (own_c16 ok_xc143.lat)) (hb hby at_100) rfl fun T170 h170 W170 K170 V170 => ?_
        have z_K170 : h169.size ≤ h170.size := K170.1
        have V170 : Ary Z h170 b166 .char [(.int xc137), (.int xc139), (.int xc141), (.int xc143)] := V170
        refine g_astore (pc' := 103) (Ls' := #[.val (.int p0), .val (.int p1), .val (.int p2), .val (.int p3), .val (.int p4), .val (.int xc137), .val (.int xc139), .val (.int xc141), .val (.int xc143), .val (.int (p0 &&& (3 : Int32))), .val (.ref b166), .unset, .unset]) W170.here hx (hb hby at_101) rfl rfl rfl ?_
        refine g_goto (pc' := 119) W170.here hx (hb hby at_103) rfl ?_
        refine w_new (pc' := 122) W170 hx (hw _ (List.mem_of_getElem? w_6)) (hw _ (List.mem_of_getElem? w_7)) (hw _ (List.mem_of_getElem? w_8)) (hb hby at_119) (Nat.le_of_ble_eq_true rfl) (Nat.le_of_ble_eq_true rfl) rfl fun T171 h171 b171 g171 W171 K171 A171 D171 => ?_
        have z_K171 : h170.size ≤ h171.size := K171.1
        have ne_b166_b171 : b166 ≠ b171 := by omega
        have lt_b171 : b171 < h171.size := W171.lt (List.mem_cons_self ..)
        have F171_coder : Fld Z h171 b171 "java/lang/String" "coder" "B" (.int (0 : Int32)) := D171 (Or.inr (hw _ (List.mem_of_getElem? w_32))) (ty := .byte) (by decide)
        have F171_value : Fld Z h171 b171 "java/lang/String" "value" "[B" .null := D171 (Or.inr (hw _ (List.mem_of_getElem? w_34))) (ty := (.array .byte)) (by decide)
        refine g_dup (pc' := 123) W171.here hx (hb hby at_122) rfl rfl ?_
        refine g_aload (pc' := 125) W171.here hx (hb hby at_123) rfl rfl rfl ?_
        have c172 := (V170.keep K171 nin0)
        refine w_special (pc' := 128) (st := [(.ref b171)]) (y := (⟨"java/lang/String", "<init>", "([C)V"⟩ : MethodName)) (a := b171) W171 hx [(.ref b166)] rfl (hw _ (List.mem_of_getElem? w_9)) (hw _ (List.mem_of_getElem? w_10)) (hw _ (List.mem_of_getElem? w_8)) (hw _ (List.mem_of_getElem? w_11)) (by decide) (c_strC l Z a0 hw hE cc fm b171 b166 [xc137, xc139, xc141, xc143] h171 W171.old G (Nat.succ_pos _) (Nat.le_of_ble_eq_true rfl) (own_allS ok_xc137.lat (own_allS ok_xc139.lat (own_allS ok_xc141.lat (own_allS ok_xc143.lat own_all0)))) c172 (by have := O.1; omega) A171 _ _ F171_coder F171_value (Ne.symm ne_b166_b171)) (allS (List.mem_of_getElem? (i := 0) rfl) all0) (by rw [hml]; rfl) (lenOf pd_12 rfl) rfl (hb hby at_125) (Nat.le_of_ble_eq_true rfl) (Nat.le_of_ble_eq_true rfl) (Nat.le_of_ble_eq_true rfl) (Nat.le_of_ble_eq_true rfl) rfl fun v173 T173 h173 W173 K173 Q173 => ?_
        have z_K173 : h171.size ≤ h173.size := K173.1
        obtain ⟨rfl, sb174, S174⟩ := Q173
        have ES174 := S174.1
        have lt_sb174 : sb174 < h173.size := S174.ltb
        refine g_astore (pc' := 130) (Ls' := #[.val (.int p0), .val (.int p1), .val (.int p2), .val (.int p3), .val (.int p4), .val (.int xc137), .val (.int xc139), .val (.int xc141), .val (.int xc143), .val (.int (p0 &&& (3 : Int32))), .val (.ref b166), .val (.ref b171), .unset]) W173.here hx (hb hby at_128) rfl rfl rfl ?_
        refine g_aload (pc' := 132) W173.here hx (hb hby at_130) rfl rfl rfl ?_
        refine w_callSp (pc' := 135) (st := []) (y := (⟨"com/example/grapple/grapple/internal/Limits", "checkKeyPrefix", "(Ljava/lang/String;)Ljava/lang/String;"⟩ : MethodName)) W173 hx [(.ref b171)] (hw _ (List.mem_of_getElem? w_35)) (hw _ (List.mem_of_getElem? w_36)) (hw _ (List.mem_of_getElem? w_37)) (hw _ (List.mem_of_getElem? w_38)) (by decide) (c_check l Z a0 hw hE cc fm b171 sb174 [xc137, xc139, xc141, xc143] h173 W173.old G S174 (by simp) (Nat.le_of_ble_eq_true rfl) (own_allS ok_xc137 (own_allS ok_xc139 (own_allS ok_xc141 (own_allS ok_xc143 own_all0))))) (by rw [hml]; rfl) (lenOf pd_13 rfl) rfl (hb hby at_132) (Nat.le_of_ble_eq_true rfl) (Nat.le_of_ble_eq_true rfl) rfl rfl (Nat.le_of_ble_eq_true rfl) (Nat.le_of_ble_eq_true rfl) rfl fun T175 W175 => ?_
        refine g_astore (pc' := 137) (Ls' := #[.val (.int p0), .val (.int p1), .val (.int p2), .val (.int p3), .val (.int p4), .val (.int xc137), .val (.int xc139), .val (.int xc141), .val (.int xc143), .val (.int (p0 &&& (3 : Int32))), .val (.ref b166), .val (.ref b171), .val (.ref b171)]) W175.here hx (hb hby at_135) rfl rfl rfl ?_
        refine g_aload (pc' := 139) W175.here hx (hb hby at_137) rfl rfl rfl ?_
        refine g_aload (pc' := 141) W175.here hx (hb hby at_139) rfl rfl rfl ?_
        refine w_acmp (pc' := 144) W175 hx rfl rfl true (hb hby at_141) (decide_eq_true rfl) (by decide) (by decide) ?_
        refine g_aload (pc' := 146) W175.here hx (hb hby at_144) rfl rfl rfl ?_
        refine w_virtualp (pc' := 149) (st := []) (y := (⟨"java/lang/String", "length", "()I"⟩ : MethodName)) (z := (⟨"java/lang/String", "length", "()I"⟩ : MethodName)) (a := b171) W175 hx [] (hw _ (List.mem_of_getElem? w_79)) (hw _ (List.mem_of_getElem? w_40)) (nfS (z := (⟨"java/lang/String", "length", "()I"⟩ : MethodName)) (hw _ (List.mem_of_getElem? w_42))) (hw _ (List.mem_of_getElem? w_42)) (hw _ (List.mem_of_getElem? w_41)) (hw _ (List.mem_of_getElem? w_8)) (hw _ (List.mem_of_getElem? w_43)) (by decide) (c_length l Z a0 hw hE cc fm b171 sb174 [xc137, xc139, xc141, xc143]  h173 W175.old G S174 ) ES174 (by rw [hml]; rfl) (lenOf pd_9 rfl) rfl (hb hby at_146) (Nat.le_of_ble_eq_true rfl) (Nat.le_of_ble_eq_true rfl) rfl rfl (Nat.le_of_ble_eq_true rfl) (Nat.le_of_ble_eq_true rfl) rfl fun T176 W176 => ?_
        refine g_name (w := .int (4 : Int32)) rfl ?_
        refine g_aload (pc' := 151) W176.here hx (hb hby at_149) rfl rfl rfl ?_
        have c177 := (c172.keep K173 (ninS ne_b166_b171 nin0))
        refine w_len (pc' := 152) W176 hx c177 (hb hby at_151) rfl ?_
        refine g_name (w := .int (4 : Int32)) rfl ?_
        refine g_icmpN (pc' := 155) W176.here hx (hb hby at_152) rfl (teq (show (4 : Int32) = (4 : Int32) from (by decide))).2 ?_
        refine g_iconst (1 : Int32) (pc' := 156) W176.here hx (hb hby at_155) rfl rfl ?_
        refine g_goto (pc' := 160) W176.here hx (hb hby at_156) rfl ?_
        refine w_retN (t := .boolean) W176 hx hh hlk hret (by simp) (hb hby at_160) (Nat.le_of_ble_eq_true rfl) (Nat.le_of_ble_eq_true rfl) ?_
        exact rfl
      · refine g_icmpY (pc' := 106) W142.here hx (hb hby at_75) rfl (feq hc75_165).2 ?_
        refine g_iload (pc' := 108) W142.here hx (hb hby at_106) rfl rfl ?_
        refine g_iload (pc' := 110) W142.here hx (hb hby at_108) rfl rfl ?_
        refine g_iload (pc' := 112) W142.here hx (hb hby at_110) rfl rfl ?_
        refine g_iload (pc' := 114) W142.here hx (hb hby at_112) rfl rfl ?_
        refine w_callS (pc' := 117) (st := []) (y := (⟨"com/example/grapple/grapple/internal/LimitsCheckKeyPrefixPinLaw", "fifty", "(CCCC)[C"⟩ : MethodName)) W142 hx [(.int xc137), (.int xc139), (.int xc141), (.int xc143)] (hw _ (List.mem_of_getElem? w_80)) (hw _ (List.mem_of_getElem? w_81)) (hw _ (List.mem_of_getElem? w_2)) (hw _ (List.mem_of_getElem? w_82)) (by decide) (c_fifty l Z a0 hw hE xc137 xc139 xc141 xc143 h142 W142.old ok_xc137 ok_xc139 ok_xc141 ok_xc143) all0 (by rw [hml]; rfl) (lenOf pd_14 rfl) rfl (hb hby at_114) (Nat.le_of_ble_eq_true rfl) (Nat.le_of_ble_eq_true rfl) (Nat.le_of_ble_eq_true rfl) (Nat.le_of_ble_eq_true rfl) rfl fun v178 T178 h178 W178 K178 Q178 => ?_
        have z_K178 : h142.size ≤ h178.size := K178.1
        obtain ⟨ca179, rfl, gz179, V179⟩ := Q178
        have lt_ca179 : ca179 < h178.size := V179.lt
        refine g_astore (pc' := 119) (Ls' := #[.val (.int p0), .val (.int p1), .val (.int p2), .val (.int p3), .val (.int p4), .val (.int xc137), .val (.int xc139), .val (.int xc141), .val (.int xc143), .val (.int (p0 &&& (3 : Int32))), .val (.ref ca179), .unset, .unset]) W178.here hx (hb hby at_117) rfl rfl rfl ?_
        refine w_new (pc' := 122) W178 hx (hw _ (List.mem_of_getElem? w_6)) (hw _ (List.mem_of_getElem? w_7)) (hw _ (List.mem_of_getElem? w_8)) (hb hby at_119) (Nat.le_of_ble_eq_true rfl) (Nat.le_of_ble_eq_true rfl) rfl fun T180 h180 b180 g180 W180 K180 A180 D180 => ?_
        have z_K180 : h178.size ≤ h180.size := K180.1
        have ne_ca179_b180 : ca179 ≠ b180 := by omega
        have lt_b180 : b180 < h180.size := W180.lt (List.mem_cons_self ..)
        have F180_coder : Fld Z h180 b180 "java/lang/String" "coder" "B" (.int (0 : Int32)) := D180 (Or.inr (hw _ (List.mem_of_getElem? w_32))) (ty := .byte) (by decide)
        have F180_value : Fld Z h180 b180 "java/lang/String" "value" "[B" .null := D180 (Or.inr (hw _ (List.mem_of_getElem? w_34))) (ty := (.array .byte)) (by decide)
        refine g_dup (pc' := 123) W180.here hx (hb hby at_122) rfl rfl ?_
        refine g_aload (pc' := 125) W180.here hx (hb hby at_123) rfl rfl rfl ?_
        have c181 := (V179.keep K180 nin0)
        refine w_special (pc' := 128) (st := [(.ref b180)]) (y := (⟨"java/lang/String", "<init>", "([C)V"⟩ : MethodName)) (a := b180) W180 hx [(.ref ca179)] rfl (hw _ (List.mem_of_getElem? w_9)) (hw _ (List.mem_of_getElem? w_10)) (hw _ (List.mem_of_getElem? w_8)) (hw _ (List.mem_of_getElem? w_11)) (by decide) (c_strC l Z a0 hw hE cc fm b180 ca179 [xc137, xc139, xc141, xc143, xc137, xc139, xc141, xc143, xc137, xc139, xc141, xc143, xc137, xc139, xc141, xc143, xc137, xc139, xc141, xc143, xc137, xc139, xc141, xc143, xc137, xc139, xc141, xc143, xc137, xc139, xc141, xc143, xc137, xc139, xc141, xc143, xc137, xc139, xc141, xc143, xc137, xc139, xc141, xc143, xc137, xc139, xc141, xc143, xc137, xc139] h180 W180.old G (Nat.succ_pos _) (Nat.le_of_ble_eq_true rfl) (own_allS ok_xc137.lat (own_allS ok_xc139.lat (own_allS ok_xc141.lat (own_allS ok_xc143.lat (own_allS ok_xc137.lat (own_allS ok_xc139.lat (own_allS ok_xc141.lat (own_allS ok_xc143.lat (own_allS ok_xc137.lat (own_allS ok_xc139.lat (own_allS ok_xc141.lat (own_allS ok_xc143.lat (own_allS ok_xc137.lat (own_allS ok_xc139.lat (own_allS ok_xc141.lat (own_allS ok_xc143.lat (own_allS ok_xc137.lat (own_allS ok_xc139.lat (own_allS ok_xc141.lat (own_allS ok_xc143.lat (own_allS ok_xc137.lat (own_allS ok_xc139.lat (own_allS ok_xc141.lat (own_allS ok_xc143.lat (own_allS ok_xc137.lat (own_allS ok_xc139.lat (own_allS ok_xc141.lat (own_allS ok_xc143.lat (own_allS ok_xc137.lat (own_allS ok_xc139.lat (own_allS ok_xc141.lat (own_allS ok_xc143.lat (own_allS ok_xc137.lat (own_allS ok_xc139.lat (own_allS ok_xc141.lat (own_allS ok_xc143.lat (own_allS ok_xc137.lat (own_allS ok_xc139.lat (own_allS ok_xc141.lat (own_allS ok_xc143.lat (own_allS ok_xc137.lat (own_allS ok_xc139.lat (own_allS ok_xc141.lat (own_allS ok_xc143.lat (own_allS ok_xc137.lat (own_allS ok_xc139.lat (own_allS ok_xc141.lat (own_allS ok_xc143.lat (own_allS ok_xc137.lat (own_allS ok_xc139.lat own_all0)))))))))))))))))))))))))))))))))))))))))))))))))) c181 (by have := O.1; omega) A180 _ _ F180_coder F180_value (Ne.symm ne_ca179_b180)) (allS (List.mem_of_getElem? (i := 0) rfl) all0) (by rw [hml]; rfl) (lenOf pd_12 rfl) rfl (hb hby at_125) (Nat.le_of_ble_eq_true rfl) (Nat.le_of_ble_eq_true rfl) (Nat.le_of_ble_eq_true rfl) (Nat.le_of_ble_eq_true rfl) rfl fun v182 T182 h182 W182 K182 Q182 => ?_
        have z_K182 : h180.size ≤ h182.size := K182.1
        obtain ⟨rfl, sb183, S183⟩ := Q182
        have ES183 := S183.1
        have lt_sb183 : sb183 < h182.size := S183.ltb
        refine g_astore (pc' := 130) (Ls' := #[.val (.int p0), .val (.int p1), .val (.int p2), .val (.int p3), .val (.int p4), .val (.int xc137), .val (.int xc139), .val (.int xc141), .val (.int xc143), .val (.int (p0 &&& (3 : Int32))), .val (.ref ca179), .val (.ref b180), .unset]) W182.here hx (hb hby at_128) rfl rfl rfl ?_
        refine g_aload (pc' := 132) W182.here hx (hb hby at_130) rfl rfl rfl ?_
        refine w_callSp (pc' := 135) (st := []) (y := (⟨"com/example/grapple/grapple/internal/Limits", "checkKeyPrefix", "(Ljava/lang/String;)Ljava/lang/String;"⟩ : MethodName)) W182 hx [(.ref b180)] (hw _ (List.mem_of_getElem? w_35)) (hw _ (List.mem_of_getElem? w_36)) (hw _ (List.mem_of_getElem? w_37)) (hw _ (List.mem_of_getElem? w_38)) (by decide) (c_check l Z a0 hw hE cc fm b180 sb183 [xc137, xc139, xc141, xc143, xc137, xc139, xc141, xc143, xc137, xc139, xc141, xc143, xc137, xc139, xc141, xc143, xc137, xc139, xc141, xc143, xc137, xc139, xc141, xc143, xc137, xc139, xc141, xc143, xc137, xc139, xc141, xc143, xc137, xc139, xc141, xc143, xc137, xc139, xc141, xc143, xc137, xc139, xc141, xc143, xc137, xc139, xc141, xc143, xc137, xc139] h182 W182.old G S183 (by simp) (Nat.le_of_ble_eq_true rfl) (own_allS ok_xc137 (own_allS ok_xc139 (own_allS ok_xc141 (own_allS ok_xc143 (own_allS ok_xc137 (own_allS ok_xc139 (own_allS ok_xc141 (own_allS ok_xc143 (own_allS ok_xc137 (own_allS ok_xc139 (own_allS ok_xc141 (own_allS ok_xc143 (own_allS ok_xc137 (own_allS ok_xc139 (own_allS ok_xc141 (own_allS ok_xc143 (own_allS ok_xc137 (own_allS ok_xc139 (own_allS ok_xc141 (own_allS ok_xc143 (own_allS ok_xc137 (own_allS ok_xc139 (own_allS ok_xc141 (own_allS ok_xc143 (own_allS ok_xc137 (own_allS ok_xc139 (own_allS ok_xc141 (own_allS ok_xc143 (own_allS ok_xc137 (own_allS ok_xc139 (own_allS ok_xc141 (own_allS ok_xc143 (own_allS ok_xc137 (own_allS ok_xc139 (own_allS ok_xc141 (own_allS ok_xc143 (own_allS ok_xc137 (own_allS ok_xc139 (own_allS ok_xc141 (own_allS ok_xc143 (own_allS ok_xc137 (own_allS ok_xc139 (own_allS ok_xc141 (own_allS ok_xc143 (own_allS ok_xc137 (own_allS ok_xc139 (own_allS ok_xc141 (own_allS ok_xc143 (own_allS ok_xc137 (own_allS ok_xc139 own_all0))))))))))))))))))))))))))))))))))))))))))))))))))) (by rw [hml]; rfl) (lenOf pd_13 rfl) rfl (hb hby at_132) (Nat.le_of_ble_eq_true rfl) (Nat.le_of_ble_eq_true rfl) rfl rfl (Nat.le_of_ble_eq_true rfl) (Nat.le_of_ble_eq_true rfl) rfl fun T184 W184 => ?_
        refine g_astore (pc' := 137) (Ls' := #[.val (.int p0), .val (.int p1), .val (.int p2), .val (.int p3), .val (.int p4), .val (.int xc137), .val (.int xc139), .val (.int xc141), .val (.int xc143), .val (.int (p0 &&& (3 : Int32))), .val (.ref ca179), .val (.ref b180), .val (.ref b180)]) W184.here hx (hb hby at_135) rfl rfl rfl ?_
        refine g_aload (pc' := 139) W184.here hx (hb hby at_137) rfl rfl rfl ?_
        refine g_aload (pc' := 141) W184.here hx (hb hby at_139) rfl rfl rfl ?_
        refine w_acmp (pc' := 144) W184 hx rfl rfl true (hb hby at_141) (decide_eq_true rfl) (by decide) (by decide) ?_
        refine g_aload (pc' := 146) W184.here hx (hb hby at_144) rfl rfl rfl ?_
        refine w_virtualp (pc' := 149) (st := []) (y := (⟨"java/lang/String", "length", "()I"⟩ : MethodName)) (z := (⟨"java/lang/String", "length", "()I"⟩ : MethodName)) (a := b180) W184 hx [] (hw _ (List.mem_of_getElem? w_79)) (hw _ (List.mem_of_getElem? w_40)) (nfS (z := (⟨"java/lang/String", "length", "()I"⟩ : MethodName)) (hw _ (List.mem_of_getElem? w_42))) (hw _ (List.mem_of_getElem? w_42)) (hw _ (List.mem_of_getElem? w_41)) (hw _ (List.mem_of_getElem? w_8)) (hw _ (List.mem_of_getElem? w_43)) (by decide) (c_length l Z a0 hw hE cc fm b180 sb183 [xc137, xc139, xc141, xc143, xc137, xc139, xc141, xc143, xc137, xc139, xc141, xc143, xc137, xc139, xc141, xc143, xc137, xc139, xc141, xc143, xc137, xc139, xc141, xc143, xc137, xc139, xc141, xc143, xc137, xc139, xc141, xc143, xc137, xc139, xc141, xc143, xc137, xc139, xc141, xc143, xc137, xc139, xc141, xc143, xc137, xc139, xc141, xc143, xc137, xc139]  h182 W184.old G S183 ) ES183 (by rw [hml]; rfl) (lenOf pd_9 rfl) rfl (hb hby at_146) (Nat.le_of_ble_eq_true rfl) (Nat.le_of_ble_eq_true rfl) rfl rfl (Nat.le_of_ble_eq_true rfl) (Nat.le_of_ble_eq_true rfl) rfl fun T185 W185 => ?_
        refine g_name (w := .int (50 : Int32)) rfl ?_
        refine g_aload (pc' := 151) W185.here hx (hb hby at_149) rfl rfl rfl ?_
        have c186 := (c181.keep K182 (ninS ne_ca179_b180 nin0))
        refine w_len (pc' := 152) W185 hx c186 (hb hby at_151) rfl ?_
        refine g_name (w := .int (50 : Int32)) rfl ?_
        refine g_icmpN (pc' := 155) W185.here hx (hb hby at_152) rfl (teq (show (50 : Int32) = (50 : Int32) from (by decide))).2 ?_
        refine g_iconst (1 : Int32) (pc' := 156) W185.here hx (hb hby at_155) rfl rfl ?_
        refine g_goto (pc' := 160) W185.here hx (hb hby at_156) rfl ?_
        refine w_retN (t := .boolean) W185 hx hh hlk hret (by simp) (hb hby at_160) (Nat.le_of_ble_eq_true rfl) (Nat.le_of_ble_eq_true rfl) ?_
        exact rfl
set_option maxRecDepth 65536 in
set_option maxHeartbeats 40000000 in
theorem comes_1 {Post : Tables → Env → Array Value → State → Outcome → State → Prop} (hpost : ∀ tb e args s v u, (limb_1_1.after args s (.returned v) u = true ∧ limb_1_2.after args s (.returned v) u = true ∧ True) → FrameEnd s (.returned v) u (Jvm.fieldLocs frame_1_writes args s ++ Jvm.arrayLocs frame_1_arrays args s ++ Jvm.staticLocs frame_1_statics s) 16 320 → Post tb e args s (.returned v) u) :
    ArmFor flags0 classFile x code maxLocals ret World_1 tables_1 room_1 Calls_1 rest_1 Pre_1 Post := by
  intro l hfl _ _ p e ha hc hk s m args below hf hA hF happ hP
  obtain ⟨hcalls, hrest, hpre⟩ := hP
  obtain ⟨-, -, -, hnamed, -, -, -, hat⟩ := (Spec.applies_iff hf).mp happ
  obtain ⟨hg, hn⟩ := and_e (Cond.before_iff.mp (show (Jvm.Cond.and given_1 narrow_1).before args s = true from hpre))
  obtain ⟨hg0, hg⟩ := and_e hg
  obtain ⟨w0, w1, w2, w3, w4, rfl⟩ : ∃ w0 w1 w2 w3 w4 : Value, args = #[w0, w1, w2, w3, w4] := by
    have hs : args.size = 5 := by simpa [Cond.value, given_1] using hg0
    obtain ⟨L⟩ := args
    match L, hs with
    | [w0, w1, w2, w3, w4], _ => exact ⟨w0, w1, w2, w3, w4, rfl⟩
  have hw := fun d (hd : d ∈ tables_1) => atoms_spec (ws := Jvm.Cond.code x code maxLocals ret :: tables_1) hat d (List.mem_cons_of_mem _ hd)
  have hfit : Fit s := fun {y c} hc i hi => by
    obtain ⟨ha, rfl⟩ := Array.getElem?_eq_some_iff.mp hc
    have q := List.all_eq_true.mp ((Array.all_eq_true_iff_forall_mem.mp hF) _ (Array.getElem_mem ha)) i (List.mem_range.mpr hi)
    simpa [Array.getElem?_eq_getElem hi] using q
  obtain ⟨hg1, hg⟩ := and_e hg
  obtain ⟨p0, ep0⟩ := is_v hg1
  obtain rfl : w0 = (.int p0) := Option.some.inj ep0
  obtain ⟨hg2, hg⟩ := and_e hg
  obtain ⟨p1, ep1⟩ := is_v hg2
  obtain rfl : w1 = (.int p1) := Option.some.inj ep1
  obtain ⟨hg3, hg⟩ := and_e hg
  obtain ⟨p2, ep2⟩ := is_v hg3
  obtain rfl : w2 = (.int p2) := Option.some.inj ep2
  obtain ⟨hg4, hg⟩ := and_e hg
  obtain ⟨p3, ep3⟩ := is_v hg4
  obtain rfl : w3 = (.int p3) := Option.some.inj ep3
  have hg5 := hg
  obtain ⟨p4, ep4⟩ := is_v hg5
  obtain rfl : w4 = (.int p4) := Option.some.inj ep4
  have n1 := hn
  have hsets := (atoms_of jdkStatics_1 (show (jdkStatics_1.foldr Cond.and restOwn_1).before _ s = true by rw [← rest_1_c_eq]; exact hrest)).1
  obtain ⟨cc, ecc⟩ := is_v (Cond.before_iff.mp (hsets _ (List.mem_of_getElem? (i := 1) rfl)))
  have hcc : ¬ cc = 0 := fun q => by
    have q1 := not_v (Cond.before_iff.mp (hsets _ (List.mem_of_getElem? (i := 2) rfl)))
    exact absurd q (gotF (Cond.eq_ints ecc (Term.int_eval 0)) q1)
  obtain ⟨fm, efm, hfm⟩ := isR_v (Cond.before_iff.mp (hsets _ (List.mem_of_getElem? (i := 8) rfl)))
  have hG : SEnv s cc fm := ⟨Sta.start ecc (Or.inl (hsets _ (List.mem_of_getElem? (i := 0) rfl))), hcc, Sta.start efm (Or.inl (hsets _ (List.mem_of_getElem? (i := 7) rfl))), hfm⟩
  have hEW : EW s #[] ([] : List (String × Nat)) := EW.nil
  obtain ⟨t, o, h1, h2, h3, v, L, rfl, ⟨rfl, N, -⟩, hq⟩ := c_law l s _ hw EW.nil cc fm p0 p1 p2 p3 p4 s.heap ⟨Nat.le_refl _, fun _ _ q => q⟩ hG
    p e ha hc hk s m _ below hf ((Spec.applies_iff_loose hf).mp happ).1 ⟨rfl, State.Warmed39.refl s, rfl⟩ trivial
  refine ⟨t, _, h1, h2, h3, hpost _ _ _ _ _ _ ⟨Cond.after_iff.mpr rfl, Cond.after_iff.mpr (eq_i res_at (Term.int_eval (1)) rfl), trivial⟩ ⟨hq.1, hq.2.1, (hq.2.2.sift fun y hy => Or.inr (N y hy)).mono (by decide) (by decide)⟩⟩
theorem main_1_1 : Claimed_1_1 := comes_1 fun _ _ _ _ _ _ h hF => ⟨h.1, hF⟩
theorem main_1_2 : Claimed_1_2 := comes_1 fun _ _ _ _ _ _ h hF => ⟨h.2.1, hF⟩
end Jvm.Pilot.@@N@@
namespace Jvm.Pilot.@@N@@
open Jvm Jvm.ClassFile Sem Op Lib Jvm.Free Jvm.Stand Jvm.Pilot.@@N@@.Jvm.D
/-! MADE BY PROGRAM (witnessworld.py) out of the Statement's table words and the real class files: 20 classes; the members and pool entries that the words name. The judged class is class 1, her method 1. -/
namespace start1
open Jvm.ClassFile
def u (s : String) : CpInfo := .utf8 (stringToUtf16 s)
/-- a pool by its gaps: so many unusable entries, then the entry; so many at the end -/
def gap : Nat → List CpInfo → List CpInfo
  | 0, r => r
  | n + 1, r => .unusable :: gap n r
def poolList (es : List (Nat × CpInfo)) (last : Nat) : List CpInfo := es.foldr (fun e r => gap e.1 (e.2 :: r)) (gap last [])
def pool (es : List (Nat × CpInfo)) (last : Nat) : Array CpInfo := ⟨poolList es last⟩
def fileOf (pool : Array CpInfo) (this : Nat) (attrs : Array Attribute := #[]) (ms : Array MethodInfo := #[]) (fl : Nat := 33) (sup : Nat := 0) (ifs : Array Nat := #[]) (fds : Array FieldInfo := #[]) : ClassFile where
  minorVersion := 0
  majorVersion := 65
  constantPool := pool
  accessFlags := fl
  thisClass := this
  superClass := sup
  interfaces := ifs
  fields := fds
  methods := ms
  attributes := attrs
def plain (name : String) (sup : Option ClassId) : Class where
  name := name
  kind := .ordinary
  loader := none
  accessFlags := 33
  super := sup
  interfaces := #[]
  cf := none
  fields := #[]
  methods := #[]
  instanceTypes := #[]
  staticTypes := #[]
  resolved := #[]
  callSites := []
  init := .initialized
  statics := none
  mirror := none

def pool0 : Array CpInfo := pool [(5, u "<init>"), (0, u "()V"), (1, .class_ 10), (1, u "java/lang/Object")] 113

def k0c0 : Code := { maxStack := 0, maxLocals := 1, code := object_method_1_code, exceptionTable := #[], attributes := #[] }
def k0m0 : Method := { name := "<init>", desc := "()V", sig := { parameters := [], returnType := none }, accessFlags := 1, code := some k0c0 }
/-- java/lang/Object -/
def k0 : Class := { plain "java/lang/Object" none with
  accessFlags := 33
  interfaces := #[]
  cf := some (fileOf pool0 8 #[] #[{ accessFlags := 1, nameIndex := 5, descriptorIndex := 6, attributes := #[] }] 33 0 #[] #[])
  fields := #[]
  methods := #[k0m0]
  instanceTypes := #[]
  staticTypes := #[]
  resolved := Array.replicate 124 none
  statics := none }

def pool1 : Array CpInfo := pool [(2, .class_ 4), (1, u "java/lang/Object"), (0, u "<init>"), (0, u "()V"), (0, .methodref 8 9), (0, .class_ 10), (0, .nameAndType 11 12), (0, u "com/example/grapple/grapple/internal/LimitsCheckKeyPrefixPinLaw"), (0, u "allowed"), (0, u "(I)C"), (0, .methodref 8 14), (0, .nameAndType 15 16), (0, u "fifty"), (0, u "(CCCC)[C"), (0, .class_ 18), (0, u "java/lang/String"), (0, .methodref 17 20), (0, .nameAndType 5 21), (0, u "([C)V"), (0, .methodref 23 24), (0, .class_ 25), (0, .nameAndType 26 27), (0, u "com/example/grapple/grapple/internal/Limits"), (0, u "checkKeyPrefix"), (0, u "(Ljava/lang/String;)Ljava/lang/String;"), (0, .methodref 17 29), (0, .nameAndType 30 31), (0, u "length"), (0, u "()I"), (0, .integer 2147483647), (2, u "law"), (0, u "(IIIII)Z")] 5

def k1m0 : Method := { name := "<init>", desc := "()V", sig := { parameters := [], returnType := none }, accessFlags := 2, code := none }
def k1c1 : Code := { maxStack := 4, maxLocals := 13, code := code, exceptionTable := #[], attributes := #[] }
def k1m1 : Method := { name := "law", desc := "(IIIII)Z", sig := { parameters := [.int, .int, .int, .int, .int], returnType := some .boolean }, accessFlags := 9, code := some k1c1 }
def k1c2 : Code := { maxStack := 3, maxLocals := 2, code := method_3_code, exceptionTable := #[], attributes := #[] }
def k1m2 : Method := { name := "allowed", desc := "(I)C", sig := { parameters := [.int], returnType := some .char }, accessFlags := 10, code := some k1c2 }
def k1c3 : Code := { maxStack := 4, maxLocals := 4, code := method_4_code, exceptionTable := #[], attributes := #[] }
def k1m3 : Method := { name := "fifty", desc := "(CCCC)[C", sig := { parameters := [.char, .char, .char, .char], returnType := some (.array .char) }, accessFlags := 10, code := some k1c3 }
/-- com/example/grapple/grapple/internal/LimitsCheckKeyPrefixPinLaw -/
def k1 : Class := { plain "com/example/grapple/grapple/internal/LimitsCheckKeyPrefixPinLaw" (some 0) with
  accessFlags := 49
  interfaces := #[]
  cf := some (fileOf pool1 8 #[] #[{ accessFlags := 2, nameIndex := 5, descriptorIndex := 6, attributes := #[] }, { accessFlags := 9, nameIndex := 35, descriptorIndex := 36, attributes := #[] }, { accessFlags := 10, nameIndex := 11, descriptorIndex := 12, attributes := #[] }, { accessFlags := 10, nameIndex := 15, descriptorIndex := 16, attributes := #[] }] 49 2 #[] #[])
  fields := #[]
  methods := #[k1m0, k1m1, k1m2, k1m3]
  instanceTypes := #[]
  staticTypes := #[]
  resolved := Array.replicate 42 none
  statics := none }

def pool2 : Array CpInfo := pool [(1, .class_ 2), (0, u "java/io/Serializable"), (0, .class_ 4), (0, u "java/lang/Object")] 2

/-- java/io/Serializable -/
def k2 : Class := { plain "java/io/Serializable" (some 0) with
  accessFlags := 1537
  interfaces := #[]
  cf := some (fileOf pool2 1 #[] #[] 1537 3 #[] #[])
  fields := #[]
  methods := #[]
  instanceTypes := #[]
  staticTypes := #[]
  resolved := Array.replicate 7 none
  statics := none }

def pool3 : Array CpInfo := pool [(1, .class_ 2), (0, u "java/lang/Comparable"), (0, .class_ 4), (0, u "java/lang/Object")] 7

/-- java/lang/Comparable -/
def k3 : Class := { plain "java/lang/Comparable" (some 0) with
  accessFlags := 1537
  interfaces := #[]
  cf := some (fileOf pool3 1 #[] #[] 1537 3 #[] #[])
  fields := #[]
  methods := #[]
  instanceTypes := #[]
  staticTypes := #[]
  resolved := Array.replicate 12 none
  statics := none }

def pool4 : Array CpInfo := pool [(2, .class_ 4), (1, u "java/lang/CharSequence"), (42, .class_ 48), (0, u "java/lang/CharSequence$1CodePointIterator"), (10, .class_ 60), (0, u "java/lang/CharSequence$1CharIterator"), (5, .class_ 67), (0, u "java/lang/Object")] 63

/-- java/lang/CharSequence -/
def k4 : Class := { plain "java/lang/CharSequence" (some 0) with
  accessFlags := 1537
  interfaces := #[]
  cf := some (fileOf pool4 2 #[.nestMembers #[47, 59]] #[] 1537 66 #[] #[])
  fields := #[]
  methods := #[]
  instanceTypes := #[]
  staticTypes := #[]
  resolved := Array.replicate 131 none
  statics := none }

def pool5 : Array CpInfo := pool [(1, .class_ 2), (0, u "java/lang/constant/Constable"), (0, .class_ 4), (0, u "java/lang/Object")] 6

/-- java/lang/constant/Constable -/
def k5 : Class := { plain "java/lang/constant/Constable" (some 0) with
  accessFlags := 1537
  interfaces := #[]
  cf := some (fileOf pool5 1 #[] #[] 1537 3 #[] #[])
  fields := #[]
  methods := #[]
  instanceTypes := #[]
  staticTypes := #[]
  resolved := Array.replicate 11 none
  statics := none }

def pool6 : Array CpInfo := pool [(1, .class_ 2), (0, u "java/lang/constant/ConstantDesc"), (0, .class_ 4), (0, u "java/lang/Object")] 32

/-- java/lang/constant/ConstantDesc -/
def k6 : Class := { plain "java/lang/constant/ConstantDesc" (some 0) with
  accessFlags := 1537
  interfaces := #[]
  cf := some (fileOf pool6 1 #[] #[] 1537 3 #[] #[])
  fields := #[]
  methods := #[]
  instanceTypes := #[]
  staticTypes := #[]
  resolved := Array.replicate 37 none
  statics := none }

def pool7 : Array CpInfo := pool [(1, .methodref 2 3), (0, .class_ 4), (0, .nameAndType 5 6), (0, u "java/lang/Object"), (0, u "<init>"), (0, u "()V"), (2, .fieldref 10 11), (0, .class_ 12), (0, .nameAndType 13 14), (0, u "java/lang/String"), (0, u "value"), (0, u "[B"), (0, .fieldref 10 16), (0, .nameAndType 17 18), (0, u "coder"), (0, u "B"), (2, u "hash"), (0, u "I"), (2, u "hashIsZero"), (0, u "Z"), (0, .methodref 10 28), (0, .nameAndType 5 29), (0, u "([CIILjava/lang/Void;)V"), (8, .fieldref 10 39), (0, .nameAndType 40 26), (0, u "COMPACT_STRINGS"), (1, .class_ 44), (1, u "java/lang/StringUTF16"), (0, u "compress"), (1, .methodref 42 48), (0, .nameAndType 49 50), (0, u "coderFromArrayLen"), (0, u "([BI)B"), (56, .class_ 109), (1, u "java/lang/StringLatin1"), (32, u "()Z"), (34, .methodref 42 178), (0, .nameAndType 45 179), (0, u "([CII)[B"), (154, u "()I"), (0, .methodref 10 336), (0, .nameAndType 17 337), (0, u "()B"), (25, u "([BI)C"), (27, u "(II)V"), (35, u "(I)C"), (64, .methodref 10 493), (0, .nameAndType 494 142), (0, u "isLatin1"), (0, .methodref 107 496), (0, .nameAndType 497 363), (0, u "charAt"), (3, u "checkIndex"), (5, u "length"), (67, .class_ 576), (0, u "java/lang/CharSequence"), (22, u "CASE_INSENSITIVE_ORDER"), (0, u "Ljava/util/Comparator;"), (91, u "isEmpty"), (317, u "([C)V"), (42, .fieldref 1054 1055), (0, .class_ 1056), (0, .nameAndType 1057 1058), (0, u "jdk/internal/util/Preconditions"), (0, u "SIOOBE_FORMATTER"), (0, u "Ljava/util/function/BiFunction;"), (0, .methodref 1054 1060), (0, .nameAndType 501 1061), (0, u "(IILjava/util/function/BiFunction;)I"), (39, u "serialPersistentFields"), (0, u "[Ljava/io/ObjectStreamField;"), (0, .class_ 1104), (0, u "java/lang/String$CaseInsensitiveComparator"), (1, .class_ 1107), (0, u "java/io/Serializable"), (0, .class_ 1109), (0, u "java/lang/Comparable"), (0, .class_ 1111), (0, u "java/lang/constant/Constable"), (0, .class_ 1113), (0, u "java/lang/constant/ConstantDesc"), (2, u "serialVersionUID"), (0, u "J"), (3, u "REPL"), (0, u "C"), (2, u "LATIN1"), (1, u "UTF16")] 323

def k7m0 : Method := { name := "<init>", desc := "()V", sig := { parameters := [], returnType := none }, accessFlags := 1, code := none }
def k7c1 : Code := { maxStack := 5, maxLocals := 2, code := jdk_42_method_3_code, exceptionTable := #[], attributes := #[] }
def k7m1 : Method := { name := "<init>", desc := "([C)V", sig := { parameters := [(.array .char)], returnType := none }, accessFlags := 1, code := some k7c1 }
def k7c2 : Code := { maxStack := 2, maxLocals := 1, code := jdk_42_method_54_code, exceptionTable := #[], attributes := #[] }
def k7m2 : Method := { name := "length", desc := "()I", sig := { parameters := [], returnType := some .int }, accessFlags := 1, code := some k7c2 }
def k7c3 : Code := { maxStack := 1, maxLocals := 1, code := jdk_42_method_55_code, exceptionTable := #[], attributes := #[] }
def k7m3 : Method := { name := "isEmpty", desc := "()Z", sig := { parameters := [], returnType := some .boolean }, accessFlags := 1, code := some k7c3 }
def k7c4 : Code := { maxStack := 2, maxLocals := 2, code := jdk_42_method_56_code, exceptionTable := #[], attributes := #[] }
def k7m4 : Method := { name := "charAt", desc := "(I)C", sig := { parameters := [.int], returnType := some .char }, accessFlags := 1, code := some k7c4 }
def k7c5 : Code := { maxStack := 4, maxLocals := 6, code := jdk_42_method_149_code, exceptionTable := #[], attributes := #[] }
def k7m5 : Method := { name := "<init>", desc := "([CIILjava/lang/Void;)V", sig := { parameters := [(.array .char), .int, .int, (.object "java/lang/Void")], returnType := none }, accessFlags := 2, code := some k7c5 }
def k7c6 : Code := { maxStack := 1, maxLocals := 1, code := jdk_42_method_152_code, exceptionTable := #[], attributes := #[] }
def k7m6 : Method := { name := "coder", desc := "()B", sig := { parameters := [], returnType := some .byte }, accessFlags := 0, code := some k7c6 }
def k7c7 : Code := { maxStack := 1, maxLocals := 1, code := jdk_42_method_154_code, exceptionTable := #[], attributes := #[] }
def k7m7 : Method := { name := "isLatin1", desc := "()Z", sig := { parameters := [], returnType := some .boolean }, accessFlags := 0, code := some k7c7 }
def k7c8 : Code := { maxStack := 3, maxLocals := 2, code := jdk_42_method_155_code, exceptionTable := #[], attributes := #[] }
def k7m8 : Method := { name := "checkIndex", desc := "(II)V", sig := { parameters := [.int, .int], returnType := none }, accessFlags := 8, code := some k7c8 }
/-- java/lang/String -/
def k7 : Class := { plain "java/lang/String" (some 0) with
  accessFlags := 49
  interfaces := #[2, 3, 4, 5, 6]
  cf := some (fileOf pool7 10 #[.nestMembers #[1103]] #[{ accessFlags := 1, nameIndex := 5, descriptorIndex := 6, attributes := #[] }, { accessFlags := 1, nameIndex := 5, descriptorIndex := 1010, attributes := #[] }, { accessFlags := 1, nameIndex := 507, descriptorIndex := 334, attributes := #[] }, { accessFlags := 1, nameIndex := 692, descriptorIndex := 142, attributes := #[] }, { accessFlags := 1, nameIndex := 497, descriptorIndex := 427, attributes := #[] }, { accessFlags := 2, nameIndex := 5, descriptorIndex := 29, attributes := #[] }, { accessFlags := 0, nameIndex := 17, descriptorIndex := 337, attributes := #[] }, { accessFlags := 0, nameIndex := 494, descriptorIndex := 142, attributes := #[] }, { accessFlags := 8, nameIndex := 501, descriptorIndex := 391, attributes := #[] }] 49 2 #[1106, 1108, 575, 1110, 1112] #[{ accessFlags := 18, nameIndex := 13, descriptorIndex := 14, attributes := #[] }, { accessFlags := 18, nameIndex := 17, descriptorIndex := 18, attributes := #[] }, { accessFlags := 2, nameIndex := 21, descriptorIndex := 22, attributes := #[] }, { accessFlags := 2, nameIndex := 25, descriptorIndex := 26, attributes := #[] }, { accessFlags := 26, nameIndex := 1116, descriptorIndex := 1117, attributes := #[] }, { accessFlags := 24, nameIndex := 40, descriptorIndex := 26, attributes := #[] }, { accessFlags := 26, nameIndex := 1101, descriptorIndex := 1102, attributes := #[] }, { accessFlags := 26, nameIndex := 1121, descriptorIndex := 1122, attributes := #[] }, { accessFlags := 25, nameIndex := 599, descriptorIndex := 600, attributes := #[] }, { accessFlags := 24, nameIndex := 1125, descriptorIndex := 18, attributes := #[] }, { accessFlags := 24, nameIndex := 1127, descriptorIndex := 18, attributes := #[] }])
  fields := #[{ name := "value", type := (.array .byte), accessFlags := 18, slot := 0, constantValue := 0 }, { name := "coder", type := .byte, accessFlags := 18, slot := 1, constantValue := 0 }, { name := "hash", type := .int, accessFlags := 2, slot := 2, constantValue := 0 }, { name := "hashIsZero", type := .boolean, accessFlags := 2, slot := 3, constantValue := 0 }, { name := "serialVersionUID", type := .long, accessFlags := 26, slot := 0, constantValue := 0 }, { name := "COMPACT_STRINGS", type := .boolean, accessFlags := 24, slot := 1, constantValue := 0 }, { name := "serialPersistentFields", type := (.array (.object "java/io/ObjectStreamField")), accessFlags := 26, slot := 2, constantValue := 0 }, { name := "REPL", type := .char, accessFlags := 26, slot := 3, constantValue := 0 }, { name := "CASE_INSENSITIVE_ORDER", type := (.object "java/util/Comparator"), accessFlags := 25, slot := 4, constantValue := 0 }, { name := "LATIN1", type := .byte, accessFlags := 24, slot := 5, constantValue := 0 }, { name := "UTF16", type := .byte, accessFlags := 24, slot := 6, constantValue := 0 }]
  methods := #[k7m0, k7m1, k7m2, k7m3, k7m4, k7m5, k7m6, k7m7, k7m8]
  instanceTypes := #[(.array .byte), .byte, .int, .boolean]
  staticTypes := #[.long, .boolean, (.array (.object "java/io/ObjectStreamField")), .char, (.object "java/util/Comparator"), .byte, .byte]
  resolved := Array.replicate 1451 none
  statics := some 0 }

def pool8 : Array CpInfo := pool [(6, .class_ 8), (1, u "java/lang/Object"), (0, u "<init>"), (0, u "()V"), (1, .class_ 14), (1, u "java/lang/StringUTF16"), (31, u "$assertionsDisabled"), (0, u "Z"), (13, u "HI_BYTE_SHIFT"), (0, u "I"), (2, u "LO_BYTE_SHIFT"), (49, .methodref 12 116), (0, .nameAndType 117 118), (0, u "compress"), (0, u "([CI[BII)I"), (3, u "([CII)[B"), (138, u "coderFromArrayLen"), (0, u "([BI)B"), (106, .class_ 371), (1, u "java/lang/StringUTF16$LinesSpliterator"), (58, u "MAX_LENGTH"), (196, .class_ 628), (0, u "java/lang/StringUTF16$CodePointsSpliterator"), (0, .class_ 630), (0, u "java/lang/StringUTF16$CharsSpliterator")] 4

def k8m0 : Method := { name := "<init>", desc := "()V", sig := { parameters := [], returnType := none }, accessFlags := 0, code := none }
def k8c1 : Code := { maxStack := 2, maxLocals := 2, code := jdk_52_method_15_code, exceptionTable := #[], attributes := #[] }
def k8m1 : Method := { name := "coderFromArrayLen", desc := "([BI)B", sig := { parameters := [(.array .byte), .int], returnType := some .byte }, accessFlags := 8, code := some k8c1 }
def k8c2 : Code := { maxStack := 5, maxLocals := 6, code := jdk_52_method_16_code, exceptionTable := #[], attributes := #[] }
def k8m2 : Method := { name := "compress", desc := "([CII)[B", sig := { parameters := [(.array .char), .int, .int], returnType := some (.array .byte) }, accessFlags := 9, code := some k8c2 }
def k8c3 : Code := { maxStack := 3, maxLocals := 7, code := jdk_52_method_21_code, exceptionTable := #[], attributes := #[] }
def k8m3 : Method := { name := "compress", desc := "([CI[BII)I", sig := { parameters := [(.array .char), .int, (.array .byte), .int, .int], returnType := some .int }, accessFlags := 9, code := some k8c3 }
/-- java/lang/StringUTF16 -/
def k8 : Class := { plain "java/lang/StringUTF16" (some 0) with
  accessFlags := 48
  interfaces := #[]
  cf := some (fileOf pool8 12 #[.nestMembers #[627, 629, 369]] #[{ accessFlags := 0, nameIndex := 9, descriptorIndex := 10, attributes := #[] }, { accessFlags := 8, nameIndex := 261, descriptorIndex := 262, attributes := #[] }, { accessFlags := 9, nameIndex := 117, descriptorIndex := 122, attributes := #[] }, { accessFlags := 9, nameIndex := 117, descriptorIndex := 118, attributes := #[] }] 48 6 #[] #[{ accessFlags := 26, nameIndex := 61, descriptorIndex := 62, attributes := #[] }, { accessFlags := 26, nameIndex := 65, descriptorIndex := 62, attributes := #[] }, { accessFlags := 24, nameIndex := 430, descriptorIndex := 62, attributes := #[] }, { accessFlags := 4120, nameIndex := 46, descriptorIndex := 47, attributes := #[] }])
  fields := #[{ name := "HI_BYTE_SHIFT", type := .int, accessFlags := 26, slot := 0, constantValue := 0 }, { name := "LO_BYTE_SHIFT", type := .int, accessFlags := 26, slot := 1, constantValue := 0 }, { name := "MAX_LENGTH", type := .int, accessFlags := 24, slot := 2, constantValue := 0 }, { name := "$assertionsDisabled", type := .boolean, accessFlags := 4120, slot := 3, constantValue := 0 }]
  methods := #[k8m0, k8m1, k8m2, k8m3]
  instanceTypes := #[]
  staticTypes := #[.int, .int, .int, .boolean]
  resolved := Array.replicate 635 none
  statics := none }

def pool9 : Array CpInfo := pool [(2, .class_ 4), (1, u "java/lang/Object"), (0, u "<init>"), (0, u "()V"), (5, u "(Ljava/lang/String;)Ljava/lang/String;"), (6, .class_ 21), (1, u "java/lang/String"), (1, u "()Z"), (2, .methodref 19 27), (0, .nameAndType 28 29), (0, u "length"), (0, u "()I"), (4, .class_ 35), (0, u "com/example/grapple/grapple/internal/Limits"), (27, .methodref 19 64), (0, .nameAndType 65 66), (0, u "charAt"), (0, u "(I)C"), (0, .methodref 34 68), (0, .nameAndType 69 70), (0, u "isKeyPrefixCharacter"), (0, u "(C)Z"), (1, .methodref 19 73), (0, .nameAndType 74 23), (0, u "isEmpty"), (3, u "MIN_LEASE"), (0, u "Ljava/time/Duration;"), (8, u "MAX_LEASE"), (29, u "MAX_NAME_LENGTH"), (0, u "I"), (2, u "MAX_KEY_PREFIX_LENGTH"), (9, u "checkKeyPrefix")] 35

def k9m0 : Method := { name := "<init>", desc := "()V", sig := { parameters := [], returnType := none }, accessFlags := 2, code := none }
def k9c1 : Code := { maxStack := 4, maxLocals := 3, code := prog_3_method_4_code, exceptionTable := #[], attributes := #[] }
def k9m1 : Method := { name := "checkKeyPrefix", desc := "(Ljava/lang/String;)Ljava/lang/String;", sig := { parameters := [(.object "java/lang/String")], returnType := some (.object "java/lang/String") }, accessFlags := 9, code := some k9c1 }
def k9c2 : Code := { maxStack := 2, maxLocals := 1, code := prog_3_method_7_code, exceptionTable := #[], attributes := #[] }
def k9m2 : Method := { name := "isKeyPrefixCharacter", desc := "(C)Z", sig := { parameters := [.char], returnType := some .boolean }, accessFlags := 10, code := some k9c2 }
/-- com/example/grapple/grapple/internal/Limits -/
def k9 : Class := { plain "com/example/grapple/grapple/internal/Limits" (some 0) with
  accessFlags := 49
  interfaces := #[]
  cf := some (fileOf pool9 34 #[] #[{ accessFlags := 2, nameIndex := 5, descriptorIndex := 6, attributes := #[] }, { accessFlags := 9, nameIndex := 132, descriptorIndex := 12, attributes := #[] }, { accessFlags := 10, nameIndex := 69, descriptorIndex := 70, attributes := #[] }] 49 2 #[] #[{ accessFlags := 25, nameIndex := 118, descriptorIndex := 119, attributes := #[] }, { accessFlags := 25, nameIndex := 122, descriptorIndex := 119, attributes := #[] }, { accessFlags := 25, nameIndex := 78, descriptorIndex := 79, attributes := #[] }, { accessFlags := 25, nameIndex := 88, descriptorIndex := 79, attributes := #[] }])
  fields := #[{ name := "MAX_NAME_LENGTH", type := .int, accessFlags := 25, slot := 0, constantValue := 0 }, { name := "MAX_KEY_PREFIX_LENGTH", type := .int, accessFlags := 25, slot := 1, constantValue := 0 }, { name := "MIN_LEASE", type := (.object "java/time/Duration"), accessFlags := 25, slot := 2, constantValue := 0 }, { name := "MAX_LEASE", type := (.object "java/time/Duration"), accessFlags := 25, slot := 3, constantValue := 0 }]
  methods := #[k9m0, k9m1, k9m2]
  instanceTypes := #[]
  staticTypes := #[.int, .int, (.object "java/time/Duration"), (.object "java/time/Duration")]
  resolved := Array.replicate 168 none
  statics := none }

def pool10 : Array CpInfo := pool [(1, .class_ 2), (0, u "java/lang/String"), (1, .class_ 6), (1, u "java/lang/Object"), (0, u "<init>"), (0, u "()V"), (0, .methodref 1 10), (0, .nameAndType 11 12), (0, u "checkIndex"), (0, u "(II)V"), (1, .class_ 16), (1, u "java/lang/StringLatin1"), (36, u "([BI)C"), (67, u "$assertionsDisabled"), (0, u "Z"), (98, .class_ 223), (1, u "java/lang/StringLatin1$LinesSpliterator"), (28, u "charAt"), (137, .class_ 391), (0, u "java/lang/StringLatin1$CharsSpliterator")] 3

def k10m0 : Method := { name := "<init>", desc := "()V", sig := { parameters := [], returnType := none }, accessFlags := 0, code := none }
def k10c1 : Code := { maxStack := 2, maxLocals := 2, code := jdk_43_method_2_code, exceptionTable := #[], attributes := #[] }
def k10m1 : Method := { name := "charAt", desc := "([BI)C", sig := { parameters := [(.array .byte), .int], returnType := some .char }, accessFlags := 9, code := some k10c1 }
/-- java/lang/StringLatin1 -/
def k10 : Class := { plain "java/lang/StringLatin1" (some 0) with
  accessFlags := 48
  interfaces := #[]
  cf := some (fileOf pool10 14 #[.nestMembers #[390, 221]] #[{ accessFlags := 0, nameIndex := 7, descriptorIndex := 8, attributes := #[] }, { accessFlags := 9, nameIndex := 252, descriptorIndex := 53, attributes := #[] }] 48 4 #[] #[{ accessFlags := 4120, nameIndex := 121, descriptorIndex := 122, attributes := #[] }])
  fields := #[{ name := "$assertionsDisabled", type := .boolean, accessFlags := 4120, slot := 0, constantValue := 0 }]
  methods := #[k10m0, k10m1]
  instanceTypes := #[]
  staticTypes := #[.boolean]
  resolved := Array.replicate 395 none
  statics := none }

def pool11 : Array CpInfo := pool [(2, .class_ 4), (1, u "java/lang/Object"), (0, u "<init>"), (0, u "()V"), (17, .class_ 26), (1, u "jdk/internal/util/Preconditions"), (6, u "checkIndex"), (21, .class_ 56), (0, u "jdk/internal/util/Preconditions$4"), (57, .class_ 115), (0, u "jdk/internal/util/Preconditions$1"), (7, u "SIOOBE_FORMATTER"), (0, u "Ljava/util/function/BiFunction;"), (0, .class_ 126), (0, u "jdk/internal/util/Preconditions$2"), (3, u "AIOOBE_FORMATTER"), (0, .class_ 132), (0, u "jdk/internal/util/Preconditions$3"), (3, u "IOOBE_FORMATTER"), (41, u "(IILjava/util/function/BiFunction;)I")] 15

def k11m0 : Method := { name := "<init>", desc := "()V", sig := { parameters := [], returnType := none }, accessFlags := 1, code := none }
def k11c1 : Code := { maxStack := 3, maxLocals := 3, code := jdk_41_method_11_code, exceptionTable := #[], attributes := #[] }
def k11m1 : Method := { name := "checkIndex", desc := "(IILjava/util/function/BiFunction;)I", sig := { parameters := [.int, .int, (.object "java/util/function/BiFunction")], returnType := some .int }, accessFlags := 9, code := some k11c1 }
/-- jdk/internal/util/Preconditions -/
def k11 : Class := { plain "jdk/internal/util/Preconditions" (some 0) with
  accessFlags := 33
  interfaces := #[]
  cf := some (fileOf pool11 24 #[.nestMembers #[55, 131, 125, 114]] #[{ accessFlags := 1, nameIndex := 5, descriptorIndex := 6, attributes := #[] }, { accessFlags := 9, nameIndex := 33, descriptorIndex := 178, attributes := #[] }] 33 2 #[] #[{ accessFlags := 25, nameIndex := 123, descriptorIndex := 124, attributes := #[] }, { accessFlags := 25, nameIndex := 130, descriptorIndex := 124, attributes := #[] }, { accessFlags := 25, nameIndex := 136, descriptorIndex := 124, attributes := #[] }])
  fields := #[{ name := "SIOOBE_FORMATTER", type := (.object "java/util/function/BiFunction"), accessFlags := 25, slot := 0, constantValue := 0 }, { name := "AIOOBE_FORMATTER", type := (.object "java/util/function/BiFunction"), accessFlags := 25, slot := 1, constantValue := 0 }, { name := "IOOBE_FORMATTER", type := (.object "java/util/function/BiFunction"), accessFlags := 25, slot := 2, constantValue := 0 }]
  methods := #[k11m0, k11m1]
  instanceTypes := #[]
  staticTypes := #[(.object "java/util/function/BiFunction"), (.object "java/util/function/BiFunction"), (.object "java/util/function/BiFunction")]
  resolved := Array.replicate 194 none
  statics := some 1 }

def pool12 : Array CpInfo := pool [(9, u "<init>"), (6, .class_ 18), (1, u "java/lang/Object"), (0, u "()V"), (1, .class_ 23), (1, u "jdk/internal/util/ArraysSupport"), (0, u "LOG2_ARRAY_LONG_INDEX_SCALE"), (0, u "I"), (2, u "U"), (0, u "Ljdk/internal/misc/Unsafe;"), (8, u "BIG_ENDIAN"), (0, u "Z"), (8, u "LOG2_BYTE_BIT_SIZE"), (4, u "LOG2_ARRAY_INT_INDEX_SCALE"), (54, u "JLA"), (0, u "Ljdk/internal/access/JavaLangAccess;"), (11, u "LOG2_ARRAY_BOOLEAN_INDEX_SCALE"), (9, u "LOG2_ARRAY_BYTE_INDEX_SCALE"), (5, u "LOG2_ARRAY_CHAR_INDEX_SCALE"), (5, u "LOG2_ARRAY_SHORT_INDEX_SCALE"), (18, u "LOG2_ARRAY_FLOAT_INDEX_SCALE"), (24, u "LOG2_ARRAY_DOUBLE_INDEX_SCALE"), (89, u "T_BOOLEAN"), (2, u "T_CHAR"), (1, u "T_FLOAT"), (1, u "T_DOUBLE"), (1, u "T_BYTE"), (1, u "T_SHORT"), (1, u "T_INT"), (1, u "T_LONG"), (1, u "SOFT_MAX_ARRAY_LENGTH")] 83

def k12m0 : Method := { name := "<init>", desc := "()V", sig := { parameters := [], returnType := none }, accessFlags := 2, code := none }
/-- jdk/internal/util/ArraysSupport -/
def k12 : Class := { plain "jdk/internal/util/ArraysSupport" (some 0) with
  accessFlags := 33
  interfaces := #[]
  cf := some (fileOf pool12 21 #[] #[{ accessFlags := 2, nameIndex := 9, descriptorIndex := 19, attributes := #[] }] 33 16 #[] #[{ accessFlags := 24, nameIndex := 28, descriptorIndex := 29, attributes := #[] }, { accessFlags := 26, nameIndex := 38, descriptorIndex := 39, attributes := #[] }, { accessFlags := 25, nameIndex := 121, descriptorIndex := 25, attributes := #[] }, { accessFlags := 25, nameIndex := 131, descriptorIndex := 25, attributes := #[] }, { accessFlags := 25, nameIndex := 137, descriptorIndex := 25, attributes := #[] }, { accessFlags := 25, nameIndex := 143, descriptorIndex := 25, attributes := #[] }, { accessFlags := 25, nameIndex := 53, descriptorIndex := 25, attributes := #[] }, { accessFlags := 25, nameIndex := 24, descriptorIndex := 25, attributes := #[] }, { accessFlags := 25, nameIndex := 162, descriptorIndex := 25, attributes := #[] }, { accessFlags := 25, nameIndex := 187, descriptorIndex := 25, attributes := #[] }, { accessFlags := 26, nameIndex := 48, descriptorIndex := 25, attributes := #[] }, { accessFlags := 25, nameIndex := 277, descriptorIndex := 25, attributes := #[] }, { accessFlags := 25, nameIndex := 280, descriptorIndex := 25, attributes := #[] }, { accessFlags := 25, nameIndex := 282, descriptorIndex := 25, attributes := #[] }, { accessFlags := 25, nameIndex := 284, descriptorIndex := 25, attributes := #[] }, { accessFlags := 25, nameIndex := 286, descriptorIndex := 25, attributes := #[] }, { accessFlags := 25, nameIndex := 288, descriptorIndex := 25, attributes := #[] }, { accessFlags := 25, nameIndex := 290, descriptorIndex := 25, attributes := #[] }, { accessFlags := 25, nameIndex := 292, descriptorIndex := 25, attributes := #[] }, { accessFlags := 26, nameIndex := 108, descriptorIndex := 109, attributes := #[] }, { accessFlags := 25, nameIndex := 294, descriptorIndex := 25, attributes := #[] }])
  fields := #[{ name := "U", type := (.object "jdk/internal/misc/Unsafe"), accessFlags := 24, slot := 0, constantValue := 0 }, { name := "BIG_ENDIAN", type := .boolean, accessFlags := 26, slot := 1, constantValue := 0 }, { name := "LOG2_ARRAY_BOOLEAN_INDEX_SCALE", type := .int, accessFlags := 25, slot := 2, constantValue := 0 }, { name := "LOG2_ARRAY_BYTE_INDEX_SCALE", type := .int, accessFlags := 25, slot := 3, constantValue := 0 }, { name := "LOG2_ARRAY_CHAR_INDEX_SCALE", type := .int, accessFlags := 25, slot := 4, constantValue := 0 }, { name := "LOG2_ARRAY_SHORT_INDEX_SCALE", type := .int, accessFlags := 25, slot := 5, constantValue := 0 }, { name := "LOG2_ARRAY_INT_INDEX_SCALE", type := .int, accessFlags := 25, slot := 6, constantValue := 0 }, { name := "LOG2_ARRAY_LONG_INDEX_SCALE", type := .int, accessFlags := 25, slot := 7, constantValue := 0 }, { name := "LOG2_ARRAY_FLOAT_INDEX_SCALE", type := .int, accessFlags := 25, slot := 8, constantValue := 0 }, { name := "LOG2_ARRAY_DOUBLE_INDEX_SCALE", type := .int, accessFlags := 25, slot := 9, constantValue := 0 }, { name := "LOG2_BYTE_BIT_SIZE", type := .int, accessFlags := 26, slot := 10, constantValue := 0 }, { name := "T_BOOLEAN", type := .int, accessFlags := 25, slot := 11, constantValue := 0 }, { name := "T_CHAR", type := .int, accessFlags := 25, slot := 12, constantValue := 0 }, { name := "T_FLOAT", type := .int, accessFlags := 25, slot := 13, constantValue := 0 }, { name := "T_DOUBLE", type := .int, accessFlags := 25, slot := 14, constantValue := 0 }, { name := "T_BYTE", type := .int, accessFlags := 25, slot := 15, constantValue := 0 }, { name := "T_SHORT", type := .int, accessFlags := 25, slot := 16, constantValue := 0 }, { name := "T_INT", type := .int, accessFlags := 25, slot := 17, constantValue := 0 }, { name := "T_LONG", type := .int, accessFlags := 25, slot := 18, constantValue := 0 }, { name := "JLA", type := (.object "jdk/internal/access/JavaLangAccess"), accessFlags := 26, slot := 19, constantValue := 0 }, { name := "SOFT_MAX_ARRAY_LENGTH", type := .int, accessFlags := 25, slot := 20, constantValue := 0 }]
  methods := #[k12m0]
  instanceTypes := #[]
  staticTypes := #[(.object "jdk/internal/misc/Unsafe"), .boolean, .int, .int, .int, .int, .int, .int, .int, .int, .int, .int, .int, .int, .int, .int, .int, .int, .int, (.object "jdk/internal/access/JavaLangAccess"), .int]
  resolved := Array.replicate 378 none
  statics := none }

def pool13 : Array CpInfo := pool [(1, u "java/lang/Cloneable"), (0, .class_ 1), (0, u "java/lang/Object"), (0, .class_ 3)] 3

/-- java/lang/Cloneable -/
def k13 : Class := { plain "java/lang/Cloneable" (some 0) with
  accessFlags := 1537
  interfaces := #[]
  cf := some (fileOf pool13 2 #[] #[] 1537 4 #[] #[])
  fields := #[]
  methods := #[]
  instanceTypes := #[]
  staticTypes := #[]
  resolved := Array.replicate 8 none
  statics := none }

/-- the primitive byte -/
def k14 : Class := { plain "byte" none with kind := .primitive 'B', accessFlags := 0x411 }
/-- [B -/
def k15 : Class := { plain "[B" (some 0) with kind := .array 14 .byte, interfaces := #[13, 2], accessFlags := 1041 }

/-- the primitive char -/
def k16 : Class := { plain "char" none with kind := .primitive 'C', accessFlags := 0x411 }
/-- [C -/
def k17 : Class := { plain "[C" (some 0) with kind := .array 16 .char, interfaces := #[13, 2], accessFlags := 1041 }

/-- the primitive int -/
def k18 : Class := { plain "int" none with kind := .primitive 'I', accessFlags := 0x411 }
/-- [I -/
def k19 : Class := { plain "[I" (some 0) with kind := .array 18 .int, interfaces := #[13, 2], accessFlags := 1041 }

def heap : Heap := #[{ cls := 7, slots := #[.long 0, .int 1, .null, .int 0, .null, .int 0, .int 0], vm := .statics 7 },
  { cls := 11, slots := #[.null, .null, .null], vm := .statics 11 }]
def classes : Array Class := #[k0, k1, k2, k3, k4, k5, k6, k7, k8, k9, k10, k11, k12, k13, k14, k15, k16, k17, k18, k19]
def interned : List (Array UInt16 × Addr) := []
def slotsUsed : Nat := 10
def theMethod : MethodId := ⟨1, 1⟩
def args0 : Array Value := #[.int 2, .int 65, .int 66, .int 67, .int 4]
def aboutOver (below : List Frame) : State where
  vm := { classes := classes, interned := interned.toArray }
  heap := heap
  slotsUsed := slotsUsed
  threads := #[{ frames := .invoking theMethod args0 :: below }]
def below0 : List Frame := [.native { method := ⟨0, 0⟩, args := #[] }]
def about1 : State := aboutOver below0
def p0 : Program := .bare "" "" ""
def e0 : Env := launch0.env 0 0 0
theorem w_frames : about1.frames = Frame.invoking theMethod args0 :: below0 := rfl
set_option maxRecDepth 65536 in
theorem w_args : argsFit about1.vm theMethod args0 = true := by decide +kernel
set_option maxRecDepth 65536 in
theorem w_heap : heapFits about1 = true := by decide +kernel
set_option maxRecDepth 65536 in
theorem w_runnable : about1.curStatus? = some .runnable := by decide +kernel
set_option maxRecDepth 65536 in
theorem w_alone : about1.alone = true := by decide +kernel
set_option maxRecDepth 65536 in
theorem w_named : about1.methodNamed? x = some theMethod := by decide +kernel
set_option maxRecDepth 65536 in
theorem w_hears : about1.hears theMethod below0 = true := by decide +kernel
set_option maxRecDepth 65536 in
theorem w_ripe : about1.ripe theMethod args0 below0 = true := by decide +kernel
theorem w_running : about1.status = .running := rfl
set_option maxRecDepth 65536 in
theorem w_room : about1.hasRoom e0.platform room_1 = true :=
  launch0.hasRoom_least _ room_1 (by decide +kernel) (by decide +kernel) (by decide +kernel) (by decide +kernel) (by decide +kernel) (by decide +kernel)
theorem allAtoms_all (ts : List Jvm.Cond) (a : Array Jvm.Value) (st : Jvm.State) : (allAtoms ts).before a st = ts.all (fun c => c.before a st) := by
  induction ts with
  | nil => rfl
  | cons c t ih =>
    show (Jvm.Cond.and c (allAtoms t)).before a st = _
    rw [Jvm.Cond.before_and, ih, List.all_cons]
def words1 : List Jvm.Cond := Jvm.Cond.code x code maxLocals ret :: tables_1
/-- a 'code' word, met by the world's own term for the bytes: nothing is compared byte by byte -/
theorem code_word {y : MethodName} {bytes : ByteArray} {mx : Nat} {rt : Option FieldType} {a : Array Value} {s : State} {m : MethodId} {meth : Method} {c : Code} (h1 : s.methodNamed? y = some m) (h2 : s.vm.method? m = some meth) (h3 : meth.code = some c) (h4 : c.code = bytes)
    (h5 : (c.maxLocals == mx && c.exceptionTable.isEmpty && decide (c.maxStack ≤ mostOperands) && decide (meth.sig.returnType = rt) && !meth.locks && decide (parseMethodDescriptor y.desc = some meth.sig)) = true) : (Jvm.Cond.code y bytes mx rt).before a s = true := by
  simp only [Bool.and_eq_true, beq_iff_eq, Bool.not_eq_true', decide_eq_true_eq] at h5
  obtain ⟨⟨⟨⟨⟨g1, g2⟩, g3⟩, g4⟩, g5⟩, g6⟩ := h5
  simp [Cond.before, Cond.holds, Cond.value, h1, h2, h3, h4, g1, g2, g3, g4, g5, g6]
def isCode : Jvm.Cond → Bool
  | .code _ _ _ _ => true
  | _ => false
theorem all_split {L : List Jvm.Cond} {P : Jvm.Cond → Bool} (h1 : L.all (fun c => isCode c || P c) = true) (h2 : ∀ c ∈ L.filter isCode, P c = true) : L.all P = true := by
  refine List.all_eq_true.mpr fun c hc => ?_
  have h := List.all_eq_true.mp h1 c hc
  rcases Bool.eq_false_or_eq_true (isCode c) with hi | hi
  · exact h2 c (List.mem_filter.mpr ⟨hc, hi⟩)
  · simpa [hi] using h
set_option maxRecDepth 65536 in
theorem w_c0 : (Jvm.Cond.code x code maxLocals ret).before args0 about1 = true := code_word (m := ⟨1, 1⟩) (meth := k1m1) (c := k1c1) (by decide +kernel) rfl rfl rfl (by decide +kernel)
set_option maxRecDepth 65536 in
theorem w_c1 : (Jvm.Cond.code ({ cls := "com/example/grapple/grapple/internal/LimitsCheckKeyPrefixPinLaw", name := "allowed", desc := "(I)C" } : Jvm.MethodName) method_3_code (2 : Nat) (Option.some Jvm.ClassFile.FieldType.char)).before args0 about1 = true := code_word (m := ⟨1, 2⟩) (meth := k1m2) (c := k1c2) (by decide +kernel) rfl rfl rfl (by decide +kernel)
set_option maxRecDepth 65536 in
theorem w_c2 : (Jvm.Cond.code ({ cls := "java/lang/String", name := "<init>", desc := "([C)V" } : Jvm.MethodName) jdk_42_method_3_code (2 : Nat) (Option.none : Option Jvm.ClassFile.FieldType)).before args0 about1 = true := code_word (m := ⟨7, 1⟩) (meth := k7m1) (c := k7c1) (by decide +kernel) rfl rfl rfl (by decide +kernel)
set_option maxRecDepth 65536 in
theorem w_c3 : (Jvm.Cond.code ({ cls := "java/lang/String", name := "<init>", desc := "([CIILjava/lang/Void;)V" } : Jvm.MethodName) jdk_42_method_149_code (6 : Nat) (Option.none : Option Jvm.ClassFile.FieldType)).before args0 about1 = true := code_word (m := ⟨7, 5⟩) (meth := k7m5) (c := k7c5) (by decide +kernel) rfl rfl rfl (by decide +kernel)
set_option maxRecDepth 65536 in
theorem w_c4 : (Jvm.Cond.code ({ cls := "java/lang/Object", name := "<init>", desc := "()V" } : Jvm.MethodName) object_method_1_code (1 : Nat) (Option.none : Option Jvm.ClassFile.FieldType)).before args0 about1 = true := code_word (m := ⟨0, 0⟩) (meth := k0m0) (c := k0c0) (by decide +kernel) rfl rfl rfl (by decide +kernel)
set_option maxRecDepth 65536 in
theorem w_c5 : (Jvm.Cond.code ({ cls := "java/lang/StringUTF16", name := "compress", desc := "([CII)[B" } : Jvm.MethodName) jdk_52_method_16_code (6 : Nat) (Option.some (Jvm.ClassFile.FieldType.array Jvm.ClassFile.FieldType.byte))).before args0 about1 = true := code_word (m := ⟨8, 2⟩) (meth := k8m2) (c := k8c2) (by decide +kernel) rfl rfl rfl (by decide +kernel)
set_option maxRecDepth 65536 in
theorem w_c6 : (Jvm.Cond.code ({ cls := "java/lang/StringUTF16", name := "compress", desc := "([CI[BII)I" } : Jvm.MethodName) jdk_52_method_21_code (7 : Nat) (Option.some Jvm.ClassFile.FieldType.int)).before args0 about1 = true := code_word (m := ⟨8, 3⟩) (meth := k8m3) (c := k8c3) (by decide +kernel) rfl rfl rfl (by decide +kernel)
set_option maxRecDepth 65536 in
theorem w_c7 : (Jvm.Cond.code ({ cls := "java/lang/StringUTF16", name := "coderFromArrayLen", desc := "([BI)B" } : Jvm.MethodName) jdk_52_method_15_code (2 : Nat) (Option.some Jvm.ClassFile.FieldType.byte)).before args0 about1 = true := code_word (m := ⟨8, 1⟩) (meth := k8m1) (c := k8c1) (by decide +kernel) rfl rfl rfl (by decide +kernel)
set_option maxRecDepth 65536 in
theorem w_c8 : (Jvm.Cond.code ({ cls := "com/example/grapple/grapple/internal/Limits", name := "checkKeyPrefix", desc := "(Ljava/lang/String;)Ljava/lang/String;" } : Jvm.MethodName) prog_3_method_4_code (3 : Nat) (Option.some (Jvm.ClassFile.FieldType.object "java/lang/String"))).before args0 about1 = true := code_word (m := ⟨9, 1⟩) (meth := k9m1) (c := k9c1) (by decide +kernel) rfl rfl rfl (by decide +kernel)
set_option maxRecDepth 65536 in
theorem w_c9 : (Jvm.Cond.code ({ cls := "java/lang/String", name := "length", desc := "()I" } : Jvm.MethodName) jdk_42_method_54_code (1 : Nat) (Option.some Jvm.ClassFile.FieldType.int)).before args0 about1 = true := code_word (m := ⟨7, 2⟩) (meth := k7m2) (c := k7c2) (by decide +kernel) rfl rfl rfl (by decide +kernel)
set_option maxRecDepth 65536 in
theorem w_c10 : (Jvm.Cond.code ({ cls := "java/lang/String", name := "coder", desc := "()B" } : Jvm.MethodName) jdk_42_method_152_code (1 : Nat) (Option.some Jvm.ClassFile.FieldType.byte)).before args0 about1 = true := code_word (m := ⟨7, 6⟩) (meth := k7m6) (c := k7c6) (by decide +kernel) rfl rfl rfl (by decide +kernel)
set_option maxRecDepth 65536 in
theorem w_c11 : (Jvm.Cond.code ({ cls := "java/lang/String", name := "charAt", desc := "(I)C" } : Jvm.MethodName) jdk_42_method_56_code (2 : Nat) (Option.some Jvm.ClassFile.FieldType.char)).before args0 about1 = true := code_word (m := ⟨7, 4⟩) (meth := k7m4) (c := k7c4) (by decide +kernel) rfl rfl rfl (by decide +kernel)
set_option maxRecDepth 65536 in
theorem w_c12 : (Jvm.Cond.code ({ cls := "java/lang/String", name := "isLatin1", desc := "()Z" } : Jvm.MethodName) jdk_42_method_154_code (1 : Nat) (Option.some Jvm.ClassFile.FieldType.boolean)).before args0 about1 = true := code_word (m := ⟨7, 7⟩) (meth := k7m7) (c := k7c7) (by decide +kernel) rfl rfl rfl (by decide +kernel)
set_option maxRecDepth 65536 in
theorem w_c13 : (Jvm.Cond.code ({ cls := "java/lang/StringLatin1", name := "charAt", desc := "([BI)C" } : Jvm.MethodName) jdk_43_method_2_code (2 : Nat) (Option.some Jvm.ClassFile.FieldType.char)).before args0 about1 = true := code_word (m := ⟨10, 1⟩) (meth := k10m1) (c := k10c1) (by decide +kernel) rfl rfl rfl (by decide +kernel)
set_option maxRecDepth 65536 in
theorem w_c14 : (Jvm.Cond.code ({ cls := "java/lang/String", name := "checkIndex", desc := "(II)V" } : Jvm.MethodName) jdk_42_method_155_code (2 : Nat) (Option.none : Option Jvm.ClassFile.FieldType)).before args0 about1 = true := code_word (m := ⟨7, 8⟩) (meth := k7m8) (c := k7c8) (by decide +kernel) rfl rfl rfl (by decide +kernel)
set_option maxRecDepth 65536 in
theorem w_c15 : (Jvm.Cond.code ({ cls := "jdk/internal/util/Preconditions", name := "checkIndex", desc := "(IILjava/util/function/BiFunction;)I" } : Jvm.MethodName) jdk_41_method_11_code (3 : Nat) (Option.some Jvm.ClassFile.FieldType.int)).before args0 about1 = true := code_word (m := ⟨11, 1⟩) (meth := k11m1) (c := k11c1) (by decide +kernel) rfl rfl rfl (by decide +kernel)
set_option maxRecDepth 65536 in
theorem w_c16 : (Jvm.Cond.code ({ cls := "com/example/grapple/grapple/internal/Limits", name := "isKeyPrefixCharacter", desc := "(C)Z" } : Jvm.MethodName) prog_3_method_7_code (1 : Nat) (Option.some Jvm.ClassFile.FieldType.boolean)).before args0 about1 = true := code_word (m := ⟨9, 2⟩) (meth := k9m2) (c := k9c2) (by decide +kernel) rfl rfl rfl (by decide +kernel)
set_option maxRecDepth 65536 in
theorem w_c17 : (Jvm.Cond.code ({ cls := "java/lang/String", name := "isEmpty", desc := "()Z" } : Jvm.MethodName) jdk_42_method_55_code (1 : Nat) (Option.some Jvm.ClassFile.FieldType.boolean)).before args0 about1 = true := code_word (m := ⟨7, 3⟩) (meth := k7m3) (c := k7c3) (by decide +kernel) rfl rfl rfl (by decide +kernel)
set_option maxRecDepth 65536 in
theorem w_c18 : (Jvm.Cond.code ({ cls := "com/example/grapple/grapple/internal/LimitsCheckKeyPrefixPinLaw", name := "fifty", desc := "(CCCC)[C" } : Jvm.MethodName) method_4_code (4 : Nat) (Option.some (Jvm.ClassFile.FieldType.array Jvm.ClassFile.FieldType.char))).before args0 about1 = true := code_word (m := ⟨1, 3⟩) (meth := k1m3) (c := k1c3) (by decide +kernel) rfl rfl rfl (by decide +kernel)
def codes1 : List Jvm.Cond := [Jvm.Cond.code x code maxLocals ret, Jvm.Cond.code ({ cls := "com/example/grapple/grapple/internal/LimitsCheckKeyPrefixPinLaw", name := "allowed", desc := "(I)C" } : Jvm.MethodName) method_3_code (2 : Nat) (Option.some Jvm.ClassFile.FieldType.char), Jvm.Cond.code ({ cls := "java/lang/String", name := "<init>", desc := "([C)V" } : Jvm.MethodName) jdk_42_method_3_code (2 : Nat) (Option.none : Option Jvm.ClassFile.FieldType), Jvm.Cond.code ({ cls := "java/lang/String", name := "<init>", desc := "([CIILjava/lang/Void;)V" } : Jvm.MethodName) jdk_42_method_149_code (6 : Nat) (Option.none : Option Jvm.ClassFile.FieldType), Jvm.Cond.code ({ cls := "java/lang/Object", name := "<init>", desc := "()V" } : Jvm.MethodName) object_method_1_code (1 : Nat) (Option.none : Option Jvm.ClassFile.FieldType), Jvm.Cond.code ({ cls := "java/lang/StringUTF16", name := "compress", desc := "([CII)[B" } : Jvm.MethodName) jdk_52_method_16_code (6 : Nat) (Option.some (Jvm.ClassFile.FieldType.array Jvm.ClassFile.FieldType.byte)), Jvm.Cond.code ({ cls := "java/lang/StringUTF16", name := "compress", desc := "([CI[BII)I" } : Jvm.MethodName) jdk_52_method_21_code (7 : Nat) (Option.some Jvm.ClassFile.FieldType.int), Jvm.Cond.code ({ cls := "java/lang/StringUTF16", name := "coderFromArrayLen", desc := "([BI)B" } : Jvm.MethodName) jdk_52_method_15_code (2 : Nat) (Option.some Jvm.ClassFile.FieldType.byte), Jvm.Cond.code ({ cls := "com/example/grapple/grapple/internal/Limits", name := "checkKeyPrefix", desc := "(Ljava/lang/String;)Ljava/lang/String;" } : Jvm.MethodName) prog_3_method_4_code (3 : Nat) (Option.some (Jvm.ClassFile.FieldType.object "java/lang/String")), Jvm.Cond.code ({ cls := "java/lang/String", name := "length", desc := "()I" } : Jvm.MethodName) jdk_42_method_54_code (1 : Nat) (Option.some Jvm.ClassFile.FieldType.int), Jvm.Cond.code ({ cls := "java/lang/String", name := "coder", desc := "()B" } : Jvm.MethodName) jdk_42_method_152_code (1 : Nat) (Option.some Jvm.ClassFile.FieldType.byte), Jvm.Cond.code ({ cls := "java/lang/String", name := "charAt", desc := "(I)C" } : Jvm.MethodName) jdk_42_method_56_code (2 : Nat) (Option.some Jvm.ClassFile.FieldType.char), Jvm.Cond.code ({ cls := "java/lang/String", name := "isLatin1", desc := "()Z" } : Jvm.MethodName) jdk_42_method_154_code (1 : Nat) (Option.some Jvm.ClassFile.FieldType.boolean), Jvm.Cond.code ({ cls := "java/lang/StringLatin1", name := "charAt", desc := "([BI)C" } : Jvm.MethodName) jdk_43_method_2_code (2 : Nat) (Option.some Jvm.ClassFile.FieldType.char), Jvm.Cond.code ({ cls := "java/lang/String", name := "checkIndex", desc := "(II)V" } : Jvm.MethodName) jdk_42_method_155_code (2 : Nat) (Option.none : Option Jvm.ClassFile.FieldType), Jvm.Cond.code ({ cls := "jdk/internal/util/Preconditions", name := "checkIndex", desc := "(IILjava/util/function/BiFunction;)I" } : Jvm.MethodName) jdk_41_method_11_code (3 : Nat) (Option.some Jvm.ClassFile.FieldType.int), Jvm.Cond.code ({ cls := "com/example/grapple/grapple/internal/Limits", name := "isKeyPrefixCharacter", desc := "(C)Z" } : Jvm.MethodName) prog_3_method_7_code (1 : Nat) (Option.some Jvm.ClassFile.FieldType.boolean), Jvm.Cond.code ({ cls := "java/lang/String", name := "isEmpty", desc := "()Z" } : Jvm.MethodName) jdk_42_method_55_code (1 : Nat) (Option.some Jvm.ClassFile.FieldType.boolean), Jvm.Cond.code ({ cls := "com/example/grapple/grapple/internal/LimitsCheckKeyPrefixPinLaw", name := "fifty", desc := "(CCCC)[C" } : Jvm.MethodName) method_4_code (4 : Nat) (Option.some (Jvm.ClassFile.FieldType.array Jvm.ClassFile.FieldType.char))]
set_option maxRecDepth 65536 in
theorem codes_eq : words1.filter isCode = codes1 := rfl
theorem w_codes : ∀ c ∈ words1.filter isCode, c.before args0 about1 = true := by
  rw [codes_eq]
  intro c hc
  simp only [codes1, List.mem_cons, List.not_mem_nil, or_false] at hc
  rcases hc with rfl | rfl | rfl | rfl | rfl | rfl | rfl | rfl | rfl | rfl | rfl | rfl | rfl | rfl | rfl | rfl | rfl | rfl | rfl
  · exact w_c0
  · exact w_c1
  · exact w_c2
  · exact w_c3
  · exact w_c4
  · exact w_c5
  · exact w_c6
  · exact w_c7
  · exact w_c8
  · exact w_c9
  · exact w_c10
  · exact w_c11
  · exact w_c12
  · exact w_c13
  · exact w_c14
  · exact w_c15
  · exact w_c16
  · exact w_c17
  · exact w_c18
set_option maxRecDepth 65536 in
theorem w_t1 : (words1.take 24).all (fun c => isCode c || c.before args0 about1) = true := by decide +kernel
set_option maxRecDepth 65536 in
theorem w_t2 : ((words1.drop 24).take 24).all (fun c => isCode c || c.before args0 about1) = true := by decide +kernel
set_option maxRecDepth 65536 in
theorem w_t3 : (((words1.drop 24).drop 24).take 24).all (fun c => isCode c || c.before args0 about1) = true := by decide +kernel
set_option maxRecDepth 65536 in
theorem w_t4 : (((words1.drop 24).drop 24).drop 24).all (fun c => isCode c || c.before args0 about1) = true := by decide +kernel
theorem w_tables : (allAtoms (Jvm.Cond.code x code maxLocals ret :: tables_1)).before args0 about1 = true := by
  rw [allAtoms_all]
  show words1.all (fun c => c.before args0 about1) = true
  refine all_split ?_ w_codes
  rw [← List.take_append_drop 24 words1, List.all_append, w_t1, ← List.take_append_drop 24 (words1.drop 24), List.all_append, w_t2, ← List.take_append_drop 24 ((words1.drop 24).drop 24), List.all_append, w_t3, w_t4]
  rfl
set_option maxRecDepth 65536 in
theorem w_rest : rest_1_c.before args0 about1 = true := by decide +kernel
set_option maxRecDepth 65536 in
theorem w_case : (Jvm.Cond.and given_1 narrow_1).before args0 about1 = true := by decide +kernel
theorem w_applies : (headSpec (Jvm.Cond.code x code maxLocals ret :: tables_1) room_1).applies x e0.platform about1 = true :=
  (Spec.applies_iff w_frames).mpr ⟨w_running, w_runnable, w_alone, w_named, w_hears, w_ripe, w_room, w_tables⟩
theorem atStart : AtStart classFile x code maxLocals ret World_1 tables_1 room_1 Calls_1 rest_1 Pre_1 launch0 p0 e0 about1 theMethod args0 below0 :=
  ⟨lists_1, trivial, launch0.admits_env _ _ _, launch0.least_env, fairChoices_fair.cas, fairChoices_fair.clock, w_frames, w_args, w_heap, w_applies, trivial, w_rest, w_case⟩
end start1
theorem witness_1 : WitnessClaimed_1 := ⟨start1.p0, start1.e0, start1.about1, start1.theMethod, start1.args0, start1.below0, start1.atStart⟩
end Jvm.Pilot.@@N@@
