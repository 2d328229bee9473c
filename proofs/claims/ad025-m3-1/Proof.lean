import JvmDerived
import JvmDerived.Pilot.@@N@@Statement
import JvmDerived.Pilot.@@N@@Code
set_option linter.unusedVariables false
set_option linter.unusedSimpArgs false
namespace Jvm.Pilot.@@N@@
open Jvm Jvm.ClassFile Sem Op Lib Jvm.Free Jvm.Stand Jvm.LawKit Jvm.RoadKit Bundle Jvm.Pilot.@@N@@.Jvm.D
section OwnBase
def Gets (tb : Tables) (e : Env) (below : List Frame) (P : Outcome → State → Prop) (T : State) (g : JFrame) : Prop := ∃ t o, Steps tb e below (T.setTop g) t ∧ t.status = .running ∧ Ended t below o ∧ P o t
theorem Gets.by {tb : Tables} {e : Env} {below : List Frame} {P : Outcome → State → Prop} {T T' : State} {g g' : JFrame} (h : Gets tb e below P T' g') (k : ∀ t, Steps tb e below (T'.setTop g') t → Steps tb e below (T.setTop g) t) : Gets tb e below P T g := by
  obtain ⟨t, o, h1, h2⟩ := h
  exact ⟨t, o, k t h1, h2⟩
theorem g_iloadN {tb : Tables} [Ours tb] {e : Env} {below : List Frame} {T : State} {m : MethodId} {c : Code} {P : Outcome → State → Prop} {pc pc' : Nat} {Ls : Array Slot} {st : List Value} {j : Fin 4} {v : Int32} (H : At T m c below) (hx : tb.exec = Jvm.exec) (hd : decode c.code pc = .ok (.iload_n j, 1)) (hl : Ls[j.val]? = some (.val (.int v))) (hp : pc + 1 = pc')
    (k : Gets tb e below P T (mkF m pc' Ls (.int v :: st))) : Gets tb e below P T (mkF m pc Ls (st)) := by
  subst hp; refine k.by fun t qq => ?_; exact XS.iloadN H hx rfl hd hl qq
theorem g_iload {tb : Tables} [Ours tb] {e : Env} {below : List Frame} {T : State} {m : MethodId} {c : Code} {P : Outcome → State → Prop} {pc pc' : Nat} {Ls : Array Slot} {st : List Value} {j : Nat} {v : Int32} (H : At T m c below) (hx : tb.exec = Jvm.exec) (hd : decode c.code pc = .ok (.iload j, 2)) (hl : Ls[j]? = some (.val (.int v))) (hp : pc + 2 = pc')
    (k : Gets tb e below P T (mkF m pc' Ls (.int v :: st))) : Gets tb e below P T (mkF m pc Ls (st)) := by
  subst hp; refine k.by fun t qq => ?_; exact XS.iload H hx rfl hd hl qq
theorem g_istoreN {tb : Tables} [Ours tb] {e : Env} {below : List Frame} {T : State} {m : MethodId} {c : Code} {P : Outcome → State → Prop} {pc pc' : Nat} {Ls : Array Slot} {st : List Value} {j : Fin 4} {v : Int32} {Ls' : Array Slot} (H : At T m c below) (hx : tb.exec = Jvm.exec) (hd : decode c.code pc = .ok (.istore_n j, 1)) (hl : storeLocals Ls j.val (.int v) = some Ls') (hp : pc + 1 = pc')
    (k : Gets tb e below P T (mkF m pc' Ls' (st))) : Gets tb e below P T (mkF m pc Ls (.int v :: st)) := by
  subst hp; refine k.by fun t qq => ?_; exact XS.istoreN H hx rfl hd rfl hl qq
theorem g_istore {tb : Tables} [Ours tb] {e : Env} {below : List Frame} {T : State} {m : MethodId} {c : Code} {P : Outcome → State → Prop} {pc pc' : Nat} {Ls : Array Slot} {st : List Value} {j : Nat} {v : Int32} {Ls' : Array Slot} (H : At T m c below) (hx : tb.exec = Jvm.exec) (hd : decode c.code pc = .ok (.istore j, 2)) (hl : storeLocals Ls j (.int v) = some Ls') (hp : pc + 2 = pc')
    (k : Gets tb e below P T (mkF m pc' Ls' (st))) : Gets tb e below P T (mkF m pc Ls (.int v :: st)) := by
  subst hp; refine k.by fun t qq => ?_; exact XS.istore H hx rfl hd rfl hl qq
theorem g_lloadN {tb : Tables} [Ours tb] {e : Env} {below : List Frame} {T : State} {m : MethodId} {c : Code} {P : Outcome → State → Prop} {pc pc' : Nat} {Ls : Array Slot} {st : List Value} {j : Fin 4} {v : Int64} (H : At T m c below) (hx : tb.exec = Jvm.exec) (hd : decode c.code pc = .ok (.lload_n j, 1)) (hl : Ls[j.val]? = some (.val (.long v))) (hp : pc + 1 = pc')
    (k : Gets tb e below P T (mkF m pc' Ls (.long v :: st))) : Gets tb e below P T (mkF m pc Ls (st)) := by
  subst hp; refine k.by fun t qq => ?_; exact XS.lloadN H hx rfl hd hl qq
theorem g_lload {tb : Tables} [Ours tb] {e : Env} {below : List Frame} {T : State} {m : MethodId} {c : Code} {P : Outcome → State → Prop} {pc pc' : Nat} {Ls : Array Slot} {st : List Value} {j : Nat} {v : Int64} (H : At T m c below) (hx : tb.exec = Jvm.exec) (hd : decode c.code pc = .ok (.lload j, 2)) (hl : Ls[j]? = some (.val (.long v))) (hp : pc + 2 = pc')
    (k : Gets tb e below P T (mkF m pc' Ls (.long v :: st))) : Gets tb e below P T (mkF m pc Ls (st)) := by
  subst hp; refine k.by fun t qq => ?_; exact XS.lload H hx rfl hd hl qq
theorem g_lstoreN {tb : Tables} [Ours tb] {e : Env} {below : List Frame} {T : State} {m : MethodId} {c : Code} {P : Outcome → State → Prop} {pc pc' : Nat} {Ls : Array Slot} {st : List Value} {j : Fin 4} {v : Int64} {Ls' : Array Slot} (H : At T m c below) (hx : tb.exec = Jvm.exec) (hd : decode c.code pc = .ok (.lstore_n j, 1)) (hl : storeLocals Ls j.val (.long v) = some Ls') (hp : pc + 1 = pc')
    (k : Gets tb e below P T (mkF m pc' Ls' (st))) : Gets tb e below P T (mkF m pc Ls (.long v :: st)) := by
  subst hp; refine k.by fun t qq => ?_; exact XS.lstoreN H hx rfl hd rfl hl qq
theorem g_lstore {tb : Tables} [Ours tb] {e : Env} {below : List Frame} {T : State} {m : MethodId} {c : Code} {P : Outcome → State → Prop} {pc pc' : Nat} {Ls : Array Slot} {st : List Value} {j : Nat} {v : Int64} {Ls' : Array Slot} (H : At T m c below) (hx : tb.exec = Jvm.exec) (hd : decode c.code pc = .ok (.lstore j, 2)) (hl : storeLocals Ls j (.long v) = some Ls') (hp : pc + 2 = pc')
    (k : Gets tb e below P T (mkF m pc' Ls' (st))) : Gets tb e below P T (mkF m pc Ls (.long v :: st)) := by
  subst hp; refine k.by fun t qq => ?_; exact XS.lstore H hx rfl hd rfl hl qq
theorem g_aloadN {tb : Tables} [Ours tb] {e : Env} {below : List Frame} {T : State} {m : MethodId} {c : Code} {P : Outcome → State → Prop} {pc pc' : Nat} {Ls : Array Slot} {st : List Value} {j : Fin 4} {v : Value} (H : At T m c below) (hx : tb.exec = Jvm.exec) (hd : decode c.code pc = .ok (.aload_n j, 1)) (hl : Ls[j.val]? = some (.val v)) (hv : v.isRef = true) (hp : pc + 1 = pc')
    (k : Gets tb e below P T (mkF m pc' Ls (v :: st))) : Gets tb e below P T (mkF m pc Ls (st)) := by
  subst hp; refine k.by fun t qq => ?_; exact XS.aloadN H hx rfl hd hl hv qq
theorem g_aload {tb : Tables} [Ours tb] {e : Env} {below : List Frame} {T : State} {m : MethodId} {c : Code} {P : Outcome → State → Prop} {pc pc' : Nat} {Ls : Array Slot} {st : List Value} {j : Nat} {v : Value} (H : At T m c below) (hx : tb.exec = Jvm.exec) (hd : decode c.code pc = .ok (.aload j, 2)) (hl : Ls[j]? = some (.val v)) (hv : v.isRef = true) (hp : pc + 2 = pc')
    (k : Gets tb e below P T (mkF m pc' Ls (v :: st))) : Gets tb e below P T (mkF m pc Ls (st)) := by
  subst hp; refine k.by fun t qq => ?_; exact XS.aload H hx rfl hd hl hv qq
theorem g_astoreN {tb : Tables} [Ours tb] {e : Env} {below : List Frame} {T : State} {m : MethodId} {c : Code} {P : Outcome → State → Prop} {pc pc' : Nat} {Ls : Array Slot} {st : List Value} {j : Fin 4} {v : Value} {Ls' : Array Slot} (H : At T m c below) (hx : tb.exec = Jvm.exec) (hd : decode c.code pc = .ok (.astore_n j, 1)) (hv : v.isRef = true) (hl : storeLocals Ls j.val v = some Ls') (hp : pc + 1 = pc')
    (k : Gets tb e below P T (mkF m pc' Ls' (st))) : Gets tb e below P T (mkF m pc Ls (v :: st)) := by
  subst hp; refine k.by fun t qq => ?_; exact XS.astoreN H hx rfl hd rfl hv hl qq
theorem g_astore {tb : Tables} [Ours tb] {e : Env} {below : List Frame} {T : State} {m : MethodId} {c : Code} {P : Outcome → State → Prop} {pc pc' : Nat} {Ls : Array Slot} {st : List Value} {j : Nat} {v : Value} {Ls' : Array Slot} (H : At T m c below) (hx : tb.exec = Jvm.exec) (hd : decode c.code pc = .ok (.astore j, 2)) (hv : v.isRef = true) (hl : storeLocals Ls j v = some Ls') (hp : pc + 2 = pc')
    (k : Gets tb e below P T (mkF m pc' Ls' (st))) : Gets tb e below P T (mkF m pc Ls (v :: st)) := by
  subst hp; refine k.by fun t qq => ?_; exact XS.astore H hx rfl hd rfl hv hl qq
theorem g_iconst {tb : Tables} [Ours tb] {e : Env} {below : List Frame} {T : State} {m : MethodId} {c : Code} {P : Outcome → State → Prop} {pc pc' : Nat} {Ls : Array Slot} {st : List Value} {i : Int} (v : Int32) (H : At T m c below) (hx : tb.exec = Jvm.exec) (hd : decode c.code pc = .ok (.iconst i, 1)) (hv : Int32.ofInt i = v) (hp : pc + 1 = pc')
    (k : Gets tb e below P T (mkF m pc' Ls (.int v :: st))) : Gets tb e below P T (mkF m pc Ls st) := by
  subst hp; subst hv; refine k.by fun t qq => ?_; exact XS.iconst H hx rfl hd qq
theorem g_bipush {tb : Tables} [Ours tb] {e : Env} {below : List Frame} {T : State} {m : MethodId} {c : Code} {P : Outcome → State → Prop} {pc pc' : Nat} {Ls : Array Slot} {st : List Value} {i : Int} (v : Int32) (H : At T m c below) (hx : tb.exec = Jvm.exec) (hd : decode c.code pc = .ok (.bipush i, 2)) (hv : (Int8.ofInt i).toInt32 = v) (hp : pc + 2 = pc')
    (k : Gets tb e below P T (mkF m pc' Ls (.int v :: st))) : Gets tb e below P T (mkF m pc Ls st) := by
  subst hp; subst hv; refine k.by fun t qq => ?_; exact XS.bipush H hx rfl hd qq
theorem g_sipush {tb : Tables} [Ours tb] {e : Env} {below : List Frame} {T : State} {m : MethodId} {c : Code} {P : Outcome → State → Prop} {pc pc' : Nat} {Ls : Array Slot} {st : List Value} {i : Int} (v : Int32) (H : At T m c below) (hx : tb.exec = Jvm.exec) (hd : decode c.code pc = .ok (.sipush i, 3)) (hv : (Int16.ofInt i).toInt32 = v) (hp : pc + 3 = pc')
    (k : Gets tb e below P T (mkF m pc' Ls (.int v :: st))) : Gets tb e below P T (mkF m pc Ls st) := by
  subst hp; subst hv; refine k.by fun t qq => ?_; exact XS.sipush H hx rfl hd qq
theorem g_aconstNull {tb : Tables} [Ours tb] {e : Env} {below : List Frame} {T : State} {m : MethodId} {c : Code} {P : Outcome → State → Prop} {pc pc' : Nat} {Ls : Array Slot} {st : List Value}  (H : At T m c below) (hx : tb.exec = Jvm.exec) (hd : decode c.code pc = .ok (.aconst_null, 1))  (hp : pc + 1 = pc')
    (k : Gets tb e below P T (mkF m pc' Ls (.null :: st))) : Gets tb e below P T (mkF m pc Ls (st)) := by
  subst hp; refine k.by fun t qq => ?_; exact XS.aconstNull H hx rfl hd  qq
theorem g_iadd {tb : Tables} [Ours tb] {e : Env} {below : List Frame} {T : State} {m : MethodId} {c : Code} {P : Outcome → State → Prop} {pc pc' : Nat} {Ls : Array Slot} {st : List Value} {x y : Int32} (H : At T m c below) (hx : tb.exec = Jvm.exec) (hd : decode c.code pc = .ok (.iadd, 1))  (hp : pc + 1 = pc')
    (k : Gets tb e below P T (mkF m pc' Ls (.int (x + y) :: st))) : Gets tb e below P T (mkF m pc Ls (.int y :: .int x :: st)) := by
  subst hp; refine k.by fun t qq => ?_; exact XS.iadd H hx rfl hd rfl qq
theorem g_isub {tb : Tables} [Ours tb] {e : Env} {below : List Frame} {T : State} {m : MethodId} {c : Code} {P : Outcome → State → Prop} {pc pc' : Nat} {Ls : Array Slot} {st : List Value} {x y : Int32} (H : At T m c below) (hx : tb.exec = Jvm.exec) (hd : decode c.code pc = .ok (.isub, 1))  (hp : pc + 1 = pc')
    (k : Gets tb e below P T (mkF m pc' Ls (.int (x - y) :: st))) : Gets tb e below P T (mkF m pc Ls (.int y :: .int x :: st)) := by
  subst hp; refine k.by fun t qq => ?_; exact XS.isub H hx rfl hd rfl qq
theorem g_imul {tb : Tables} [Ours tb] {e : Env} {below : List Frame} {T : State} {m : MethodId} {c : Code} {P : Outcome → State → Prop} {pc pc' : Nat} {Ls : Array Slot} {st : List Value} {x y : Int32} (H : At T m c below) (hx : tb.exec = Jvm.exec) (hd : decode c.code pc = .ok (.imul, 1))  (hp : pc + 1 = pc')
    (k : Gets tb e below P T (mkF m pc' Ls (.int (x * y) :: st))) : Gets tb e below P T (mkF m pc Ls (.int y :: .int x :: st)) := by
  subst hp; refine k.by fun t qq => ?_; exact XS.imul H hx rfl hd rfl qq
theorem g_iand {tb : Tables} [Ours tb] {e : Env} {below : List Frame} {T : State} {m : MethodId} {c : Code} {P : Outcome → State → Prop} {pc pc' : Nat} {Ls : Array Slot} {st : List Value} {x y : Int32} (H : At T m c below) (hx : tb.exec = Jvm.exec) (hd : decode c.code pc = .ok (.iand, 1))  (hp : pc + 1 = pc')
    (k : Gets tb e below P T (mkF m pc' Ls (.int (x &&& y) :: st))) : Gets tb e below P T (mkF m pc Ls (.int y :: .int x :: st)) := by
  subst hp; refine k.by fun t qq => ?_; exact XS.iand H hx rfl hd rfl qq
theorem g_ior {tb : Tables} [Ours tb] {e : Env} {below : List Frame} {T : State} {m : MethodId} {c : Code} {P : Outcome → State → Prop} {pc pc' : Nat} {Ls : Array Slot} {st : List Value} {x y : Int32} (H : At T m c below) (hx : tb.exec = Jvm.exec) (hd : decode c.code pc = .ok (.ior, 1))  (hp : pc + 1 = pc')
    (k : Gets tb e below P T (mkF m pc' Ls (.int (x ||| y) :: st))) : Gets tb e below P T (mkF m pc Ls (.int y :: .int x :: st)) := by
  subst hp; refine k.by fun t qq => ?_; exact XS.ior H hx rfl hd rfl qq
theorem g_ixor {tb : Tables} [Ours tb] {e : Env} {below : List Frame} {T : State} {m : MethodId} {c : Code} {P : Outcome → State → Prop} {pc pc' : Nat} {Ls : Array Slot} {st : List Value} {x y : Int32} (H : At T m c below) (hx : tb.exec = Jvm.exec) (hd : decode c.code pc = .ok (.ixor, 1))  (hp : pc + 1 = pc')
    (k : Gets tb e below P T (mkF m pc' Ls (.int (x ^^^ y) :: st))) : Gets tb e below P T (mkF m pc Ls (.int y :: .int x :: st)) := by
  subst hp; refine k.by fun t qq => ?_; exact XS.ixor H hx rfl hd rfl qq
theorem g_ishl {tb : Tables} [Ours tb] {e : Env} {below : List Frame} {T : State} {m : MethodId} {c : Code} {P : Outcome → State → Prop} {pc pc' : Nat} {Ls : Array Slot} {st : List Value} {x y : Int32} (H : At T m c below) (hx : tb.exec = Jvm.exec) (hd : decode c.code pc = .ok (.ishl, 1))  (hp : pc + 1 = pc')
    (k : Gets tb e below P T (mkF m pc' Ls (.int (x <<< (y &&& 31)) :: st))) : Gets tb e below P T (mkF m pc Ls (.int y :: .int x :: st)) := by
  subst hp; refine k.by fun t qq => ?_; exact XS.ishl H hx rfl hd rfl qq
theorem g_ishr {tb : Tables} [Ours tb] {e : Env} {below : List Frame} {T : State} {m : MethodId} {c : Code} {P : Outcome → State → Prop} {pc pc' : Nat} {Ls : Array Slot} {st : List Value} {x y : Int32} (H : At T m c below) (hx : tb.exec = Jvm.exec) (hd : decode c.code pc = .ok (.ishr, 1))  (hp : pc + 1 = pc')
    (k : Gets tb e below P T (mkF m pc' Ls (.int (x >>> (y &&& 31)) :: st))) : Gets tb e below P T (mkF m pc Ls (.int y :: .int x :: st)) := by
  subst hp; refine k.by fun t qq => ?_; exact XS.ishr H hx rfl hd rfl qq
theorem g_iushr {tb : Tables} [Ours tb] {e : Env} {below : List Frame} {T : State} {m : MethodId} {c : Code} {P : Outcome → State → Prop} {pc pc' : Nat} {Ls : Array Slot} {st : List Value} {x y : Int32} (H : At T m c below) (hx : tb.exec = Jvm.exec) (hd : decode c.code pc = .ok (.iushr, 1))  (hp : pc + 1 = pc')
    (k : Gets tb e below P T (mkF m pc' Ls (.int ((x.toUInt32 >>> (y &&& 31).toUInt32).toInt32) :: st))) : Gets tb e below P T (mkF m pc Ls (.int y :: .int x :: st)) := by
  subst hp; refine k.by fun t qq => ?_; exact XS.iushr H hx rfl hd rfl qq
theorem g_ladd {tb : Tables} [Ours tb] {e : Env} {below : List Frame} {T : State} {m : MethodId} {c : Code} {P : Outcome → State → Prop} {pc pc' : Nat} {Ls : Array Slot} {st : List Value} {x y : Int64} (H : At T m c below) (hx : tb.exec = Jvm.exec) (hd : decode c.code pc = .ok (.ladd, 1))  (hp : pc + 1 = pc')
    (k : Gets tb e below P T (mkF m pc' Ls (.long (x + y) :: st))) : Gets tb e below P T (mkF m pc Ls (.long y :: .long x :: st)) := by
  subst hp; refine k.by fun t qq => ?_; exact XS.ladd H hx rfl hd rfl qq
theorem g_lsub {tb : Tables} [Ours tb] {e : Env} {below : List Frame} {T : State} {m : MethodId} {c : Code} {P : Outcome → State → Prop} {pc pc' : Nat} {Ls : Array Slot} {st : List Value} {x y : Int64} (H : At T m c below) (hx : tb.exec = Jvm.exec) (hd : decode c.code pc = .ok (.lsub, 1))  (hp : pc + 1 = pc')
    (k : Gets tb e below P T (mkF m pc' Ls (.long (x - y) :: st))) : Gets tb e below P T (mkF m pc Ls (.long y :: .long x :: st)) := by
  subst hp; refine k.by fun t qq => ?_; exact XS.lsub H hx rfl hd rfl qq
theorem g_lmul {tb : Tables} [Ours tb] {e : Env} {below : List Frame} {T : State} {m : MethodId} {c : Code} {P : Outcome → State → Prop} {pc pc' : Nat} {Ls : Array Slot} {st : List Value} {x y : Int64} (H : At T m c below) (hx : tb.exec = Jvm.exec) (hd : decode c.code pc = .ok (.lmul, 1))  (hp : pc + 1 = pc')
    (k : Gets tb e below P T (mkF m pc' Ls (.long (x * y) :: st))) : Gets tb e below P T (mkF m pc Ls (.long y :: .long x :: st)) := by
  subst hp; refine k.by fun t qq => ?_; exact XS.lmul H hx rfl hd rfl qq
theorem g_land {tb : Tables} [Ours tb] {e : Env} {below : List Frame} {T : State} {m : MethodId} {c : Code} {P : Outcome → State → Prop} {pc pc' : Nat} {Ls : Array Slot} {st : List Value} {x y : Int64} (H : At T m c below) (hx : tb.exec = Jvm.exec) (hd : decode c.code pc = .ok (.land, 1))  (hp : pc + 1 = pc')
    (k : Gets tb e below P T (mkF m pc' Ls (.long (x &&& y) :: st))) : Gets tb e below P T (mkF m pc Ls (.long y :: .long x :: st)) := by
  subst hp; refine k.by fun t qq => ?_; exact XS.land H hx rfl hd rfl qq
theorem g_lor {tb : Tables} [Ours tb] {e : Env} {below : List Frame} {T : State} {m : MethodId} {c : Code} {P : Outcome → State → Prop} {pc pc' : Nat} {Ls : Array Slot} {st : List Value} {x y : Int64} (H : At T m c below) (hx : tb.exec = Jvm.exec) (hd : decode c.code pc = .ok (.lor, 1))  (hp : pc + 1 = pc')
    (k : Gets tb e below P T (mkF m pc' Ls (.long (x ||| y) :: st))) : Gets tb e below P T (mkF m pc Ls (.long y :: .long x :: st)) := by
  subst hp; refine k.by fun t qq => ?_; exact XS.lor H hx rfl hd rfl qq
theorem g_lxor {tb : Tables} [Ours tb] {e : Env} {below : List Frame} {T : State} {m : MethodId} {c : Code} {P : Outcome → State → Prop} {pc pc' : Nat} {Ls : Array Slot} {st : List Value} {x y : Int64} (H : At T m c below) (hx : tb.exec = Jvm.exec) (hd : decode c.code pc = .ok (.lxor, 1))  (hp : pc + 1 = pc')
    (k : Gets tb e below P T (mkF m pc' Ls (.long (x ^^^ y) :: st))) : Gets tb e below P T (mkF m pc Ls (.long y :: .long x :: st)) := by
  subst hp; refine k.by fun t qq => ?_; exact XS.lxor H hx rfl hd rfl qq
theorem g_lshl {tb : Tables} [Ours tb] {e : Env} {below : List Frame} {T : State} {m : MethodId} {c : Code} {P : Outcome → State → Prop} {pc pc' : Nat} {Ls : Array Slot} {st : List Value} {x : Int64} {y : Int32} (H : At T m c below) (hx : tb.exec = Jvm.exec) (hd : decode c.code pc = .ok (.lshl, 1))  (hp : pc + 1 = pc')
    (k : Gets tb e below P T (mkF m pc' Ls (.long (x <<< (y &&& 0x3f).toInt64) :: st))) : Gets tb e below P T (mkF m pc Ls (.int y :: .long x :: st)) := by
  subst hp; refine k.by fun t qq => ?_; exact XS.lshl H hx rfl hd rfl qq
theorem g_lshr {tb : Tables} [Ours tb] {e : Env} {below : List Frame} {T : State} {m : MethodId} {c : Code} {P : Outcome → State → Prop} {pc pc' : Nat} {Ls : Array Slot} {st : List Value} {x : Int64} {y : Int32} (H : At T m c below) (hx : tb.exec = Jvm.exec) (hd : decode c.code pc = .ok (.lshr, 1))  (hp : pc + 1 = pc')
    (k : Gets tb e below P T (mkF m pc' Ls (.long (x >>> (y &&& 0x3f).toInt64) :: st))) : Gets tb e below P T (mkF m pc Ls (.int y :: .long x :: st)) := by
  subst hp; refine k.by fun t qq => ?_; exact XS.lshr H hx rfl hd rfl qq
theorem g_lushr {tb : Tables} [Ours tb] {e : Env} {below : List Frame} {T : State} {m : MethodId} {c : Code} {P : Outcome → State → Prop} {pc pc' : Nat} {Ls : Array Slot} {st : List Value} {x : Int64} {y : Int32} (H : At T m c below) (hx : tb.exec = Jvm.exec) (hd : decode c.code pc = .ok (.lushr, 1))  (hp : pc + 1 = pc')
    (k : Gets tb e below P T (mkF m pc' Ls (.long ((x.toUInt64 >>> (y &&& 0x3f).toInt64.toUInt64).toInt64) :: st))) : Gets tb e below P T (mkF m pc Ls (.int y :: .long x :: st)) := by
  subst hp; refine k.by fun t qq => ?_; exact XS.lushr H hx rfl hd rfl qq
theorem g_lcmp {tb : Tables} [Ours tb] {e : Env} {below : List Frame} {T : State} {m : MethodId} {c : Code} {P : Outcome → State → Prop} {pc pc' : Nat} {Ls : Array Slot} {st : List Value} {x y : Int64} (H : At T m c below) (hx : tb.exec = Jvm.exec) (hd : decode c.code pc = .ok (.lcmp, 1))  (hp : pc + 1 = pc')
    (k : Gets tb e below P T (mkF m pc' Ls (.int (lcmpW x y) :: st))) : Gets tb e below P T (mkF m pc Ls (.long y :: .long x :: st)) := by
  subst hp; refine k.by fun t qq => ?_; exact XS.lcmp H hx rfl hd rfl qq
theorem g_ineg {tb : Tables} [Ours tb] {e : Env} {below : List Frame} {T : State} {m : MethodId} {c : Code} {P : Outcome → State → Prop} {pc pc' : Nat} {Ls : Array Slot} {st : List Value} {x : Int32} (H : At T m c below) (hx : tb.exec = Jvm.exec) (hd : decode c.code pc = .ok (.ineg, 1))  (hp : pc + 1 = pc')
    (k : Gets tb e below P T (mkF m pc' Ls (.int (-x) :: st))) : Gets tb e below P T (mkF m pc Ls (.int x :: st)) := by
  subst hp; refine k.by fun t qq => ?_; exact XS.ineg H hx rfl hd rfl qq
theorem g_i2b {tb : Tables} [Ours tb] {e : Env} {below : List Frame} {T : State} {m : MethodId} {c : Code} {P : Outcome → State → Prop} {pc pc' : Nat} {Ls : Array Slot} {st : List Value} {x : Int32} (H : At T m c below) (hx : tb.exec = Jvm.exec) (hd : decode c.code pc = .ok (.i2b, 1))  (hp : pc + 1 = pc')
    (k : Gets tb e below P T (mkF m pc' Ls (.int (x.toInt8.toInt32) :: st))) : Gets tb e below P T (mkF m pc Ls (.int x :: st)) := by
  subst hp; refine k.by fun t qq => ?_; exact XS.i2b H hx rfl hd rfl qq
theorem g_i2s {tb : Tables} [Ours tb] {e : Env} {below : List Frame} {T : State} {m : MethodId} {c : Code} {P : Outcome → State → Prop} {pc pc' : Nat} {Ls : Array Slot} {st : List Value} {x : Int32} (H : At T m c below) (hx : tb.exec = Jvm.exec) (hd : decode c.code pc = .ok (.i2s, 1))  (hp : pc + 1 = pc')
    (k : Gets tb e below P T (mkF m pc' Ls (.int (x.toInt16.toInt32) :: st))) : Gets tb e below P T (mkF m pc Ls (.int x :: st)) := by
  subst hp; refine k.by fun t qq => ?_; exact XS.i2s H hx rfl hd rfl qq
theorem g_i2c {tb : Tables} [Ours tb] {e : Env} {below : List Frame} {T : State} {m : MethodId} {c : Code} {P : Outcome → State → Prop} {pc pc' : Nat} {Ls : Array Slot} {st : List Value} {x : Int32} (H : At T m c below) (hx : tb.exec = Jvm.exec) (hd : decode c.code pc = .ok (.i2c, 1))  (hp : pc + 1 = pc')
    (k : Gets tb e below P T (mkF m pc' Ls (.int (x.toUInt32.toUInt16.toUInt32.toInt32) :: st))) : Gets tb e below P T (mkF m pc Ls (.int x :: st)) := by
  subst hp; refine k.by fun t qq => ?_; exact XS.i2c H hx rfl hd rfl qq
theorem g_i2l {tb : Tables} [Ours tb] {e : Env} {below : List Frame} {T : State} {m : MethodId} {c : Code} {P : Outcome → State → Prop} {pc pc' : Nat} {Ls : Array Slot} {st : List Value} {x : Int32} (H : At T m c below) (hx : tb.exec = Jvm.exec) (hd : decode c.code pc = .ok (.i2l, 1))  (hp : pc + 1 = pc')
    (k : Gets tb e below P T (mkF m pc' Ls (.long x.toInt64 :: st))) : Gets tb e below P T (mkF m pc Ls (.int x :: st)) := by
  subst hp; refine k.by fun t qq => ?_; exact XS.i2l H hx rfl hd rfl qq
theorem g_l2i {tb : Tables} [Ours tb] {e : Env} {below : List Frame} {T : State} {m : MethodId} {c : Code} {P : Outcome → State → Prop} {pc pc' : Nat} {Ls : Array Slot} {st : List Value} {x : Int64} (H : At T m c below) (hx : tb.exec = Jvm.exec) (hd : decode c.code pc = .ok (.l2i, 1))  (hp : pc + 1 = pc')
    (k : Gets tb e below P T (mkF m pc' Ls (.int x.toInt32 :: st))) : Gets tb e below P T (mkF m pc Ls (.long x :: st)) := by
  subst hp; refine k.by fun t qq => ?_; exact XS.l2i H hx rfl hd rfl qq
theorem g_lneg {tb : Tables} [Ours tb] {e : Env} {below : List Frame} {T : State} {m : MethodId} {c : Code} {P : Outcome → State → Prop} {pc pc' : Nat} {Ls : Array Slot} {st : List Value} {x : Int64} (H : At T m c below) (hx : tb.exec = Jvm.exec) (hd : decode c.code pc = .ok (.lneg, 1))  (hp : pc + 1 = pc')
    (k : Gets tb e below P T (mkF m pc' Ls (.long (-x) :: st))) : Gets tb e below P T (mkF m pc Ls (.long x :: st)) := by
  subst hp; refine k.by fun t qq => ?_; exact XS.lneg H hx rfl hd rfl qq
theorem g_idiv {tb : Tables} [Ours tb] {e : Env} {below : List Frame} {T : State} {m : MethodId} {c : Code} {P : Outcome → State → Prop} {pc pc' : Nat} {Ls : Array Slot} {st : List Value} {x y : Int32} (H : At T m c below) (hx : tb.exec = Jvm.exec) (hd : decode c.code pc = .ok (.idiv, 1)) (hy : y ≠ 0) (hp : pc + 1 = pc')
    (k : Gets tb e below P T (mkF m pc' Ls (.int (x / y) :: st))) : Gets tb e below P T (mkF m pc Ls (.int y :: .int x :: st)) := by
  subst hp; refine k.by fun t qq => ?_; exact XS.idiv H hx rfl hd rfl hy qq
theorem g_dup {tb : Tables} [Ours tb] {e : Env} {below : List Frame} {T : State} {m : MethodId} {c : Code} {P : Outcome → State → Prop} {pc pc' : Nat} {Ls : Array Slot} {st : List Value} {v : Value} (H : At T m c below) (hx : tb.exec = Jvm.exec) (hd : decode c.code pc = .ok (.dup, 1)) (hv : v.category = 1) (hp : pc + 1 = pc')
    (k : Gets tb e below P T (mkF m pc' Ls (v :: v :: st))) : Gets tb e below P T (mkF m pc Ls (v :: st)) := by
  subst hp; refine k.by fun t qq => ?_; exact XS.dup H hx rfl hd rfl hv qq
theorem g_pop {tb : Tables} [Ours tb] {e : Env} {below : List Frame} {T : State} {m : MethodId} {c : Code} {P : Outcome → State → Prop} {pc pc' : Nat} {Ls : Array Slot} {st : List Value} {v : Value} (H : At T m c below) (hx : tb.exec = Jvm.exec) (hd : decode c.code pc = .ok (.pop, 1)) (hv : v.category = 1) (hp : pc + 1 = pc')
    (k : Gets tb e below P T (mkF m pc' Ls (st))) : Gets tb e below P T (mkF m pc Ls (v :: st)) := by
  subst hp; refine k.by fun t qq => ?_; exact XS.pop H hx rfl hd rfl hv qq
theorem g_dupX1 {tb : Tables} [Ours tb] {e : Env} {below : List Frame} {T : State} {m : MethodId} {c : Code} {P : Outcome → State → Prop} {pc pc' : Nat} {Ls : Array Slot} {st : List Value} {v w : Value} (H : At T m c below) (hx : tb.exec = Jvm.exec) (hd : decode c.code pc = .ok (.dup_x1, 1)) (hv : v.category = 1) (hw : w.category = 1) (hp : pc + 1 = pc')
    (k : Gets tb e below P T (mkF m pc' Ls (v :: w :: v :: st))) : Gets tb e below P T (mkF m pc Ls (v :: w :: st)) := by
  subst hp; refine k.by fun t qq => ?_; exact XS.dupX1 H hx rfl hd rfl hv hw qq
theorem g_iinc {tb : Tables} [Ours tb] {e : Env} {below : List Frame} {T : State} {m : MethodId} {c : Code} {P : Outcome → State → Prop} {pc pc' : Nat} {Ls : Array Slot} {st : List Value} {j : Nat} {cst : Int} {x : Int32} {Ls' : Array Slot} (H : At T m c below) (hx : tb.exec = Jvm.exec) (hd : decode c.code pc = .ok (.iinc j cst, 3)) (hl : Ls[j]? = some (.val (.int x))) (hs : storeLocals Ls j (.int (x + Int32.ofInt cst)) = some Ls') (hp : pc + 3 = pc')
    (k : Gets tb e below P T (mkF m pc' Ls' (st))) : Gets tb e below P T (mkF m pc Ls (st)) := by
  subst hp; refine k.by fun t qq => ?_; exact XS.iinc H hx rfl hd hl hs qq
theorem g_lconst {tb : Tables} [Ours tb] {e : Env} {below : List Frame} {T : State} {m : MethodId} {c : Code} {P : Outcome → State → Prop} {pc pc' : Nat} {Ls : Array Slot} {st : List Value} {j : Fin 2} (v : Int64) (H : At T m c below) (hx : tb.exec = Jvm.exec) (hd : decode c.code pc = .ok (.lconst j, 1)) (hv : Int64.ofNat j = v) (hp : pc + 1 = pc')
    (k : Gets tb e below P T (mkF m pc' Ls (.long v :: st))) : Gets tb e below P T (mkF m pc Ls st) := by
  subst hp; subst hv; refine k.by fun t qq => ?_; exact XS.lconst H hx rfl hd qq
theorem g_irem {tb : Tables} [Ours tb] {e : Env} {below : List Frame} {T : State} {m : MethodId} {c : Code} {P : Outcome → State → Prop} {pc pc' : Nat} {Ls : Array Slot} {st : List Value} {x y : Int32} (H : At T m c below) (hx : tb.exec = Jvm.exec) (hd : decode c.code pc = .ok (.irem, 1)) (hy : y ≠ 0) (hp : pc + 1 = pc')
    (k : Gets tb e below P T (mkF m pc' Ls (.int (x % y) :: st))) : Gets tb e below P T (mkF m pc Ls (.int y :: .int x :: st)) := by
  subst hp
  have q : x - x / y * y = x % y := irem_eq_mod x y
  rw [← q] at k
  refine k.by fun t qq => ?_; exact XS.irem H hx rfl hd rfl hy qq
theorem g_goto {tb : Tables} [Ours tb] {e : Env} {below : List Frame} {T : State} {m : MethodId} {c : Code} {P : Outcome → State → Prop} {pc pc' : Nat} {Ls : Array Slot} {st : List Value} {o : Int} (H : At T m c below) (hx : tb.exec = Jvm.exec) (hd : decode c.code pc = .ok (.goto o, 3)) (hp : (pc : Int) + o = (pc' : Int))
    (k : Gets tb e below P T (mkF m pc' Ls st)) : Gets tb e below P T (mkF m pc Ls st) := by
  refine k.by fun t qq => ?_
  exact XS.goto H hx rfl (pc0 := pc) (pc' := pc') rfl hd (by rw [hp]; exact Int.natCast_nonneg _) (by rw [hp]; rfl) qq
theorem g_ifY {tb : Tables} [Ours tb] {e : Env} {below : List Frame} {T : State} {m : MethodId} {c : Code} {P : Outcome → State → Prop} {pc pc' : Nat} {Ls : Array Slot} {st : List Value} {o : Int} {cd : ClassFile.Cond} {x : Int32} (H : At T m c below) (hx : tb.exec = Jvm.exec) (hd : decode c.code pc = .ok (.ifCond cd o, 3)) (hp : (pc : Int) + o = (pc' : Int)) (q : if_icmp.holds cd x 0 = true)
    (k : Gets tb e below P T (mkF m pc' Ls st)) : Gets tb e below P T (mkF m pc Ls (.int x :: st)) := by
  refine k.by fun t qq => ?_
  exact XS.ifYes H hx rfl (pc0 := pc) (pc' := pc') rfl hd rfl ((if0 _ _).trans q) (by rw [hp]; exact Int.natCast_nonneg _) (by rw [hp]; rfl) qq
theorem g_ifN {tb : Tables} [Ours tb] {e : Env} {below : List Frame} {T : State} {m : MethodId} {c : Code} {P : Outcome → State → Prop} {pc pc' : Nat} {Ls : Array Slot} {st : List Value} {o : Int} {cd : ClassFile.Cond} {x : Int32} (H : At T m c below) (hx : tb.exec = Jvm.exec) (hd : decode c.code pc = .ok (.ifCond cd o, 3)) (hp : pc + 3 = pc') (q : if_icmp.holds cd x 0 = false)
    (k : Gets tb e below P T (mkF m pc' Ls st)) : Gets tb e below P T (mkF m pc Ls (.int x :: st)) := by
  subst hp; refine k.by fun t qq => ?_; exact XS.ifNo H hx rfl hd rfl ((if0 _ _).trans q) qq
theorem g_icmpY {tb : Tables} [Ours tb] {e : Env} {below : List Frame} {T : State} {m : MethodId} {c : Code} {P : Outcome → State → Prop} {pc pc' : Nat} {Ls : Array Slot} {st : List Value} {o : Int} {cd : ClassFile.Cond} {x y : Int32} (H : At T m c below) (hx : tb.exec = Jvm.exec) (hd : decode c.code pc = .ok (.if_icmp cd o, 3)) (hp : (pc : Int) + o = (pc' : Int)) (q : if_icmp.holds cd x y = true)
    (k : Gets tb e below P T (mkF m pc' Ls st)) : Gets tb e below P T (mkF m pc Ls (.int y :: .int x :: st)) := by
  refine k.by fun t qq => ?_
  exact XS.icmpYes H hx rfl (pc0 := pc) (pc' := pc') rfl hd rfl q (by rw [hp]; exact Int.natCast_nonneg _) (by rw [hp]; rfl) qq
theorem g_icmpN {tb : Tables} [Ours tb] {e : Env} {below : List Frame} {T : State} {m : MethodId} {c : Code} {P : Outcome → State → Prop} {pc pc' : Nat} {Ls : Array Slot} {st : List Value} {o : Int} {cd : ClassFile.Cond} {x y : Int32} (H : At T m c below) (hx : tb.exec = Jvm.exec) (hd : decode c.code pc = .ok (.if_icmp cd o, 3)) (hp : pc + 3 = pc') (q : if_icmp.holds cd x y = false)
    (k : Gets tb e below P T (mkF m pc' Ls st)) : Gets tb e below P T (mkF m pc Ls (.int y :: .int x :: st)) := by
  subst hp; refine k.by fun t qq => ?_; exact XS.icmpNo H hx rfl hd rfl q qq
theorem g_nullY {tb : Tables} [Ours tb] {e : Env} {below : List Frame} {T : State} {m : MethodId} {c : Code} {P : Outcome → State → Prop} {pc pc' : Nat} {Ls : Array Slot} {st : List Value} {o : Int} (H : At T m c below) (hx : tb.exec = Jvm.exec) (hd : decode c.code pc = .ok (.ifnull o, 3)) (hp : (pc : Int) + o = (pc' : Int))
    (k : Gets tb e below P T (mkF m pc' Ls st)) : Gets tb e below P T (mkF m pc Ls (.null :: st)) := by
  refine k.by fun t qq => ?_
  exact XS.ifnullYes H hx rfl (pc0 := pc) (pc' := pc') rfl hd rfl (by rw [hp]; exact Int.natCast_nonneg _) (by rw [hp]; rfl) qq
theorem g_nullN {tb : Tables} [Ours tb] {e : Env} {below : List Frame} {T : State} {m : MethodId} {c : Code} {P : Outcome → State → Prop} {pc pc' : Nat} {Ls : Array Slot} {st : List Value} {o : Int} {b : Addr} (H : At T m c below) (hx : tb.exec = Jvm.exec) (hd : decode c.code pc = .ok (.ifnull o, 3)) (hp : pc + 3 = pc')
    (k : Gets tb e below P T (mkF m pc' Ls st)) : Gets tb e below P T (mkF m pc Ls (.ref b :: st)) := by
  subst hp; refine k.by fun t qq => ?_; exact XS.ifnullNo H hx rfl hd rfl qq
theorem g_nonnullY {tb : Tables} [Ours tb] {e : Env} {below : List Frame} {T : State} {m : MethodId} {c : Code} {P : Outcome → State → Prop} {pc pc' : Nat} {Ls : Array Slot} {st : List Value} {o : Int} {b : Addr} (H : At T m c below) (hx : tb.exec = Jvm.exec) (hd : decode c.code pc = .ok (.ifnonnull o, 3)) (hp : (pc : Int) + o = (pc' : Int))
    (k : Gets tb e below P T (mkF m pc' Ls st)) : Gets tb e below P T (mkF m pc Ls (.ref b :: st)) := by
  refine k.by fun t qq => ?_
  exact XS.ifnonnullYes H hx rfl (pc0 := pc) (pc' := pc') rfl hd rfl (by rw [hp]; exact Int.natCast_nonneg _) (by rw [hp]; rfl) qq
theorem g_nonnullN {tb : Tables} [Ours tb] {e : Env} {below : List Frame} {T : State} {m : MethodId} {c : Code} {P : Outcome → State → Prop} {pc pc' : Nat} {Ls : Array Slot} {st : List Value} {o : Int} (H : At T m c below) (hx : tb.exec = Jvm.exec) (hd : decode c.code pc = .ok (.ifnonnull o, 3)) (hp : pc + 3 = pc')
    (k : Gets tb e below P T (mkF m pc' Ls st)) : Gets tb e below P T (mkF m pc Ls (.null :: st)) := by
  subst hp; refine k.by fun t qq => ?_; exact XS.ifnonnullNo H hx rfl hd rfl qq
theorem g_tsw {tb : Tables} [Ours tb] {e : Env} {below : List Frame} {T : State} {m : MethodId} {c : Code} {P : Outcome → State → Prop} {pc pc' : Nat} {Ls : Array Slot} {st : List Value} {dflt low high : Int} {offs : Array Int} {len : Nat} {o : Int} {i : Int32} (H : At T m c below) (hx : tb.exec = Jvm.exec) (hd : decode c.code pc = .ok (.tableswitch dflt low high offs, len)) (hin : ¬ (i.toInt < low ∨ i.toInt > high)) (hoff : offs[(i.toInt - low).toNat]? = some o) (hp : (pc : Int) + o = (pc' : Int))
    (k : Gets tb e below P T (mkF m pc' Ls st)) : Gets tb e below P T (mkF m pc Ls (.int i :: st)) := by
  refine k.by fun t qq => ?_
  exact XS.tswIn H hx rfl (pc0 := pc) (pc' := pc') rfl hd rfl hin hoff (by rw [hp]; exact Int.natCast_nonneg _) (by rw [hp]; rfl) qq
theorem g_iincV {tb : Tables} [Ours tb] {e : Env} {below : List Frame} {T : State} {m : MethodId} {c : Code} {P : Outcome → State → Prop} {pc pc' : Nat} {Ls Ls' : Array Slot} {st : List Value} {j : Nat} {cst : Int} {x : Int32} (v : Int32) (H : At T m c below) (hx : tb.exec = Jvm.exec) (hd : decode c.code pc = .ok (.iinc j cst, 3)) (hv : x + Int32.ofInt cst = v) (hl : Ls[j]? = some (.val (.int x))) (hs : storeLocals Ls j (.int v) = some Ls') (hp : pc + 3 = pc')
    (k : Gets tb e below P T (mkF m pc' Ls' st)) : Gets tb e below P T (mkF m pc Ls st) := by
  subst hp; subst hv; refine k.by fun t qq => ?_; exact XS.iinc H hx rfl hd hl hs qq
/-- an array's exact content -/
def Ary (Z : State) (h : Heap) (a : Addr) (ty : FieldType) (vs : List Value) : Prop := ∃ cl : Cell, Arr Z h a cl ty ∧ cl.slots.toList = vs ∧ vs.length < 2 ^ 31 ∧ ∀ v ∈ vs, fits ty v = true
theorem Ary.lt {Z : State} {h : Heap} {a : Addr} {ty : FieldType} {vs : List Value} (F : Ary Z h a ty vs) : a < h.size := by obtain ⟨c, A, -⟩ := F; exact A.lt
theorem Ary.len {Z : State} {h : Heap} {a : Addr} {ty : FieldType} {vs : List Value} (F : Ary Z h a ty vs) : vs.length < 2 ^ 31 := by obtain ⟨c, A, -, q, -⟩ := F; exact q
theorem Ary.keep {Z : State} {h h' : Heap} {a : Addr} {ty : FieldType} {vs : List Value} {ws : List Addr} (F : Ary Z h a ty vs) (K : Keep h h' ws) (q : a ∉ ws) : Ary Z h' a ty vs := by obtain ⟨c, A, r⟩ := F; exact ⟨c, ⟨K.2.1 a c A.1 q, A.2⟩, r⟩
theorem Ary.ext {Z : State} {h h' : Heap} {a : Addr} {ty : FieldType} {vs : List Value} (F : Ary Z h a ty vs) (E : Ext h h') : Ary Z h' a ty vs := by obtain ⟨c, A, r⟩ := F; exact ⟨c, A.ext E, r⟩
theorem Ary.made {Z : State} {h : Heap} {a : Addr} {ty : FieldType} {k : ClassId} {n : Int32} (A : Arr Z h a (newA k ty n) ty) (hn : ¬ n < 0) (hf : fits ty (defaultValue ty) = true) : Ary Z h a ty (List.replicate n.toNatClampNeg (defaultValue ty)) :=
  ⟨_, A, by simp [newA], by rw [List.length_replicate]; exact (back32 hn).2, fun v hv => by rw [(List.mem_replicate.mp hv).2]; exact hf⟩
theorem Ary.of_arv {Z : State} {h : Heap} {a : Addr} {ty : FieldType} {k : ClassId} {z : Int32} {vs : List Value} {d : Value} (F : Arv Z h a k ty z vs d) (hl : z.toNatClampNeg = vs.length) : Ary Z h a ty vs := by
  obtain ⟨c, A, -, sz, hz, H, G⟩ := F
  have e : c.slots.toList = vs := by
    apply List.ext_getElem?
    intro i
    by_cases hi : i < c.slots.size
    · have q := H i hi
      have hi' : i < vs.length := by omega
      rw [Array.getElem?_toList, q]
      simp [List.getD_eq_getElem?_getD, hi']
    · have hi' : vs.length ≤ i := by omega
      rw [Array.getElem?_toList, Array.getElem?_eq_none (by omega), List.getElem?_eq_none hi']
  refine ⟨c, A, e, by rw [← hl]; exact (back32 hz).2, fun v hv => ?_⟩
  obtain ⟨i, hi, rfl⟩ := List.mem_iff_getElem.mp hv
  have q := G i (by omega)
  rwa [List.getD_eq_getElem?_getD, List.getElem?_eq_getElem hi] at q
theorem Ary.wrote {Z : State} {h h' : Heap} {a : Addr} {ty : FieldType} {vs : List Value} {cl : Cell} {v : Value} {i : Nat} (A : Arr Z h a cl ty) (e : cl.slots.toList = vs) (hl : vs.length < 2 ^ 31) (hf : ∀ w ∈ vs, fits ty w = true) (hv : fits ty v = true) (W : Wr h h' a i v) : Ary Z h' a ty (vs.set i v) := by
  refine ⟨cl.setSlot i v, A.same W, ?_, by rw [List.length_set]; exact hl, fun w hw => ?_⟩
  · rw [← e]; simp [Cell.setSlot]
  · rcases List.mem_or_eq_of_mem_set hw with q | q
    · exact hf w q
    · rw [q]; exact hv
theorem size_of_list {cl : Cell} {vs : List Value} (e : cl.slots.toList = vs) : cl.slots.size = vs.length := by rw [← e]; simp
theorem at_of_list {cl : Cell} {vs : List Value} (e : cl.slots.toList = vs) (i : Nat) : cl.slots[i]? = vs[i]? := by rw [← e]; simp
theorem i32_nat {n : Nat} (h : n < 2 ^ 31) : n.toInt32.toNatClampNeg = n := by simp only [Int32.toNatClampNeg, len_toInt h]; rfl
end OwnBase
section OwnWalk
variable {p : Program} {l : Launch} {e : Env} {R : Room} {s : State} {m : MethodId} {args : Array Value} {below : List Frame} {meth : Method} {c : Code} {T : State} {Z : State} {a0 : Array Value} {h : Heap} {EL : List (String × Nat)} {own : String} {cells slots : Nat} {ws nw : List Addr} {P : Outcome → State → Prop} {pc pc' : Nat} {Ls : Array Slot} {st : List Value}
/-- where a walk stands -/
def Wk (p : Program) (l : Launch) (e : Env) (R : Room) (s : State) (m : MethodId) (args : Array Value) (below : List Frame) (meth : Method) (c : Code) (Z : State) (EL : List (String × Nat)) (own : String) (ws nw : List Addr) (T : State) (h : Heap) (cells slots : Nat) : Prop :=
  ∃ (vm0 : Vm) (k0 : Nat) (locs : List Loc) (b0 : Array Value), Stand p l e R (s.setVm vm0) m args below meth c T locs cells slots ∧ T.heap = h ∧ s.Since vm0 k0 ∧ k0 ≤ h.size ∧ Z.Warmed39 vm0 ∧ vm0.findClass own = some m.cls ∧ EW Z b0 EL ∧ CHr Z EL s.vm s.heap vm0 h ∧ Fr Z.heap.size locs ∧ Ext Z.heap h ∧ Keep s.heap h ws ∧
    (∀ x : Nat, x ∈ ws → Z.heap.size ≤ x ∧ x < h.size ∧ Safe Z EL vm0 h x) ∧ (∀ x : Nat, x ∈ nw → s.heap.size ≤ x ∧ Z.heap.size ≤ x ∧ x < h.size ∧ Safe Z EL vm0 h x)
theorem Wk.here (W : Wk p l e R s m args below meth c Z EL own ws nw T h cells slots) : At T m c below := by obtain ⟨_, _, _, _, X, -⟩ := W; exact X.here
theorem Wk.old (W : Wk p l e R s m args below meth c Z EL own ws nw T h cells slots) : Ext Z.heap h := by obtain ⟨_, _, _, _, -, -, -, -, -, -, -, -, -, E, -⟩ := W; exact E
theorem Wk.lt (W : Wk p l e R s m args below meth c Z EL own ws nw T h cells slots) {x : Nat} (q : x ∈ nw) : x < h.size := by obtain ⟨_, _, _, _, -, -, -, -, -, -, -, -, -, -, -, -, n⟩ := W; exact (n x q).2.2.1
theorem Wk.kept (W : Wk p l e R s m args below meth c Z EL own ws nw T h cells slots) : Keep s.heap h ws := by obtain ⟨_, _, _, _, -, -, -, -, -, -, -, -, -, -, K, -⟩ := W; exact K
/-- a callee's contract: from the arguments as' and the heap h0 it returns a value v and a heap h' with Q v h'; of the cells of h0 at the most those at ws are written -/
def ConL (wl : List Cond) (l : Launch) (Z : State) (EL : List (String × Nat)) (y : MethodName) (bytes : ByteArray) (maxL : Nat) (ret : Option FieldType) (rm : Room) (as' : Array Value) (h0 : Heap) (ws : List Addr) (Q : Option Value → Heap → Prop) : Prop :=
  MetFree l y (head1 (Cond.code y bytes maxL ret :: wl) rm) (fun a U => a = as' ∧ Z.Warmed39 U.vm ∧ U.heap = h0 ∧ CHv Z EL U.vm h0 ∧ ∀ x ∈ ws, Safe Z EL U.vm h0 x) (fun _ _ _ _ _ => True)
    (fun _ U o U' => ∃ v L, o = .returned v ∧ (Q v U'.heap ∧ Fr Z.heap.size L ∧ Keep h0 U'.heap ws ∧ Ext Z.heap U'.heap) ∧ CHr Z EL U.vm U.heap U'.vm U'.heap ∧ ReturnedEndW U o U' L rm.cells rm.slots)
abbrev Con := ConL []
/-- what a contract's body is to come to -/
def Post (s : State) (Z : State) (EL : List (String × Nat)) (rm : Room) (h0 : Heap) (ws : List Addr) (Q : Option Value → Heap → Prop) (o : Outcome) (t : State) : Prop :=
  ∃ v L, o = .returned v ∧ (Q v t.heap ∧ Fr Z.heap.size L ∧ Keep h0 t.heap ws ∧ Ext Z.heap t.heap) ∧ CHr Z EL s.vm s.heap t.vm t.heap ∧ ReturnedEndW s o t L rm.cells rm.slots
theorem Con.of {wl : List Cond} {y : MethodName} {bytes : ByteArray} {maxL : Nat} {ret : Option FieldType} {rm : Room} {as' : Array Value} {h0 : Heap} {Q : Option Value → Heap → Prop} (Ls : Array Slot)
    (hy : plainFor y = true) (hE : EW Z a0 EL) (O : Ext Z.heap h0) (hws : ∀ x : Nat, x ∈ ws → Z.heap.size ≤ x ∧ x < h0.size) (hent : ∀ m, entryFrame m as' maxL = mkF m 0 Ls [])
    (body : ∀ (p : Program) (e : Env) (s : State) (m : MethodId) (below : List Frame) (meth : Method) (c : Code) (T : State), p.tables.exec = Jvm.exec → c.code = bytes → c.maxLocals = maxL → meth.name = y.name → meth.sig.returnType = ret → meth.locks = false → s.heap = h0 →
      Wk p l e rm s m as' below meth c Z EL y.cls ws [] T h0 0 0 → Gets p.tables e below (Post s Z EL rm h0 ws Q) T (mkF m 0 Ls [])) :
    ConL wl l Z EL y bytes maxL ret rm as' h0 ws Q := by
  refine MetFree.of_bodySF hy hisR ?_
  intro p e s m args below meth c s₁ Bd hml0 hP hK
  obtain ⟨rfl, hZ, hh, hC, hS⟩ := hP
  have hh' : s.heap = h0 := hh
  have hl : meth.locks = false := Bd.notSynchronized
  have e0 : s₁.heap = h0 := by rw [← hh, Bd.state]; rfl
  have X0 : Stand p l e rm s m args below meth c s₁ [] 0 0 := Stand.of_body Bd
  have W : Wk p l e rm s m args below meth c Z EL y.cls ws [] s₁ h0 0 0 :=
    ⟨s.vm, h0.size, [], a0, X0, e0, (State.WarmedH.refl s).since _, Nat.le_refl _, hZ, findClass_of_methodNamed Bd.named, hE, by rw [hh']; exact CHr.refl hC, Fr.nil _, O, by rw [hh']; exact Keep.refl _ _, fun x hx => ⟨(hws x hx).1, (hws x hx).2, hS x hx⟩, fun x hx => (nomatch hx)⟩
  obtain ⟨t, o, h1, h2, h3, h4⟩ := body p e s m below meth c s₁ Bd.exec Bd.bytes hml0 (name_of_methodNamed Bd.named Bd.method).1 Bd.returns hl hh' W
  exact ⟨t, o, by rw [hent m]; exact h1, h2, h3, h4⟩
/-! ends -/
theorem w_end {rm : Room} {h0 : Heap} {Q : Option Value → Heap → Prop} (W : Wk p l e R s m args below meth c Z EL own ws nw T h cells slots) (hh : s.heap = h0) {v : Option Value} {g : JFrame} (hl : meth.locks = false) (hv : meth.sig.returnType = none → v = none)
    (st : ∀ {vm0 : Vm} {locs : List Loc} {fs : List Frame}, Stand p l e R (s.setVm vm0) m args below meth c T locs cells slots → (∀ (f : JFrame) (acts : List Action), f.method = m → f.locked = none → f.entered = [] → (doReturn e (T.setTop f) acts v).1 = T.setFrames fs) → Steps p.tables e below (T.setTop g) (T.setFrames fs))
    (hc : cells ≤ rm.cells) (hs : slots ≤ rm.slots) (q : Q v h) : Gets p.tables e below (Post s Z EL rm h0 ws Q) T g := by
  obtain ⟨vm0, k0, locs, b0, X, eT, hS, hk, hZ, hown, hE, hC, hF, hO, hK, -, -⟩ := W
  obtain ⟨fs, h1, h2, h3, r1, r2, r3, r4⟩ := X.leaveW hS (by rw [eT]; exact hk) hv hl
  subst hh
  have hA := CHv.at X hZ hE hC.1
  refine ⟨_, _, st X h1, h2, h3, v, locs, rfl, ⟨?_, hF, ?_, ?_⟩, ?_, r1, r2, r3, r4.mono hc hs⟩
  · show Q v T.heap; rw [eT]; exact q
  · show Keep _ T.heap _; rw [eT]; exact hK
  · show Ext _ T.heap; rw [eT]; exact hO
  · show CHr Z EL s.vm s.heap T.vm T.heap
    rw [eT]
    exact hC.trans hA
theorem w_retI {rm : Room} {h0 : Heap} {Q : Option Value → Heap → Prop} {z : Int32} (W : Wk p l e R s m args below meth c Z EL own ws nw T h cells slots) (hx : p.tables.exec = Jvm.exec) (hh : s.heap = h0) (hl : meth.locks = false) (hret : meth.sig.returnType = some .int) (hd : decode c.code pc = .ok (.ireturn, 1)) (hc : cells ≤ rm.cells) (hs : slots ≤ rm.slots) (q : Q (some (.int z)) h) :
    Gets p.tables e below (Post s Z EL rm h0 ws Q) T (mkF m pc Ls (.int z :: st)) :=
  w_end W hh hl (fun q => by rw [hret] at q; cases q) (fun X hr => retOut X hx hret rfl (Or.inl ⟨rfl, Or.inl rfl, z, rfl⟩) hd hr) hc hs q
theorem w_retN {rm : Room} {h0 : Heap} {Q : Option Value → Heap → Prop} {z : Int32} {t : FieldType} (W : Wk p l e R s m args below meth c Z EL own ws nw T h cells slots) (hx : p.tables.exec = Jvm.exec) (hh : s.heap = h0) (hl : meth.locks = false) (hret : meth.sig.returnType = some t) (ht : t = .boolean ∨ t = .byte ∨ t = .char ∨ t = .short) (hd : decode c.code pc = .ok (.ireturn, 1)) (hc : cells ≤ rm.cells) (hs : slots ≤ rm.slots) (q : Q (some (.int (nar t z))) h) :
    Gets p.tables e below (Post s Z EL rm h0 ws Q) T (mkF m pc Ls (.int z :: st)) :=
  w_end W hh hl (fun q => by rw [hret] at q; cases q) (fun X hr => retN X hx hret ht hd hr) hc hs q
theorem w_retJ {rm : Room} {h0 : Heap} {Q : Option Value → Heap → Prop} {z : Int64} (W : Wk p l e R s m args below meth c Z EL own ws nw T h cells slots) (hx : p.tables.exec = Jvm.exec) (hh : s.heap = h0) (hl : meth.locks = false) (hret : meth.sig.returnType = some .long) (hd : decode c.code pc = .ok (.lreturn, 1)) (hc : cells ≤ rm.cells) (hs : slots ≤ rm.slots) (q : Q (some (.long z)) h) :
    Gets p.tables e below (Post s Z EL rm h0 ws Q) T (mkF m pc Ls (.long z :: st)) :=
  w_end W hh hl (fun q => by rw [hret] at q; cases q) (fun X hr => retOut X hx hret rfl (Or.inr (Or.inl ⟨rfl, rfl, z, rfl⟩)) hd hr) hc hs q
theorem w_retA {rm : Room} {h0 : Heap} {Q : Option Value → Heap → Prop} {w : Value} {t : FieldType} (W : Wk p l e R s m args below meth c Z EL own ws nw T h cells slots) (hx : p.tables.exec = Jvm.exec) (hh : s.heap = h0) (hl : meth.locks = false) (hret : meth.sig.returnType = some t) (ht : t.isReference = true) (hw : w.isRef = true) (hd : decode c.code pc = .ok (.areturn, 1)) (hc : cells ≤ rm.cells) (hs : slots ≤ rm.slots) (q : Q (some w) h) :
    Gets p.tables e below (Post s Z EL rm h0 ws Q) T (mkF m pc Ls (w :: st)) :=
  w_end W hh hl (fun q => by rw [hret] at q; cases q) (fun X hr => retOut X hx hret (by cases t <;> cases w <;> simp [FieldType.isReference, Value.isRef, narrow] at ht hw ⊢) (Or.inr (Or.inr (Or.inr (Or.inr ⟨rfl, ht, hw⟩)))) hd hr) hc hs q
theorem w_retV {rm : Room} {h0 : Heap} {Q : Option Value → Heap → Prop} (W : Wk p l e R s m args below meth c Z EL own ws nw T h cells slots) (hx : p.tables.exec = Jvm.exec) (hh : s.heap = h0) (hl : meth.locks = false) (hret : meth.sig.returnType = none) (hd : decode c.code pc = .ok (.return_, 1)) (hc : cells ≤ rm.cells) (hs : slots ≤ rm.slots) (q : Q none h) :
    Gets p.tables e below (Post s Z EL rm h0 ws Q) T (mkF m pc Ls []) :=
  w_end W hh hl (fun _ => rfl) (fun X hr => X.returnOut hx hret hd hr) hc hs q
/-! steps that leave the heap as it is -/
theorem w_get (W : Wk p l e R s m args below meth c Z EL own ws nw T h cells slots) (hx : p.tables.exec = Jvm.exec) {R0 O n d : String} {index : Nat} (w : (Cond.fieldLink own index R0 n d).before a0 Z = true) (via : Via Z R0 O n d) {a : Nat} {v : Value} (F : Fld Z h a O n d v) (hd : decode c.code pc = .ok (.getfield index, 3)) (hp : pc + 3 = pc')
    (k : ∀ T', Wk p l e R s m args below meth c Z EL own ws nw T' h cells slots → Gets p.tables e below P T' (mkF m pc' Ls (v :: st))) : Gets p.tables e below P T (mkF m pc Ls (.ref a :: st)) := by
  subst hp
  obtain ⟨vm0, k0, locs, b0, X, eT, hS, hk, hZ, hown, r⟩ := W
  obtain ⟨T', X', e', stp⟩ := getF X hx hZ hown (host := "") (Or.inl w) via eT F (g := mkF m pc Ls (.ref a :: st)) rfl rfl hd
  exact (k T' ⟨vm0, k0, locs, b0, X', e', hS, hk, hZ, hown, r⟩).by stp
theorem w_getS (W : Wk p l e R s m args below meth c Z EL own ws nw T h cells slots) (hx : p.tables.exec = Jvm.exec) {R0 O n d : String} {index : Nat} (w : (Cond.fieldLink own index R0 n d).before a0 Z = true) (via : Via Z R0 O n d) {v : Value} (F : Sta Z Z.heap O n d v) (hd : decode c.code pc = .ok (.getstatic index, 3)) (hp : pc + 3 = pc')
    (k : ∀ T', Wk p l e R s m args below meth c Z EL own ws nw T' h cells slots → Gets p.tables e below P T' (mkF m pc' Ls (v :: st))) : Gets p.tables e below P T (mkF m pc Ls st) := by
  subst hp
  have O := W.old
  obtain ⟨vm0, k0, locs, b0, X, eT, hS, hk, hZ, hown, r⟩ := W
  obtain ⟨T', X', e', stp⟩ := getS X hx hZ hown (host := "") w via eT (F.ext O) (g := mkF m pc Ls st) rfl hd
  exact (k T' ⟨vm0, k0, locs, b0, X', e', hS, hk, hZ, hown, r⟩).by stp
theorem w_ldcI (W : Wk p l e R s m args below meth c Z EL own ws nw T h cells slots) (hx : p.tables.exec = Jvm.exec) {index : Nat} {v : Int32} (w : (Cond.constant own index v).before a0 Z = true) (hd : decode c.code pc = .ok (.ldc index, 2)) (hp : pc + 2 = pc')
    (k : Gets p.tables e below P T (mkF m pc' Ls (.int v :: st))) : Gets p.tables e below P T (mkF m pc Ls st) := by
  subst hp
  obtain ⟨vm0, k0, locs, b0, X, eT, hS, hk, hZ, hown, r⟩ := W
  exact k.by fun t q => Jvm.Stand.ldcI X hx hown (mv (s := s.setVm vm0) hZ w) (g := mkF m pc Ls st) rfl hd q
theorem w_ldc2J (W : Wk p l e R s m args below meth c Z EL own ws nw T h cells slots) (hx : p.tables.exec = Jvm.exec) {index : Nat} {v : Int64} (w : (Cond.constantLong own index v).before a0 Z = true) (hd : decode c.code pc = .ok (.ldc2_w index, 3)) (hp : pc + 3 = pc')
    (k : Gets p.tables e below P T (mkF m pc' Ls (.long v :: st))) : Gets p.tables e below P T (mkF m pc Ls st) := by
  subst hp
  obtain ⟨vm0, k0, locs, b0, X, eT, hS, hk, hZ, hown, r⟩ := W
  exact k.by fun t q => Jvm.Stand.ldc2J X hx hown (mv (s := s.setVm vm0) hZ w) (g := mkF m pc Ls st) rfl hd q
theorem w_acmp (W : Wk p l e R s m args below meth c Z EL own ws nw T h cells slots) (hx : p.tables.exec = Jvm.exec) {cd : ACond} {x y : Value} {o : Int} (h1 : x.isRef = true) (h2 : y.isRef = true) (same : Bool) (hd : decode c.code pc = .ok (.if_acmp cd o, 3)) (hq : decide (x = y) = same) (ho : 0 ≤ (pc : Int) + o) (hp : pc' = if acV cd same = true then ((pc : Int) + o).toNat else pc + 3)
    (k : Gets p.tables e below P T (mkF m pc' Ls st)) : Gets p.tables e below P T (mkF m pc Ls (y :: x :: st)) := by
  obtain ⟨vm0, k0, locs, b0, X, r⟩ := W
  exact k.by fun t q => Jvm.RoadKit.acmp (g := mkF m pc Ls (y :: x :: st)) X hx rfl h1 h2 (pc0 := pc) (pc' := pc') rfl hd rfl hq ho hp q
theorem w_cast (W : Wk p l e R s m args below meth c Z EL own ws nw T h cells slots) (hx : p.tables.exec = Jvm.exec) {K : String} {index : Nat} (w : (Cond.classLink own index K).before a0 Z = true) {a : Nat} (F : Ins Z h a K true) (hd : decode c.code pc = .ok (.checkcast index, 3)) (hp : pc + 3 = pc')
    (k : ∀ T', Wk p l e R s m args below meth c Z EL own ws nw T' h cells slots → Gets p.tables e below P T' (mkF m pc' Ls (.ref a :: st))) : Gets p.tables e below P T (mkF m pc Ls (.ref a :: st)) := by
  subst hp
  obtain ⟨vm0, k0, locs, b0, X, eT, hS, hk, hZ, hown, r⟩ := W
  obtain ⟨T', X', e', stp⟩ := castY X hx hZ hown w eT F (g := mkF m pc Ls (.ref a :: st)) rfl rfl hd
  exact (k T' ⟨vm0, k0, locs, b0, X', e', hS, hk, hZ, hown, r⟩).by stp
theorem w_inst (W : Wk p l e R s m args below meth c Z EL own ws nw T h cells slots) (hx : p.tables.exec = Jvm.exec) {K : String} {index : Nat} (w : (Cond.classLink own index K).before a0 Z = true) {a : Nat} (F : Ins Z h a K true) (hd : decode c.code pc = .ok (.instanceof index, 3)) (hp : pc + 3 = pc')
    (k : ∀ T', Wk p l e R s m args below meth c Z EL own ws nw T' h cells slots → Gets p.tables e below P T' (mkF m pc' Ls (.int 1 :: st))) : Gets p.tables e below P T (mkF m pc Ls (.ref a :: st)) := by
  subst hp
  obtain ⟨vm0, k0, locs, b0, X, eT, hS, hk, hZ, hown, r⟩ := W
  obtain ⟨T', X', e', stp⟩ := instY X hx hZ hown w eT F (g := mkF m pc Ls (.ref a :: st)) rfl rfl hd
  exact (k T' ⟨vm0, k0, locs, b0, X', e', hS, hk, hZ, hown, r⟩).by stp
theorem w_len (W : Wk p l e R s m args below meth c Z EL own ws nw T h cells slots) (hx : p.tables.exec = Jvm.exec) {a : Nat} {ty : FieldType} {vs : List Value} (F : Ary Z h a ty vs) (hd : decode c.code pc = .ok (.arraylength, 1)) (hp : pc + 1 = pc')
    (k : Gets p.tables e below P T (mkF m pc' Ls (.int vs.length.toInt32 :: st))) : Gets p.tables e below P T (mkF m pc Ls (.ref a :: st)) := by
  subst hp
  obtain ⟨vm0, k0, locs, b0, X, eT, hS, hk, hZ, hown, r⟩ := W
  obtain ⟨cl, A, e1, -, -⟩ := F
  refine k.by fun t q => X.arraylength hx (by rw [eT]; exact A.1) (State.isArrayOf_alike hZ.alike A.2.1) (g := mkF m pc Ls (.ref a :: st)) rfl rfl hd t ?_
  rw [size_of_list e1]; exact q
theorem in_of {cl : Cell} {vs : List Value} {j : Int32} {v : Value} (e : cl.slots.toList = vs) (hj : ¬ j < 0) (hv : vs[j.toNatClampNeg]? = some v) : ¬ (j < 0 ∨ cl.slots.size ≤ j.toNatClampNeg) ∧ cl.slots[j.toNatClampNeg]? = some v := by
  refine ⟨fun q => q.elim hj fun q => ?_, by rw [at_of_list e]; exact hv⟩
  have := (List.getElem?_eq_some_iff.mp hv).1
  rw [size_of_list e] at q; omega
theorem w_caload (W : Wk p l e R s m args below meth c Z EL own ws nw T h cells slots) (hx : p.tables.exec = Jvm.exec) {a : Nat} {vs : List Value} {j : Int32} {v : Value} (F : Ary Z h a .char vs) (hj : ¬ j < 0) (hv : vs[j.toNatClampNeg]? = some v) (hd : decode c.code pc = .ok (.caload, 1)) (hp : pc + 1 = pc')
    (k : Gets p.tables e below P T (mkF m pc' Ls (v :: st))) : Gets p.tables e below P T (mkF m pc Ls (.int j :: .ref a :: st)) := by
  subst hp
  obtain ⟨vm0, k0, locs, b0, X, eT, hS, hk, hZ, hown, r⟩ := W
  obtain ⟨cl, A, e1, -, -⟩ := F
  obtain ⟨q1, q2⟩ := in_of e1 hj hv
  exact k.by fun t q => X.caload hx (by rw [eT]; exact A.1) (State.isArrayOf_alike hZ.alike A.2.1) A.2.2 q1 q2 (g := mkF m pc Ls (.int j :: .ref a :: st)) rfl rfl hd t q
theorem w_baload (W : Wk p l e R s m args below meth c Z EL own ws nw T h cells slots) (hx : p.tables.exec = Jvm.exec) {a : Nat} {vs : List Value} {j : Int32} {v : Value} (F : Ary Z h a .byte vs) (hj : ¬ j < 0) (hv : vs[j.toNatClampNeg]? = some v) (hd : decode c.code pc = .ok (.baload, 1)) (hp : pc + 1 = pc')
    (k : Gets p.tables e below P T (mkF m pc' Ls (v :: st))) : Gets p.tables e below P T (mkF m pc Ls (.int j :: .ref a :: st)) := by
  subst hp
  obtain ⟨vm0, k0, locs, b0, X, eT, hS, hk, hZ, hown, r⟩ := W
  obtain ⟨cl, A, e1, -, -⟩ := F
  obtain ⟨q1, q2⟩ := in_of e1 hj hv
  exact k.by fun t q => X.baloadBytes hx (by rw [eT]; exact A.1) (State.isArrayOf_alike hZ.alike A.2.1) A.2.2 q1 q2 (g := mkF m pc Ls (.int j :: .ref a :: st)) rfl rfl hd t q
theorem w_iaload (W : Wk p l e R s m args below meth c Z EL own ws nw T h cells slots) (hx : p.tables.exec = Jvm.exec) {a : Nat} {vs : List Value} {j : Int32} {v : Value} (F : Ary Z h a .int vs) (hj : ¬ j < 0) (hv : vs[j.toNatClampNeg]? = some v) (hd : decode c.code pc = .ok (.iaload, 1)) (hp : pc + 1 = pc')
    (k : Gets p.tables e below P T (mkF m pc' Ls (v :: st))) : Gets p.tables e below P T (mkF m pc Ls (.int j :: .ref a :: st)) := by
  subst hp
  obtain ⟨vm0, k0, locs, b0, X, eT, hS, hk, hZ, hown, r⟩ := W
  obtain ⟨cl, A, e1, -, -⟩ := F
  obtain ⟨q1, q2⟩ := in_of e1 hj hv
  exact k.by fun t q => X.iaload hx (by rw [eT]; exact A.1) (State.isArrayOf_alike hZ.alike A.2.1) A.2.2 q1 q2 (g := mkF m pc Ls (.int j :: .ref a :: st)) rfl rfl hd t q
theorem w_aaload (W : Wk p l e R s m args below meth c Z EL own ws nw T h cells slots) (hx : p.tables.exec = Jvm.exec) {a : Nat} {ty : FieldType} {vs : List Value} {j : Int32} {v : Value} (F : Ary Z h a ty vs) (hty : ty.isReference = true) (hj : ¬ j < 0) (hv : vs[j.toNatClampNeg]? = some v) (hd : decode c.code pc = .ok (.aaload, 1)) (hp : pc + 1 = pc')
    (k : Gets p.tables e below P T (mkF m pc' Ls (v :: st))) : Gets p.tables e below P T (mkF m pc Ls (.int j :: .ref a :: st)) := by
  subst hp
  obtain ⟨vm0, k0, locs, b0, X, eT, hS, hk, hZ, hown, r⟩ := W
  obtain ⟨cl, A, e1, -, -⟩ := F
  obtain ⟨q1, q2⟩ := in_of e1 hj hv
  exact k.by fun t q => X.aaload hx (by rw [eT]; exact A.1) (State.isArrayOf_alike hZ.alike A.2.1) hty A.2.2 q1 q2 (g := mkF m pc Ls (.int j :: .ref a :: st)) rfl rfl hd t q
theorem w_aaloadA (W : Wk p l e R s m args below meth c Z EL own ws nw T h cells slots) (hx : p.tables.exec = Jvm.exec) {a : Nat} {ty : FieldType} {cl : Cell} {j : Int32} {v : Value} (A : Arr Z h a cl ty) (hty : ty.isReference = true) (hin : ¬ (j < 0 ∨ cl.slots.size ≤ j.toNatClampNeg)) (hv : cl.slots[j.toNatClampNeg]? = some v) (hd : decode c.code pc = .ok (.aaload, 1)) (hp : pc + 1 = pc')
    (k : Gets p.tables e below P T (mkF m pc' Ls (v :: st))) : Gets p.tables e below P T (mkF m pc Ls (.int j :: .ref a :: st)) := by
  subst hp
  obtain ⟨vm0, k0, locs, b0, X, eT, hS, hk, hZ, hown, r⟩ := W
  exact k.by fun t q => X.aaload hx (by rw [eT]; exact A.1) (State.isArrayOf_alike hZ.alike A.2.1) hty A.2.2 hin hv (g := mkF m pc Ls (.int j :: .ref a :: st)) rfl rfl hd t q
theorem w_initO (W : Wk p l e R s m args below meth c Z EL own ws nw T h cells slots) (hx : p.tables.exec = Jvm.exec) {idx : Nat} (w1 : (Cond.methodLink own idx Lib.objectInit).before a0 Z = true) (w2 : (Cond.instanceMethod Lib.objectInit).before a0 Z = true) (w3 : (Cond.code Lib.objectInit ⟨#[0xb1]⟩ 1 none).before a0 Z = true) {a : Nat} (hsz : Ls.size = c.maxLocals) (hd : decode c.code pc = .ok (.invokespecial idx, 3)) (hf : 1 ≤ R.frames) (hW : (st.map fun v => v.category).sum + 12 ≤ R.locals) (hp : pc + 3 = pc')
    (k : ∀ T', Wk p l e R s m args below meth c Z EL own ws nw T' h cells slots → Gets p.tables e below P T' (mkF m pc' Ls st)) : Gets p.tables e below P T (mkF m pc Ls (.ref a :: st)) := by
  subst hp
  obtain ⟨vm0, k0, locs, b0, X, eT, hS, hk, hZ, hown, r⟩ := W
  obtain ⟨T', X', e', stp⟩ := initO X hx hZ hown w1 w2 w3 eT (g := mkF m pc Ls (.ref a :: st)) rfl hsz rfl hd hf (W := (st.map fun v => v.category).sum) (by show 2 * 0 + _ ≤ _; omega) hW
  exact (k T' ⟨vm0, k0, locs, b0, X', e', hS, hk, hZ, hown, r⟩).by stp
/-! steps that move the heap -/
theorem w_new (W : Wk p l e R s m args below meth c Z EL own ws nw T h cells slots) (hx : p.tables.exec = Jvm.exec) {C : String} {index n : Nat} (w : (Cond.classLink own index C).before a0 Z = true) (wi : (Cond.instantiable C n).before a0 Z = true) (wz : (Cond.initialized C).before a0 Z = true) (hd : decode c.code pc = .ok (.new index, 3)) (hc : cells + 1 ≤ R.cells) (hl : slots + n ≤ R.slots) (hp : pc + 3 = pc')
    (k : ∀ (T' : State) (h' : Heap) (b : Nat), b = h.size → Wk p l e R s m args below meth c Z EL own ws (b :: nw) T' h' (cells + 1) (slots + n) → Keep h h' [] → Exa Z h' b C → (∀ {O nm d : String} {ty : FieldType}, Laid Z a0 C O nm d → parseFieldDescriptor d = some ty → Fld Z h' b O nm d (defaultValue ty)) → Gets p.tables e below P T' (mkF m pc' Ls (.ref b :: st))) : Gets p.tables e below P T (mkF m pc Ls st) := by
  subst hp
  obtain ⟨vm0, k0, locs, b0, X, eT, hS, hk, hZ, hown, hE, hC, hF, hO, hK, n1, n2⟩ := W
  obtain ⟨T', h', X', e', E, A, D, -, stp⟩ := newO X hx hZ hown w wi wz eT (g := mkF m pc Ls st) rfl hd hc hl
  have hn : h.size < h'.size := A.lt
  have hs : s.heap.size ≤ h.size := hK.1
  refine (k T' h' h.size rfl ⟨vm0, k0, locs, b0, X', e', hS, Nat.le_trans hk E.1, hZ, hown, hE, hC.trans (CHr.ext E hC.1), hF, ⟨Nat.le_trans hO.1 E.1, fun a c q => E.2 a c (hO.2 a c q)⟩, hK.ext E, fun x hx => ?_, fun x hx => ?_⟩ ((Keep.refl h []).ext E) A D).by stp
  · obtain ⟨a, b, c⟩ := n1 x hx
    exact ⟨a, Nat.lt_of_lt_of_le b E.1, c.ext E hC.1⟩
  · rcases List.mem_cons.mp hx with rfl | hx
    · exact ⟨hs, hO.1, hn, Safe.ext E hC.1 (Safe.new (Nat.le_refl _))⟩
    · obtain ⟨a, b, c, d⟩ := n2 x hx
      exact ⟨a, b, Nat.lt_of_lt_of_le c E.1, d.ext E hC.1⟩
theorem w_newarr (W : Wk p l e R s m args below meth c Z EL own ws nw T h cells slots) (hx : p.tables.exec = Jvm.exec) {aty : ArrayType} (w : (Cond.arrayClass (newarray.typeOf aty)).before a0 Z = true) {n : Int32} (hd : decode c.code pc = .ok (.newarray aty, 2)) (hn : ¬ n < 0) {cap : Nat} (hcap : n.toNatClampNeg ≤ cap) (hb : cap * 8 ≤ 536870912) (hc : cells + 1 ≤ R.cells) (hl : slots + cap ≤ R.slots) (hf : fits (newarray.typeOf aty) (defaultValue (newarray.typeOf aty)) = true) (hp : pc + 2 = pc')
    (k : ∀ (T' : State) (h' : Heap) (b : Nat), b = h.size → Wk p l e R s m args below meth c Z EL own ws (b :: nw) T' h' (cells + 1) (slots + cap) → Keep h h' [] → Ary Z h' b (newarray.typeOf aty) (List.replicate n.toNatClampNeg (defaultValue (newarray.typeOf aty))) → Gets p.tables e below P T' (mkF m pc' Ls (.ref b :: st))) : Gets p.tables e below P T (mkF m pc Ls (.int n :: st)) := by
  subst hp
  obtain ⟨vm0, k0, locs, b0, X, eT, hS, hk, hZ, hown, hE, hC, hF, hO, hK, n1, n2⟩ := W
  obtain ⟨T', h', cA, X', e', E, A, stp⟩ := newP X hx hZ w eT (g := mkF m pc Ls (.int n :: st)) rfl hd rfl hn hcap hb hc hl
  have hn' : h.size < h'.size := A.lt
  have hs : s.heap.size ≤ h.size := hK.1
  refine (k T' h' h.size rfl ⟨vm0, k0, locs, b0, X', e', hS, Nat.le_trans hk E.1, hZ, hown, hE, hC.trans (CHr.ext E hC.1), hF, ⟨Nat.le_trans hO.1 E.1, fun a c q => E.2 a c (hO.2 a c q)⟩, hK.ext E, fun x hx => ?_, fun x hx => ?_⟩ ((Keep.refl h []).ext E) (Ary.made A hn hf)).by stp
  · obtain ⟨a, b, c⟩ := n1 x hx
    exact ⟨a, Nat.lt_of_lt_of_le b E.1, c.ext E hC.1⟩
  · rcases List.mem_cons.mp hx with rfl | hx
    · exact ⟨hs, hO.1, hn', Safe.ext E hC.1 (Safe.new (Nat.le_refl _))⟩
    · obtain ⟨a, b, c, d⟩ := n2 x hx
      exact ⟨a, b, Nat.lt_of_lt_of_le c E.1, d.ext E hC.1⟩
theorem Wk.wrote {vm0 : Vm} {k0 : Nat} {locs : List Loc} {b0 : Array Value} {T' : State} {h' : Heap} {a : Nat} {sl : Nat} {v : Value} (ha : a ∈ ws ++ nw) (WW : Wr h h' a sl v) (X' : Stand p l e R (s.setVm vm0) m args below meth c T' (locs ++ [⟨a, sl⟩]) cells slots) (e' : T'.heap = h')
    (r : s.Since vm0 k0 ∧ k0 ≤ h.size ∧ Z.Warmed39 vm0 ∧ vm0.findClass own = some m.cls ∧ EW Z b0 EL ∧ CHr Z EL s.vm s.heap vm0 h ∧ Fr Z.heap.size locs ∧ Ext Z.heap h ∧ Keep s.heap h ws ∧ (∀ x : Nat, x ∈ ws → Z.heap.size ≤ x ∧ x < h.size ∧ Safe Z EL vm0 h x) ∧ (∀ x : Nat, x ∈ nw → s.heap.size ≤ x ∧ Z.heap.size ≤ x ∧ x < h.size ∧ Safe Z EL vm0 h x)) :
    Wk p l e R s m args below meth c Z EL own ws nw T' h' cells slots := by
  obtain ⟨hS, hk, hZ, hown, hE, hC, hF, hO, hK, n1, n2⟩ := r
  have sz := WW.size
  have key : Z.heap.size ≤ a ∧ Safe Z EL vm0 h a ∧ (a ∈ ws ∨ s.heap.size ≤ a) := by
    rcases List.mem_append.mp ha with q | q
    · exact ⟨(n1 a q).1, (n1 a q).2.2, Or.inl q⟩
    · exact ⟨(n2 a q).2.1, (n2 a q).2.2.2, Or.inr (n2 a q).1⟩
  have K1 : Keep h h' [a] := Keep.of_wr WW
  refine ⟨vm0, k0, locs ++ [⟨a, sl⟩], b0, X', e', hS, by omega, hZ, hown, hE, hC.trans (CHr.wr WW key.2.1 hC.1), Fr.snoc X' hF key.1, ⟨by have := hO.1; omega, fun x cc q => K1.2.1 x cc (hO.2 x cc q) fun z => ?_⟩, hK.wr WW key.2.2, fun x hx => ?_, fun x hx => ?_⟩
  · cases List.mem_singleton.mp z
    have := (Array.getElem?_eq_some_iff.mp q).1
    omega
  · obtain ⟨q1, q2, q3⟩ := n1 x hx
    exact ⟨q1, by omega, Safe.wr WW key.2.1 hC.1 q3⟩
  · obtain ⟨q1, q2, q3, q4⟩ := n2 x hx
    exact ⟨q1, q2, by omega, Safe.wr WW key.2.1 hC.1 q4⟩
theorem w_put (W : Wk p l e R s m args below meth c Z EL own ws nw T h cells slots) (hx : p.tables.exec = Jvm.exec) {R0 O n d C : String} {index kk : Nat} {ty : FieldType} (w : (Cond.fieldLink own index R0 n d).before a0 Z = true) (via : Via Z R0 O n d) {a : Nat} {v old : Value} (F : Fld Z h a O n d old) (E : Exa Z h a C) (L : (Cond.lays C O n d).before a0 Z = true ∨ ((Cond.laysFinal C O n d).before a0 Z = true ∧ own = O ∧ meth.name = "<init>")) (wi : (Cond.instantiable C kk).before a0 Z = true)
    (hty : parseFieldDescriptor d = some ty) (hn : narrow ty v = v) (hf : fits ty v = true) (ha : a ∈ ws ++ nw) (hd : decode c.code pc = .ok (.putfield index, 3)) (hp : pc + 3 = pc')
    (k : ∀ T' h', Wk p l e R s m args below meth c Z EL own ws nw T' h' cells slots → Keep h h' [a] → Wr h h' a (Jvm.RoadKit.slotOf Z O n d) v → Fld Z h' a O n d v → Exa Z h' a C → Gets p.tables e below P T' (mkF m pc' Ls st)) : Gets p.tables e below P T (mkF m pc Ls (v :: .ref a :: st)) := by
  subst hp
  obtain ⟨vm0, k0, locs, b0, X, eT, r⟩ := W
  obtain ⟨T', h', X', e', WW, stp⟩ := putF X hx r.2.2.1 r.2.2.2.1 (host := "") (Or.inl w) via eT F E L wi hty hn hf (g := mkF m pc Ls (v :: .ref a :: st)) rfl rfl hd
  exact (k T' h' (Wk.wrote ha WW X' e' r) (Keep.of_wr WW) WW (F.same WW) (E.wr WW)).by stp
theorem w_putN (W : Wk p l e R s m args below meth c Z EL own ws nw T h cells slots) (hx : p.tables.exec = Jvm.exec) {R0 O n d C : String} {index kk : Nat} {ty : FieldType} (w : (Cond.fieldLink own index R0 n d).before a0 Z = true) (via : Via Z R0 O n d) {a : Nat} {v v' old : Value} (F : Fld Z h a O n d old) (E : Exa Z h a C) (L : (Cond.lays C O n d).before a0 Z = true ∨ ((Cond.laysFinal C O n d).before a0 Z = true ∧ own = O ∧ meth.name = "<init>")) (wi : (Cond.instantiable C kk).before a0 Z = true)
    (hty : parseFieldDescriptor d = some ty) (hn : narrow ty v = v') (hf : fits ty v' = true) (ha : a ∈ ws ++ nw) (hd : decode c.code pc = .ok (.putfield index, 3)) (hp : pc + 3 = pc')
    (k : ∀ T' h', Wk p l e R s m args below meth c Z EL own ws nw T' h' cells slots → Keep h h' [a] → Wr h h' a (Jvm.RoadKit.slotOf Z O n d) v' → Fld Z h' a O n d v' → Exa Z h' a C → Gets p.tables e below P T' (mkF m pc' Ls st)) : Gets p.tables e below P T (mkF m pc Ls (v :: .ref a :: st)) := by
  subst hp
  obtain ⟨vm0, k0, locs, b0, X, eT, r⟩ := W
  obtain ⟨T', h', X', e', WW, stp⟩ := putFN X hx r.2.2.1 r.2.2.2.1 w via eT F E L wi hty hn hf (g := mkF m pc Ls (v :: .ref a :: st)) rfl rfl hd
  exact (k T' h' (Wk.wrote ha WW X' e' r) (Keep.of_wr WW) WW (F.same WW) (E.wr WW)).by stp
theorem w_castore (W : Wk p l e R s m args below meth c Z EL own ws nw T h cells slots) (hx : p.tables.exec = Jvm.exec) {a : Nat} {vs : List Value} {j x : Int32} (F : Ary Z h a .char vs) (hj : ¬ j < 0) (hi : j.toNatClampNeg < vs.length) (ha : a ∈ ws ++ nw) {x' : Int32} (hq : nar .char x = x') (hd : decode c.code pc = .ok (.castore, 1)) (hp : pc + 1 = pc')
    (k : ∀ T' h', Wk p l e R s m args below meth c Z EL own ws nw T' h' cells slots → Keep h h' [a] → Ary Z h' a .char (vs.set j.toNatClampNeg (.int x')) → Gets p.tables e below P T' (mkF m pc' Ls st)) : Gets p.tables e below P T (mkF m pc Ls (.int x :: .int j :: .ref a :: st)) := by
  subst hp; subst hq
  obtain ⟨vm0, k0, locs, b0, X, eT, r⟩ := W
  obtain ⟨cl, A, e1, e2, e3⟩ := F
  obtain ⟨T', h', X', e', WW, stp⟩ := stC X hx r.2.2.1 eT A (j := j) (x := x) (fun q => q.elim hj fun q => by rw [size_of_list e1] at q; omega) (g := mkF m pc Ls (.int x :: .int j :: .ref a :: st)) rfl rfl hd
  exact (k T' h' (Wk.wrote ha WW X' e' r) (Keep.of_wr WW) (Ary.wrote A e1 e2 e3 (fits_nar_char x) WW)).by stp
theorem w_bastore (W : Wk p l e R s m args below meth c Z EL own ws nw T h cells slots) (hx : p.tables.exec = Jvm.exec) {a : Nat} {vs : List Value} {j x : Int32} (F : Ary Z h a .byte vs) (hj : ¬ j < 0) (hi : j.toNatClampNeg < vs.length) (ha : a ∈ ws ++ nw) {x' : Int32} (hq : x.toInt8.toInt32 = x') (hd : decode c.code pc = .ok (.bastore, 1)) (hp : pc + 1 = pc')
    (k : ∀ T' h', Wk p l e R s m args below meth c Z EL own ws nw T' h' cells slots → Keep h h' [a] → Ary Z h' a .byte (vs.set j.toNatClampNeg (.int x')) → Gets p.tables e below P T' (mkF m pc' Ls st)) : Gets p.tables e below P T (mkF m pc Ls (.int x :: .int j :: .ref a :: st)) := by
  subst hp; subst hq
  obtain ⟨vm0, k0, locs, b0, X, eT, r⟩ := W
  obtain ⟨cl, A, e1, e2, e3⟩ := F
  obtain ⟨T', h', X', e', WW, stp⟩ := stB X hx r.2.2.1 eT A (j := j) (x := x) (fun q => q.elim hj fun q => by rw [size_of_list e1] at q; omega) (g := mkF m pc Ls (.int x :: .int j :: .ref a :: st)) rfl rfl hd
  exact (k T' h' (Wk.wrote ha WW X' e' r) (Keep.of_wr WW) (Ary.wrote A e1 e2 e3 (fits_nar_byte x) WW)).by stp
theorem w_iastore (W : Wk p l e R s m args below meth c Z EL own ws nw T h cells slots) (hx : p.tables.exec = Jvm.exec) {a : Nat} {vs : List Value} {j x : Int32} (F : Ary Z h a .int vs) (hj : ¬ j < 0) (hi : j.toNatClampNeg < vs.length) (ha : a ∈ ws ++ nw) (hd : decode c.code pc = .ok (.iastore, 1)) (hp : pc + 1 = pc')
    (k : ∀ T' h', Wk p l e R s m args below meth c Z EL own ws nw T' h' cells slots → Keep h h' [a] → Ary Z h' a .int (vs.set j.toNatClampNeg (.int x)) → Gets p.tables e below P T' (mkF m pc' Ls st)) : Gets p.tables e below P T (mkF m pc Ls (.int x :: .int j :: .ref a :: st)) := by
  subst hp
  obtain ⟨vm0, k0, locs, b0, X, eT, r⟩ := W
  obtain ⟨cl, A, e1, e2, e3⟩ := F
  obtain ⟨T', h', X', e', WW, stp⟩ := stI X hx r.2.2.1 eT A (j := j) (x := x) (fun q => q.elim hj fun q => by rw [size_of_list e1] at q; omega) (g := mkF m pc Ls (.int x :: .int j :: .ref a :: st)) rfl rfl hd
  exact (k T' h' (Wk.wrote ha WW X' e' r) (Keep.of_wr WW) (Ary.wrote A e1 e2 e3 rfl WW)).by stp
/-! calls -/
theorem backC {y : MethodName} {bytes : ByteArray} {maxL : Nat} {ret : Option FieldType} {rm : Room} {len W : Nat} {as' : Array Value} {Q : Option Value → Heap → Prop} {vm0 : Vm} {wsc : List Addr}
    (hM : Con l Z EL y bytes maxL ret rm as' h wsc Q) (hZ : Z.Warmed39 vm0) (wc : (Cond.code y bytes maxL ret).before a0 Z = true) (wz : (Cond.initialized y.cls).before a0 Z = true) (hf : rm.frames + 1 ≤ R.frames) (hl : W + (maxL + 11) + rm.locals ≤ R.locals) {b0 : Array Value} (hEL : EW Z b0 EL) (H : CHv Z EL vm0 h) (hs : ∀ x : Nat, x ∈ wsc → x < h.size ∧ Safe Z EL vm0 h x) :
    BackS l R p e below (s.setVm vm0) args y len W (fun A a => a = as' ∧ A.U.heap = h ∧ A.cells + rm.cells ≤ R.cells ∧ A.slots + rm.slots ≤ R.slots)
      (fun A _ v B => ∃ L, (Q v B.U.heap ∧ Fr Z.heap.size L ∧ Keep h B.U.heap wsc ∧ Ext Z.heap B.U.heap) ∧ B.locs = A.locs ++ L ∧ B.cells = A.cells + rm.cells ∧ B.slots = A.slots + rm.slots ∧ CHr Z EL vm0 h B.U.vm B.U.heap) :=
  BackS.of_freeW (bytes := bytes) (maxL := maxL) (ret := ret) (E := fun _ first o t L k n => k = rm.cells ∧ n = rm.slots ∧ (∃ v, o = .returned v ∧ (Q v t.heap ∧ Fr Z.heap.size L ∧ Keep h t.heap wsc ∧ Ext Z.heap t.heap)) ∧ CHr Z EL first.vm first.heap t.vm t.heap) hM hf hl
    (fun m meth c A a Y hp => have hU : Z.Warmed39 A.U.vm := wtrans (s := s.setVm vm0) hZ Y.warmed
      ⟨by show (Cond.and _ .tt).before a A.U = true; rw [Cond.before_and, mv hU wc]; rfl, mv hU wc, mv hU wz, hp.2.2.1, hp.2.2.2⟩)
    (fun m meth c A a g mk Y hp => ⟨hp.1, wtrans (s := s.setVm vm0) hZ Y.warmed, hp.2.1, (CHv.at Y hZ hEL H).1, fun x hx => (CHv.at Y hZ hEL H).safe (hs x hx).1 (hs x hx).2⟩) (fun _ _ _ _ _ _ _ _ _ => trivial)
    (fun _ _ _ _ ⟨v, L, h1, h2, h3, h4⟩ => ⟨L, _, _, h4, rfl, rfl, ⟨v, h1, h2⟩, h3⟩)
    (fun m meth c A a g mk v t L k n Y hp _ _ ⟨e1, e2, ⟨v', e3, e4⟩, e5⟩ => by
      cases e3; subst e1 e2
      refine ⟨L, e4, rfl, rfl, rfl, (CHv.at Y hZ hEL H).trans ?_⟩
      rw [← hp.2.1]; exact e5)
theorem Wk.called {vm0 : Vm} {k0 : Nat} {locs L : List Loc} {b0 : Array Value} {T' : State} {h' : Heap} {wsc : List Addr} {n c' s' : Nat} (hw : ∀ x ∈ wsc, x ∈ ws ++ nw) (X' : Stand p l e R ((s.setVm vm0).setVm T'.vm) m args below meth c T' (locs ++ L) c' s') (e' : T'.heap = h') (h2 : (s.setVm vm0).Since T'.vm n) (hn : n ≤ h'.size) (hln : h.size ≤ n) (F : Fr Z.heap.size L) (K : Keep h h' wsc) (O' : Ext Z.heap h') (C' : CHr Z EL vm0 h T'.vm h')
    (r : s.Since vm0 k0 ∧ k0 ≤ h.size ∧ Z.Warmed39 vm0 ∧ vm0.findClass own = some m.cls ∧ EW Z b0 EL ∧ CHr Z EL s.vm s.heap vm0 h ∧ Fr Z.heap.size locs ∧ Ext Z.heap h ∧ Keep s.heap h ws ∧ (∀ x : Nat, x ∈ ws → Z.heap.size ≤ x ∧ x < h.size ∧ Safe Z EL vm0 h x) ∧ (∀ x : Nat, x ∈ nw → s.heap.size ≤ x ∧ Z.heap.size ≤ x ∧ x < h.size ∧ Safe Z EL vm0 h x)) :
    Wk p l e R s m args below meth c Z EL own ws nw T' h' c' s' := by
  obtain ⟨hS, hk, hZ, hown, hE, hC, hF, hO, hK, n1, n2⟩ := r
  have sz := K.1
  refine ⟨T'.vm, n, locs ++ L, b0, X', e', hS.trans h2 (by omega), hn, State.Warmed39.trans (t := s.setVm vm0) hZ h2.1, (h2.1.alike.findClass _ _).trans hown, hE, hC.trans C', Fr.app hF F, O', hK.trans K (fun x hx => ?_), fun x hx => ?_, fun x hx => ?_⟩
  · rcases List.mem_append.mp (hw x hx) with q | q
    · exact Or.inl q
    · exact Or.inr (n2 x q).1
  · obtain ⟨q1, q2, q3⟩ := n1 x hx
    exact ⟨q1, by omega, C'.safe q2 q3⟩
  · obtain ⟨q1, q2, q3, q4⟩ := n2 x hx
    exact ⟨q1, q2, by omega, C'.safe q3 q4⟩
theorem w_callS (W : Wk p l e R s m args below meth c Z EL own ws nw T h cells slots) (hx : p.tables.exec = Jvm.exec) {index : Nat} {y : MethodName} {bytes : ByteArray} {maxL : Nat} {ret : Option FieldType} {rm : Room} {Q : Option Value → Heap → Prop} {wsc : List Addr} (argsL : List Value)
    (w1 : (Cond.methodLink own index y).before a0 Z = true) (w2 : (Cond.static y).before a0 Z = true) (w3 : (Cond.initialized y.cls).before a0 Z = true) (w4 : (Cond.code y bytes maxL ret).before a0 Z = true) (hy : y.cls ≠ "java/lang/invoke/MethodHandle" ∧ y.cls ≠ "java/lang/invoke/VarHandle")
    (H : Con l Z EL y bytes maxL ret rm argsL.toArray h wsc Q) (hwc : ∀ x ∈ wsc, x ∈ ws ++ nw) (hsz : Ls.size = c.maxLocals) (hlen : ∀ sig, parseMethodDescriptor y.desc = some sig → argsL.length = sig.parameters.length) {stk : List Value} (hstk : stk = argsL.reverse ++ st) (hd : decode c.code pc = .ok (.invokestatic index, 3))
    (hf : rm.frames + 1 ≤ R.frames) (hl : (st.map fun v => v.category).sum + (maxL + 11) + rm.locals ≤ R.locals) (hc : cells + rm.cells ≤ R.cells) (hs : slots + rm.slots ≤ R.slots) (hp : pc + 3 = pc')
    (k : ∀ v T' h', Wk p l e R s m args below meth c Z EL own ws nw T' h' (cells + rm.cells) (slots + rm.slots) → Keep h h' wsc → Q v h' → Gets p.tables e below P T' (mkF m pc' Ls (v.toList ++ st))) : Gets p.tables e below P T (mkF m pc Ls stk) := by
  subst hp
  obtain ⟨vm0, k0, locs, b0, X, eT, r⟩ := W
  obtain ⟨hS, hk, hZ, hown, hE, hC, hF, hO, hK, n1, n2⟩ := id r
  have sf : ∀ x : Nat, x ∈ wsc → x < h.size ∧ Safe Z EL vm0 h x := fun x hx => by
    rcases List.mem_append.mp (hwc x hx) with q | q
    · exact (n1 x q).2
    · exact (n2 x q).2.2
  obtain ⟨v, vm1, ⟨T', L', c', s'⟩, -, X', hS2, hg2, ⟨L, ⟨q1, q2, q3, q4⟩, l1, l2, l3, C'⟩, stp⟩ := callSS X hx (y := y) hown (mv (s := s.setVm vm0) hZ w1) (mv (s := s.setVm vm0) hZ w2) (mv (s := s.setVm vm0) hZ w3) (mv (s := s.setVm vm0) hZ w4) hy (backC (W := (st.map fun v => v.category).sum) H hZ w4 w3 hf hl hE hC.1 sf) (g := mkF m pc Ls stk) rfl hsz (argsL := argsL) (rest := st) hlen hstk (by show 2 * 0 + _ ≤ _; omega) hd (fun _ _ => ⟨rfl, eT, hc, hs⟩)
  dsimp only [Pt.U, Pt.locs, Pt.cells, Pt.slots] at X' hS2 hg2 q1 q3 q4 l1 l2 l3 C' stp
  subst l1 l2 l3
  exact (k v T' _ (Wk.called (h' := T'.heap) hwc X' rfl hS2 (Nat.le_refl _) (by rw [← eT]; exact hg2) q2 q3 q4 C' r) q3 q1).by fun t q => stp.trans q
theorem w_special (W : Wk p l e R s m args below meth c Z EL own ws nw T h cells slots) (hx : p.tables.exec = Jvm.exec) {index : Nat} {y : MethodName} {bytes : ByteArray} {maxL : Nat} {rm : Room} {Q : Option Value → Heap → Prop} {wsc : List Addr} {a : Nat} (argsL : List Value) (hy1 : y.name = "<init>")
    (w1 : (Cond.methodLink own index y).before a0 Z = true) (w2 : (Cond.instanceMethod y).before a0 Z = true) (w3 : (Cond.initialized y.cls).before a0 Z = true) (w4 : (Cond.code y bytes maxL none).before a0 Z = true) (hy : y.cls ≠ "java/lang/invoke/MethodHandle" ∧ y.cls ≠ "java/lang/invoke/VarHandle")
    (H : Con l Z EL y bytes maxL none rm (.ref a :: argsL).toArray h wsc Q) (hwc : ∀ x ∈ wsc, x ∈ ws ++ nw) (hsz : Ls.size = c.maxLocals) (hlen : ∀ sig, parseMethodDescriptor y.desc = some sig → argsL.length = sig.parameters.length) {stk : List Value} (hstk : stk = argsL.reverse ++ .ref a :: st) (hd : decode c.code pc = .ok (.invokespecial index, 3))
    (hf : rm.frames + 1 ≤ R.frames) (hl : (st.map fun v => v.category).sum + (maxL + 11) + rm.locals ≤ R.locals) (hc : cells + rm.cells ≤ R.cells) (hs : slots + rm.slots ≤ R.slots) (hp : pc + 3 = pc')
    (k : ∀ v T' h', Wk p l e R s m args below meth c Z EL own ws nw T' h' (cells + rm.cells) (slots + rm.slots) → Keep h h' wsc → Q v h' → Gets p.tables e below P T' (mkF m pc' Ls (v.toList ++ st))) : Gets p.tables e below P T (mkF m pc Ls stk) := by
  subst hp
  obtain ⟨vm0, k0, locs, b0, X, eT, r⟩ := W
  obtain ⟨hS, hk, hZ, hown, hE, hC, hF, hO, hK, n1, n2⟩ := id r
  have sf : ∀ x : Nat, x ∈ wsc → x < h.size ∧ Safe Z EL vm0 h x := fun x hx => by
    rcases List.mem_append.mp (hwc x hx) with q | q
    · exact (n1 x q).2
    · exact (n2 x q).2.2
  obtain ⟨v, vm1, ⟨T', L', c', s'⟩, -, X', hS2, hg2, ⟨L, ⟨q1, q2, q3, q4⟩, l1, l2, l3, C'⟩, stp⟩ := X.specialBackS hx (y := y) hy1 hown (mv (s := s.setVm vm0) hZ w1) (mv (s := s.setVm vm0) hZ w2) (mv (s := s.setVm vm0) hZ w4) hy (backC (W := (st.map fun v => v.category).sum) H hZ w4 w3 hf hl hE hC.1 sf) (g := mkF m pc Ls stk) rfl hsz (Steps.refl _) (a := a) (argsL := argsL) (rest := st) hlen hstk (by show 2 * 0 + _ ≤ _; omega) hd (fun _ _ => ⟨rfl, eT, hc, hs⟩)
  dsimp only [Pt.U, Pt.locs, Pt.cells, Pt.slots] at X' hS2 hg2 q1 q3 q4 l1 l2 l3 C' stp
  subst l1 l2 l3
  exact (k v T' _ (Wk.called (h' := T'.heap) hwc X' rfl hS2 (Nat.le_refl _) (by rw [← eT]; exact hg2) q2 q3 q4 C' r) q3 q1).by fun t q => stp.trans q
theorem w_virtual (W : Wk p l e R s m args below meth c Z EL own ws nw T h cells slots) (hx : p.tables.exec = Jvm.exec) {index : Nat} {y z : MethodName} {C : String} {bytes : ByteArray} {maxL : Nat} {ret : Option FieldType} {rm : Room} {Q : Option Value → Heap → Prop} {wsc : List Addr} {a : Nat} (argsL : List Value)
    (w1 : (Cond.methodLink own index y).before a0 Z = true) (w2 : (Cond.declares y).before a0 Z = true) (hnf : ∀ {U : State}, Z.Warmed39 U.vm → NotFace U y) (w3 : (Cond.selects C y z).before a0 Z = true) (w5 : (Cond.instanceMethod z).before a0 Z = true) (w6 : (Cond.initialized z.cls).before a0 Z = true) (w4 : (Cond.code z bytes maxL ret).before a0 Z = true) (hy : y.cls ≠ "java/lang/invoke/MethodHandle" ∧ y.cls ≠ "java/lang/invoke/VarHandle")
    (H : Con l Z EL z bytes maxL ret rm (.ref a :: argsL).toArray h wsc Q) (E : Exa Z h a C) (hwc : ∀ x ∈ wsc, x ∈ ws ++ nw) (hsz : Ls.size = c.maxLocals) (hlen : ∀ sig, parseMethodDescriptor y.desc = some sig → argsL.length = sig.parameters.length) {stk : List Value} (hstk : stk = argsL.reverse ++ .ref a :: st) (hd : decode c.code pc = .ok (.invokevirtual index, 3))
    (hf : rm.frames + 1 ≤ R.frames) (hl : (st.map fun v => v.category).sum + (maxL + 11) + rm.locals ≤ R.locals) (hc : cells + rm.cells ≤ R.cells) (hs : slots + rm.slots ≤ R.slots) (hp : pc + 3 = pc')
    (k : ∀ v T' h', Wk p l e R s m args below meth c Z EL own ws nw T' h' (cells + rm.cells) (slots + rm.slots) → Keep h h' wsc → Q v h' → Gets p.tables e below P T' (mkF m pc' Ls (v.toList ++ st))) : Gets p.tables e below P T (mkF m pc Ls stk) := by
  subst hp
  obtain ⟨vm0, k0, locs, b0, X, eT, r⟩ := W
  obtain ⟨hS, hk, hZ, hown, hE, hC, hF, hO, hK, n1, n2⟩ := id r
  have sf : ∀ x : Nat, x ∈ wsc → x < h.size ∧ Safe Z EL vm0 h x := fun x hx => by
    rcases List.mem_append.mp (hwc x hx) with q | q
    · exact (n1 x q).2
    · exact (n2 x q).2.2
  obtain ⟨cq, kq, qa, qb, qc⟩ := isOf (s := s.setVm vm0) hZ eT E
  obtain ⟨v, vm1, ⟨T', L', c', s'⟩, -, X', hS2, hg2, ⟨L, ⟨q1, q2, q3, q4⟩, l1, l2, l3, C'⟩, stp⟩ := X.virtualBackS hx (y := y) (z := z) hown (mv (s := s.setVm vm0) hZ w1) (mv (s := s.setVm vm0) hZ w2) (hnf (U := s.setVm vm0) hZ) (mv (s := s.setVm vm0) hZ w3) (mv (s := s.setVm vm0) hZ w5) hy (backC (W := (st.map fun v => v.category).sum) H hZ w4 w6 hf hl hE hC.1 sf) qa qc (g := mkF m pc Ls stk) rfl hsz (Steps.refl _) (argsL := argsL) (rest := st) hlen hstk (by show 2 * 0 + _ ≤ _; omega) hd (fun _ _ => ⟨rfl, eT, hc, hs⟩)
  dsimp only [Pt.U, Pt.locs, Pt.cells, Pt.slots] at X' hS2 hg2 q1 q3 q4 l1 l2 l3 C' stp
  subst l1 l2 l3
  exact (k v T' _ (Wk.called (h' := T'.heap) hwc X' rfl hS2 (Nat.le_refl _) (by rw [← eT]; exact hg2) q2 q3 q4 C' r) q3 q1).by fun t q => stp.trans q
theorem w_virtualUp (W : Wk p l e R s m args below meth c Z EL own ws nw T h cells slots) (hx : p.tables.exec = Jvm.exec) {index : Nat} {y z : MethodName} {C owner : String} {bytes : ByteArray} {maxL : Nat} {ret : Option FieldType} {rm : Room} {Q : Option Value → Heap → Prop} {wsc : List Addr} {a : Nat} (argsL : List Value)
    (w1 : (Cond.methodLink own index y).before a0 Z = true) (w7 : (Cond.sameMethod y.cls owner y.name y.desc).before a0 Z = true) (w2 : (Cond.declares ⟨owner, y.name, y.desc⟩).before a0 Z = true) (w3 : (Cond.selects C y z).before a0 Z = true) (w5 : (Cond.instanceMethod z).before a0 Z = true) (w6 : (Cond.initialized z.cls).before a0 Z = true) (w4 : (Cond.code z bytes maxL ret).before a0 Z = true) (hy : owner ≠ "java/lang/invoke/MethodHandle" ∧ owner ≠ "java/lang/invoke/VarHandle")
    (H : Con l Z EL z bytes maxL ret rm (.ref a :: argsL).toArray h wsc Q) (E : Exa Z h a C) (hwc : ∀ x ∈ wsc, x ∈ ws ++ nw) (hsz : Ls.size = c.maxLocals) (hlen : ∀ sig, parseMethodDescriptor y.desc = some sig → argsL.length = sig.parameters.length) {stk : List Value} (hstk : stk = argsL.reverse ++ .ref a :: st) (hd : decode c.code pc = .ok (.invokevirtual index, 3))
    (hf : rm.frames + 1 ≤ R.frames) (hl : (st.map fun v => v.category).sum + (maxL + 11) + rm.locals ≤ R.locals) (hc : cells + rm.cells ≤ R.cells) (hs : slots + rm.slots ≤ R.slots) (hp : pc + 3 = pc')
    (k : ∀ v T' h', Wk p l e R s m args below meth c Z EL own ws nw T' h' (cells + rm.cells) (slots + rm.slots) → Keep h h' wsc → Q v h' → Gets p.tables e below P T' (mkF m pc' Ls (v.toList ++ st))) : Gets p.tables e below P T (mkF m pc Ls stk) := by
  subst hp
  obtain ⟨vm0, k0, locs, b0, X, eT, r⟩ := W
  obtain ⟨hS, hk, hZ, hown, hE, hC, hF, hO, hK, n1, n2⟩ := id r
  have sf : ∀ x : Nat, x ∈ wsc → x < h.size ∧ Safe Z EL vm0 h x := fun x hx => by
    rcases List.mem_append.mp (hwc x hx) with q | q
    · exact (n1 x q).2
    · exact (n2 x q).2.2
  obtain ⟨cq, kq, qa, qb, qc⟩ := isOf (s := s.setVm vm0) hZ eT E
  obtain ⟨v, vm1, ⟨T', L', c', s'⟩, -, X', hS2, hg2, ⟨L, ⟨q1, q2, q3, q4⟩, l1, l2, l3, C'⟩, stp⟩ := X.virtualBackUpS hx (x := y) (y := z) hown (mv (s := s.setVm vm0) hZ w1) (mv (s := s.setVm vm0) hZ w7) (mv (s := s.setVm vm0) hZ w2) hy (mv (s := s.setVm vm0) hZ w3) (mv (s := s.setVm vm0) hZ w5) (backC (W := (st.map fun v => v.category).sum) H hZ w4 w6 hf hl hE hC.1 sf) qa qc (g := mkF m pc Ls stk) rfl hsz (Steps.refl _) (argsL := argsL) (rest := st) hlen hstk (by show 2 * 0 + _ ≤ _; omega) hd (fun _ _ => ⟨rfl, eT, hc, hs⟩)
  dsimp only [Pt.U, Pt.locs, Pt.cells, Pt.slots] at X' hS2 hg2 q1 q3 q4 l1 l2 l3 C' stp
  subst l1 l2 l3
  exact (k v T' _ (Wk.called (h' := T'.heap) hwc X' rfl hS2 (Nat.le_refl _) (by rw [← eT]; exact hg2) q2 q3 q4 C' r) q3 q1).by fun t q => stp.trans q
theorem nfS {y z : MethodName} {C : String} (w : (Cond.selects C y y).before a0 Z = true) {U : State} (hZ : Z.Warmed39 U.vm) : NotFace U y := notFace_of_selects (args := #[]) (mv hZ w)
theorem w_iface (W : Wk p l e R s m args below meth c Z EL own ws nw T h cells slots) (hx : p.tables.exec = Jvm.exec) {index count : Nat} {y z : MethodName} {C : String} {bytes : ByteArray} {maxL : Nat} {ret : Option FieldType} {rm : Room} {Q : Option Value → Heap → Prop} {wsc : List Addr} {a : Nat} (argsL : List Value)
    (w1 : (Cond.methodLink own index y).before a0 Z = true) (w2 : (Cond.declares y).before a0 Z = true) (w7 : (Cond.interfaceMethod y.cls y.cls y.name y.desc).before a0 Z = true) (w3 : (Cond.selects C y z).before a0 Z = true) (w5 : (Cond.instanceMethod z).before a0 Z = true) (w8 : (Cond.publicMethod z).before a0 Z = true) (w9 : (Cond.unhidden C y.name y.desc).before a0 Z = true) (w10 : (Cond.castable C y.cls).before a0 Z = true) (w6 : (Cond.initialized z.cls).before a0 Z = true) (w4 : (Cond.code z bytes maxL ret).before a0 Z = true) (hy : y.cls ≠ "java/lang/invoke/MethodHandle" ∧ y.cls ≠ "java/lang/invoke/VarHandle")
    (H : Con l Z EL z bytes maxL ret rm (.ref a :: argsL).toArray h wsc Q) (E : Exa Z h a C) (hwc : ∀ x ∈ wsc, x ∈ ws ++ nw) (hsz : Ls.size = c.maxLocals) (hlen : ∀ sig, parseMethodDescriptor y.desc = some sig → argsL.length = sig.parameters.length) {stk : List Value} (hstk : stk = argsL.reverse ++ .ref a :: st) (hd : decode c.code pc = .ok (.invokeinterface index count, 5))
    (hf : rm.frames + 1 ≤ R.frames) (hl : (st.map fun v => v.category).sum + (maxL + 11) + rm.locals ≤ R.locals) (hc : cells + rm.cells ≤ R.cells) (hs : slots + rm.slots ≤ R.slots) (hp : pc + 5 = pc')
    (k : ∀ v T' h', Wk p l e R s m args below meth c Z EL own ws nw T' h' (cells + rm.cells) (slots + rm.slots) → Keep h h' wsc → Q v h' → Gets p.tables e below P T' (mkF m pc' Ls (v.toList ++ st))) : Gets p.tables e below P T (mkF m pc Ls stk) := by
  subst hp
  obtain ⟨vm0, k0, locs, b0, X, eT, r⟩ := W
  obtain ⟨hS, hk, hZ, hown, hE, hC, hF, hO, hK, n1, n2⟩ := id r
  have sf : ∀ x : Nat, x ∈ wsc → x < h.size ∧ Safe Z EL vm0 h x := fun x hx => by
    rcases List.mem_append.mp (hwc x hx) with q | q
    · exact (n1 x q).2
    · exact (n2 x q).2.2
  obtain ⟨cq, kq, qa, qb, qc⟩ := isOf (s := s.setVm vm0) hZ eT E
  obtain ⟨v, vm1, ⟨T', L', c', s'⟩, -, X', hS2, hg2, ⟨L, ⟨q1, q2, q3, q4⟩, l1, l2, l3, C'⟩, stp⟩ := X.interfaceBackS hx (xi := y) (y := z) hown (mv (s := s.setVm vm0) hZ w1) (mv (s := s.setVm vm0) hZ w2) (mv (s := s.setVm vm0) hZ w7 (by simp [Cond.onTables, Cond.keepsFace, Cond.keeps, Cond.steady, Cond.faceAtom, hy.1, hy.2])) (mv (s := s.setVm vm0) hZ w3) (mv (s := s.setVm vm0) hZ w5) (mv (s := s.setVm vm0) hZ w8) (mv (s := s.setVm vm0) hZ w9) (mv (s := s.setVm vm0) hZ w10) hy (backC (W := (st.map fun v => v.category).sum) H hZ w4 w6 hf hl hE hC.1 sf) qa qb qc (g := mkF m pc Ls stk) rfl hsz (Steps.refl _) (argsL := argsL) (rest := st) hlen hstk (by show 2 * 0 + _ ≤ _; omega) hd (fun _ _ => ⟨rfl, eT, hc, hs⟩)
  dsimp only [Pt.U, Pt.locs, Pt.cells, Pt.slots] at X' hS2 hg2 q1 q3 q4 l1 l2 l3 C' stp
  subst l1 l2 l3
  exact (k v T' _ (Wk.called (h' := T'.heap) hwc X' rfl hS2 (Nat.le_refl _) (by rw [← eT]; exact hg2) q2 q3 q4 C' r) q3 q1).by fun t q => stp.trans q
/-! String constants -/
theorem w_ldcS (W : Wk p l e R s m args below meth c Z EL own ws nw T h cells slots) (hx : p.tables.exec = Jvm.exec) {index : Nat} {text : String} (w : (Cond.stringLink own index text).before a0 Z = true) (wS : ∀ a ∈ Bundle.stringAtoms, a.before a0 Z = true) (hmem : (own, index) ∈ EL) {vs : List Value} {z : Int32} (ht : (∀ c ∈ text.toList, c.toNat < 256) ∧ text.toList.map (fun c => Value.int (Jvm.Lit.byteI c.toNat.toUInt16)) = vs) (hz : ¬ z < 0) (hzl : z.toNatClampNeg = vs.length)
    (hd : decode c.code pc = .ok (.ldc index, 2)) (n : Nat) (hn : 4 * text.toList.length ≤ n) (hbig : n ≤ 536870912) (hc : cells + 2 ≤ R.cells) (hl : slots + (n + 4) ≤ R.slots) (hp : pc + 2 = pc')
    (k : ∀ (T' : State) (h' : Heap) (a b : Nat), Wk p l e R s m args below meth c Z EL own ws nw T' h' (cells + 2) (slots + (n + 4)) → Keep h h' [] → Exa Z h' a "java/lang/String" → Fld Z h' a "java/lang/String" "coder" "B" (.int 0) → Fld Z h' a "java/lang/String" "value" "[B" (.ref b) → Ary Z h' b .byte vs → (∀ x ∈ ws ++ nw, x ≠ a ∧ x ≠ b) → Gets p.tables e below P T' (mkF m pc' Ls (.ref a :: st))) : Gets p.tables e below P T (mkF m pc Ls st) := by
  subst hp
  obtain ⟨vm0, k0, locs, b0, X, eT, hS, hk, hZ, hown, hE, hC, hF, hO, hK, n1, n2⟩ := W
  obtain ⟨a, T', h', k1, b, cb, X', e', E, hS2, hk2, hZ2, hown2, A, F1, F2, V, la, lb, C', -, hne, stp⟩ := ldcCH X hx hZ hown w wS eT hS hk hE hmem hC.1 ht hz hzl (g := mkF m pc Ls st) rfl hd hn hbig hc hl
  have sz := E.1
  have N1 : ∀ x : Nat, x ∈ ws → Z.heap.size ≤ x ∧ x < h'.size ∧ Safe Z EL T'.vm h' x := fun x hx => by
    obtain ⟨q1, q2, q3⟩ := n1 x hx
    exact ⟨q1, by omega, C'.safe q2 q3⟩
  have N2 : ∀ x : Nat, x ∈ nw → s.heap.size ≤ x ∧ Z.heap.size ≤ x ∧ x < h'.size ∧ Safe Z EL T'.vm h' x := fun x hx => by
    obtain ⟨q1, q2, q3, q4⟩ := n2 x hx
    exact ⟨q1, q2, by omega, C'.safe q3 q4⟩
  refine (k T' h' a b ⟨T'.vm, k1, locs, b0, X', e', hS2, hk2, hZ2, hown2, hE, hC.trans C', hF, ⟨Nat.le_trans hO.1 E.1, fun x cc q => E.2 x cc (hO.2 x cc q)⟩, hK.ext E, N1, N2⟩ ((Keep.refl h []).ext E) A F1 F2 (Ary.of_arv V hzl) fun x hx => ?_).by stp
  rcases List.mem_append.mp hx with q | q
  · exact hne x (N1 x q).2.2
  · exact hne x (N2 x q).2.2.2
theorem w_ldcO (W : Wk p l e R s m args below meth c Z EL own ws nw T h cells slots) (hx : p.tables.exec = Jvm.exec) {index : Nat} {text : String} (w : (Cond.stringLink own index text).before a0 Z = true) (wS : ∀ a ∈ Bundle.stringAtoms, a.before a0 Z = true)
    (hd : decode c.code pc = .ok (.ldc index, 2)) (n : Nat) (hn : 4 * text.toList.length ≤ n) (hbig : n ≤ 536870912) (hc : cells + 2 ≤ R.cells) (hl : slots + (n + 4) ≤ R.slots) (hp : pc + 2 = pc')
    (k : ∀ (T' : State) (h' : Heap) (a : Nat), Wk p l e R s m args below meth c Z EL own ws nw T' h' (cells + 2) (slots + (n + 4)) → Keep h h' [] → Gets p.tables e below P T' (mkF m pc' Ls (.ref a :: st))) : Gets p.tables e below P T (mkF m pc Ls st) := by
  subst hp
  obtain ⟨vm0, k0, locs, b0, X, eT, hS, hk, hZ, hown, hE, hC, hF, hO, hK, n1, n2⟩ := W
  obtain ⟨a, T', h', k1, X', e', E, hS2, hk2, hZ2, hown2, C', -, stp⟩ := ldcOH X hx hZ hown w wS eT hS hk hE hC.1 (g := mkF m pc Ls st) rfl hd hn hbig hc hl
  have sz := E.1
  refine (k T' h' a ⟨T'.vm, k1, locs, b0, X', e', hS2, hk2, hZ2, hown2, hE, hC.trans C', hF, ⟨Nat.le_trans hO.1 E.1, fun x cc q => E.2 x cc (hO.2 x cc q)⟩, hK.ext E, fun x hx => ?_, fun x hx => ?_⟩ ((Keep.refl h []).ext E)).by stp
  · obtain ⟨q1, q2, q3⟩ := n1 x hx
    exact ⟨q1, by omega, C'.safe q2 q3⟩
  · obtain ⟨q1, q2, q3, q4⟩ := n2 x hx
    exact ⟨q1, q2, by omega, C'.safe q3 q4⟩
end OwnWalk
section OwnPure
variable {p : Program} {l : Launch} {e : Env} {R : Room} {s : State} {m : MethodId} {args : Array Value} {below : List Frame} {meth : Method} {c : Code} {T : State} {Z : State} {a0 : Array Value} {h : Heap} {EL : List (String × Nat)} {own : String} {cells slots : Nat} {ws nw : List Addr} {P : Outcome → State → Prop} {pc pc' : Nat} {Ls : Array Slot} {st : List Value}
/-- it returns r and leaves the heap as it was -/
def pureQ (r : Option Value) (h : Heap) : Option Value → Heap → Prop := fun v h' => v = r ∧ h' = h
theorem w_callSp (W : Wk p l e R s m args below meth c Z EL own ws nw T h cells slots) (hx : p.tables.exec = Jvm.exec) {index : Nat} {y : MethodName} {bytes : ByteArray} {maxL : Nat} {ret : Option FieldType} {rm : Room} {r : Option Value} (argsL : List Value)
    (w1 : (Cond.methodLink own index y).before a0 Z = true) (w2 : (Cond.static y).before a0 Z = true) (w3 : (Cond.initialized y.cls).before a0 Z = true) (w4 : (Cond.code y bytes maxL ret).before a0 Z = true) (hy : y.cls ≠ "java/lang/invoke/MethodHandle" ∧ y.cls ≠ "java/lang/invoke/VarHandle")
    (H : Con l Z EL y bytes maxL ret rm argsL.toArray h [] (pureQ r h)) (hsz : Ls.size = c.maxLocals) (hlen : ∀ sig, parseMethodDescriptor y.desc = some sig → argsL.length = sig.parameters.length) {stk : List Value} (hstk : stk = argsL.reverse ++ st) (hd : decode c.code pc = .ok (.invokestatic index, 3))
    (hf : rm.frames + 1 ≤ R.frames) (hl : (st.map fun v => v.category).sum + (maxL + 11) + rm.locals ≤ R.locals) (hc : rm.cells = 0) (hs : rm.slots = 0) (hc' : cells ≤ R.cells) (hs' : slots ≤ R.slots) (hp : pc + 3 = pc')
    (k : ∀ T', Wk p l e R s m args below meth c Z EL own ws nw T' h cells slots → Gets p.tables e below P T' (mkF m pc' Ls (r.toList ++ st))) : Gets p.tables e below P T (mkF m pc Ls stk) :=
  w_callS W hx argsL w1 w2 w3 w4 hy H all0 hsz hlen hstk hd hf hl (by rw [hc]; exact hc') (by rw [hs]; exact hs') hp fun v T' h' W' K q => by
    obtain ⟨e1, e2⟩ := q
    subst e1; rw [e2] at W'; rw [hc, hs] at W'; exact k T' W'
theorem w_virtualp (W : Wk p l e R s m args below meth c Z EL own ws nw T h cells slots) (hx : p.tables.exec = Jvm.exec) {index : Nat} {y z : MethodName} {C : String} {bytes : ByteArray} {maxL : Nat} {ret : Option FieldType} {rm : Room} {r : Option Value} {a : Nat} (argsL : List Value)
    (w1 : (Cond.methodLink own index y).before a0 Z = true) (w2 : (Cond.declares y).before a0 Z = true) (hnf : ∀ {U : State}, Z.Warmed39 U.vm → NotFace U y) (w3 : (Cond.selects C y z).before a0 Z = true) (w5 : (Cond.instanceMethod z).before a0 Z = true) (w6 : (Cond.initialized z.cls).before a0 Z = true) (w4 : (Cond.code z bytes maxL ret).before a0 Z = true) (hy : y.cls ≠ "java/lang/invoke/MethodHandle" ∧ y.cls ≠ "java/lang/invoke/VarHandle")
    (H : Con l Z EL z bytes maxL ret rm (.ref a :: argsL).toArray h [] (pureQ r h)) (E : Exa Z h a C) (hsz : Ls.size = c.maxLocals) (hlen : ∀ sig, parseMethodDescriptor y.desc = some sig → argsL.length = sig.parameters.length) {stk : List Value} (hstk : stk = argsL.reverse ++ .ref a :: st) (hd : decode c.code pc = .ok (.invokevirtual index, 3))
    (hf : rm.frames + 1 ≤ R.frames) (hl : (st.map fun v => v.category).sum + (maxL + 11) + rm.locals ≤ R.locals) (hc : rm.cells = 0) (hs : rm.slots = 0) (hc' : cells ≤ R.cells) (hs' : slots ≤ R.slots) (hp : pc + 3 = pc')
    (k : ∀ T', Wk p l e R s m args below meth c Z EL own ws nw T' h cells slots → Gets p.tables e below P T' (mkF m pc' Ls (r.toList ++ st))) : Gets p.tables e below P T (mkF m pc Ls stk) :=
  w_virtual W hx argsL w1 w2 hnf w3 w5 w6 w4 hy H E all0 hsz hlen hstk hd hf hl (by rw [hc]; exact hc') (by rw [hs]; exact hs') hp fun v T' h' W' K q => by
    obtain ⟨e1, e2⟩ := q
    subst e1; rw [e2] at W'; rw [hc, hs] at W'; exact k T' W'
theorem w_virtualUpp (W : Wk p l e R s m args below meth c Z EL own ws nw T h cells slots) (hx : p.tables.exec = Jvm.exec) {index : Nat} {y z : MethodName} {C owner : String} {bytes : ByteArray} {maxL : Nat} {ret : Option FieldType} {rm : Room} {r : Option Value} {a : Nat} (argsL : List Value)
    (w1 : (Cond.methodLink own index y).before a0 Z = true) (w7 : (Cond.sameMethod y.cls owner y.name y.desc).before a0 Z = true) (w2 : (Cond.declares ⟨owner, y.name, y.desc⟩).before a0 Z = true) (w3 : (Cond.selects C y z).before a0 Z = true) (w5 : (Cond.instanceMethod z).before a0 Z = true) (w6 : (Cond.initialized z.cls).before a0 Z = true) (w4 : (Cond.code z bytes maxL ret).before a0 Z = true) (hy : owner ≠ "java/lang/invoke/MethodHandle" ∧ owner ≠ "java/lang/invoke/VarHandle")
    (H : Con l Z EL z bytes maxL ret rm (.ref a :: argsL).toArray h [] (pureQ r h)) (E : Exa Z h a C) (hsz : Ls.size = c.maxLocals) (hlen : ∀ sig, parseMethodDescriptor y.desc = some sig → argsL.length = sig.parameters.length) {stk : List Value} (hstk : stk = argsL.reverse ++ .ref a :: st) (hd : decode c.code pc = .ok (.invokevirtual index, 3))
    (hf : rm.frames + 1 ≤ R.frames) (hl : (st.map fun v => v.category).sum + (maxL + 11) + rm.locals ≤ R.locals) (hc : rm.cells = 0) (hs : rm.slots = 0) (hc' : cells ≤ R.cells) (hs' : slots ≤ R.slots) (hp : pc + 3 = pc')
    (k : ∀ T', Wk p l e R s m args below meth c Z EL own ws nw T' h cells slots → Gets p.tables e below P T' (mkF m pc' Ls (r.toList ++ st))) : Gets p.tables e below P T (mkF m pc Ls stk) :=
  w_virtualUp W hx argsL w1 w7 w2 w3 w5 w6 w4 hy H E all0 hsz hlen hstk hd hf hl (by rw [hc]; exact hc') (by rw [hs]; exact hs') hp fun v T' h' W' K q => by
    obtain ⟨e1, e2⟩ := q
    subst e1; rw [e2] at W'; rw [hc, hs] at W'; exact k T' W'
theorem w_ifacep (W : Wk p l e R s m args below meth c Z EL own ws nw T h cells slots) (hx : p.tables.exec = Jvm.exec) {index count : Nat} {y z : MethodName} {C : String} {bytes : ByteArray} {maxL : Nat} {ret : Option FieldType} {rm : Room} {r : Option Value} {a : Nat} (argsL : List Value)
    (w1 : (Cond.methodLink own index y).before a0 Z = true) (w2 : (Cond.declares y).before a0 Z = true) (w7 : (Cond.interfaceMethod y.cls y.cls y.name y.desc).before a0 Z = true) (w3 : (Cond.selects C y z).before a0 Z = true) (w5 : (Cond.instanceMethod z).before a0 Z = true) (w8 : (Cond.publicMethod z).before a0 Z = true) (w9 : (Cond.unhidden C y.name y.desc).before a0 Z = true) (w10 : (Cond.castable C y.cls).before a0 Z = true) (w6 : (Cond.initialized z.cls).before a0 Z = true) (w4 : (Cond.code z bytes maxL ret).before a0 Z = true) (hy : y.cls ≠ "java/lang/invoke/MethodHandle" ∧ y.cls ≠ "java/lang/invoke/VarHandle")
    (H : Con l Z EL z bytes maxL ret rm (.ref a :: argsL).toArray h [] (pureQ r h)) (E : Exa Z h a C) (hsz : Ls.size = c.maxLocals) (hlen : ∀ sig, parseMethodDescriptor y.desc = some sig → argsL.length = sig.parameters.length) {stk : List Value} (hstk : stk = argsL.reverse ++ .ref a :: st) (hd : decode c.code pc = .ok (.invokeinterface index count, 5))
    (hf : rm.frames + 1 ≤ R.frames) (hl : (st.map fun v => v.category).sum + (maxL + 11) + rm.locals ≤ R.locals) (hc : rm.cells = 0) (hs : rm.slots = 0) (hc' : cells ≤ R.cells) (hs' : slots ≤ R.slots) (hp : pc + 5 = pc')
    (k : ∀ T', Wk p l e R s m args below meth c Z EL own ws nw T' h cells slots → Gets p.tables e below P T' (mkF m pc' Ls (r.toList ++ st))) : Gets p.tables e below P T (mkF m pc Ls stk) :=
  w_iface W hx argsL w1 w2 w7 w3 w5 w8 w9 w10 w6 w4 hy H E all0 hsz hlen hstk hd hf hl (by rw [hc]; exact hc') (by rw [hs]; exact hs') hp fun v T' h' W' K q => by
    obtain ⟨e1, e2⟩ := q
    subst e1; rw [e2] at W'; rw [hc, hs] at W'; exact k T' W'
theorem g_name {tb : Tables} {v w : Value} (q : w = v) (k : Gets tb e below P T (mkF m pc Ls (w :: st))) : Gets tb e below P T (mkF m pc Ls (v :: st)) := q ▸ k
end OwnPure
theorem w_0 : tables_1[0]? = some (Jvm.Cond.methodLink "com/example/grapple/grapple/internal/OwnerIdsSameHolderPinLaw" (7 : Nat) ({ cls := "com/example/grapple/grapple/internal/OwnerIdsSameHolderPinLaw", name := "ch", desc := "(I)C" } : Jvm.MethodName)) := rfl
theorem w_1 : tables_1[1]? = some (Jvm.Cond.static ({ cls := "com/example/grapple/grapple/internal/OwnerIdsSameHolderPinLaw", name := "ch", desc := "(I)C" } : Jvm.MethodName)) := rfl
theorem w_2 : tables_1[2]? = some (Jvm.Cond.initialized "com/example/grapple/grapple/internal/OwnerIdsSameHolderPinLaw") := rfl
theorem w_3 : tables_1[3]? = some (Jvm.Cond.code ({ cls := "com/example/grapple/grapple/internal/OwnerIdsSameHolderPinLaw", name := "ch", desc := "(I)C" } : Jvm.MethodName) method_2_code (1 : Nat) (Option.some Jvm.ClassFile.FieldType.char)) := rfl
theorem w_4 : tables_1[4]? = some (Jvm.Cond.classLink "com/example/grapple/grapple/internal/OwnerIdsSameHolderPinLaw" (13 : Nat) "java/lang/String") := rfl
theorem w_5 : tables_1[5]? = some (Jvm.Cond.instantiable "java/lang/String" (4 : Nat)) := rfl
theorem w_6 : tables_1[6]? = some (Jvm.Cond.initialized "java/lang/String") := rfl
theorem w_7 : tables_1[7]? = some (Jvm.Cond.methodLink "com/example/grapple/grapple/internal/OwnerIdsSameHolderPinLaw" (15 : Nat) ({ cls := "com/example/grapple/grapple/internal/OwnerIdsSameHolderPinLaw", name := "make", desc := "(ICCC)[C" } : Jvm.MethodName)) := rfl
theorem w_8 : tables_1[8]? = some (Jvm.Cond.static ({ cls := "com/example/grapple/grapple/internal/OwnerIdsSameHolderPinLaw", name := "make", desc := "(ICCC)[C" } : Jvm.MethodName)) := rfl
theorem w_9 : tables_1[9]? = some (Jvm.Cond.code ({ cls := "com/example/grapple/grapple/internal/OwnerIdsSameHolderPinLaw", name := "make", desc := "(ICCC)[C" } : Jvm.MethodName) method_3_code (4 : Nat) (Option.some (Jvm.ClassFile.FieldType.array Jvm.ClassFile.FieldType.char))) := rfl
theorem w_10 : tables_1[10]? = some (Jvm.Cond.arrayClass Jvm.ClassFile.FieldType.char) := rfl
theorem w_11 : tables_1[11]? = some (Jvm.Cond.methodLink "com/example/grapple/grapple/internal/OwnerIdsSameHolderPinLaw" (19 : Nat) ({ cls := "java/lang/String", name := "<init>", desc := "([C)V" } : Jvm.MethodName)) := rfl
theorem w_12 : tables_1[12]? = some (Jvm.Cond.instanceMethod ({ cls := "java/lang/String", name := "<init>", desc := "([C)V" } : Jvm.MethodName)) := rfl
theorem w_13 : tables_1[13]? = some (Jvm.Cond.code ({ cls := "java/lang/String", name := "<init>", desc := "([C)V" } : Jvm.MethodName) jdk_42_method_3_code (2 : Nat) (Option.none : Option Jvm.ClassFile.FieldType)) := rfl
theorem w_14 : tables_1[14]? = some (Jvm.Cond.methodLink "java/lang/String" (27 : Nat) ({ cls := "java/lang/String", name := "<init>", desc := "([CIILjava/lang/Void;)V" } : Jvm.MethodName)) := rfl
theorem w_15 : tables_1[15]? = some (Jvm.Cond.instanceMethod ({ cls := "java/lang/String", name := "<init>", desc := "([CIILjava/lang/Void;)V" } : Jvm.MethodName)) := rfl
theorem w_17 : tables_1[17]? = some (Jvm.Cond.code ({ cls := "java/lang/String", name := "<init>", desc := "([CIILjava/lang/Void;)V" } : Jvm.MethodName) jdk_42_method_149_code (6 : Nat) (Option.none : Option Jvm.ClassFile.FieldType)) := rfl
theorem w_18 : tables_1[18]? = some (Jvm.Cond.methodLink "java/lang/String" (1 : Nat) ({ cls := "java/lang/Object", name := "<init>", desc := "()V" } : Jvm.MethodName)) := rfl
theorem w_19 : tables_1[19]? = some (Jvm.Cond.instanceMethod ({ cls := "java/lang/Object", name := "<init>", desc := "()V" } : Jvm.MethodName)) := rfl
theorem w_20 : tables_1[20]? = some (Jvm.Cond.code ({ cls := "java/lang/Object", name := "<init>", desc := "()V" } : Jvm.MethodName) object_method_1_code (1 : Nat) (Option.none : Option Jvm.ClassFile.FieldType)) := rfl
theorem w_21 : tables_1[21]? = some (Jvm.Cond.stringLink "java/lang/String" (7 : Nat) "") := rfl
theorem w_22 : tables_1[22]? = some (Jvm.Cond.arrayClass Jvm.ClassFile.FieldType.byte) := rfl
theorem w_23 : tables_1[23]? = some (Jvm.Cond.laysFinal "java/lang/String" "java/lang/String" "value" "[B") := rfl
theorem w_24 : tables_1[24]? = some (Jvm.Cond.laysFinal "java/lang/String" "java/lang/String" "coder" "B") := rfl
theorem w_25 : tables_1[25]? = some (Jvm.Cond.soleField "java/lang/String" "value") := rfl
theorem w_26 : tables_1[26]? = some (Jvm.Cond.soleField "java/lang/String" "coder") := rfl
theorem w_27 : tables_1[27]? = some (Jvm.Cond.fieldLink "java/lang/String" (9 : Nat) "java/lang/String" "value" "[B") := rfl
theorem w_28 : tables_1[28]? = some (Jvm.Cond.fieldLink "java/lang/String" (15 : Nat) "java/lang/String" "coder" "B") := rfl
theorem w_29 : tables_1[29]? = some (Jvm.Cond.methodLink "com/example/grapple/grapple/internal/OwnerIdsSameHolderPinLaw" (22 : Nat) ({ cls := "com/example/grapple/grapple/internal/OwnerIdsSameHolderPinLaw", name := "lastColon", desc := "(ICCC)I" } : Jvm.MethodName)) := rfl
theorem w_30 : tables_1[30]? = some (Jvm.Cond.static ({ cls := "com/example/grapple/grapple/internal/OwnerIdsSameHolderPinLaw", name := "lastColon", desc := "(ICCC)I" } : Jvm.MethodName)) := rfl
theorem w_31 : tables_1[31]? = some (Jvm.Cond.code ({ cls := "com/example/grapple/grapple/internal/OwnerIdsSameHolderPinLaw", name := "lastColon", desc := "(ICCC)I" } : Jvm.MethodName) method_4_code (4 : Nat) (Option.some Jvm.ClassFile.FieldType.int)) := rfl
theorem w_32 : tables_1[32]? = some (Jvm.Cond.methodLink "com/example/grapple/grapple/internal/OwnerIdsSameHolderPinLaw" (26 : Nat) ({ cls := "com/example/grapple/grapple/internal/OwnerIds", name := "sameHolder", desc := "(Ljava/lang/String;Ljava/lang/String;)Z" } : Jvm.MethodName)) := rfl
theorem w_33 : tables_1[33]? = some (Jvm.Cond.static ({ cls := "com/example/grapple/grapple/internal/OwnerIds", name := "sameHolder", desc := "(Ljava/lang/String;Ljava/lang/String;)Z" } : Jvm.MethodName)) := rfl
theorem w_34 : tables_1[34]? = some (Jvm.Cond.initialized "com/example/grapple/grapple/internal/OwnerIds") := rfl
theorem w_35 : tables_1[35]? = some (Jvm.Cond.code ({ cls := "com/example/grapple/grapple/internal/OwnerIds", name := "sameHolder", desc := "(Ljava/lang/String;Ljava/lang/String;)Z" } : Jvm.MethodName) prog_4_method_3_code (3 : Nat) (Option.some Jvm.ClassFile.FieldType.boolean)) := rfl
theorem w_36 : tables_1[36]? = some (Jvm.Cond.methodLink "com/example/grapple/grapple/internal/OwnerIds" (47 : Nat) ({ cls := "java/lang/String", name := "lastIndexOf", desc := "(I)I" } : Jvm.MethodName)) := rfl
theorem w_37 : tables_1[37]? = some (Jvm.Cond.declares ({ cls := "java/lang/String", name := "lastIndexOf", desc := "(I)I" } : Jvm.MethodName)) := rfl
theorem w_38 : tables_1[38]? = some (Jvm.Cond.instanceMethod ({ cls := "java/lang/String", name := "lastIndexOf", desc := "(I)I" } : Jvm.MethodName)) := rfl
theorem w_39 : tables_1[39]? = some (Jvm.Cond.selects "java/lang/String" ({ cls := "java/lang/String", name := "lastIndexOf", desc := "(I)I" } : Jvm.MethodName) ({ cls := "java/lang/String", name := "lastIndexOf", desc := "(I)I" } : Jvm.MethodName)) := rfl
theorem w_40 : tables_1[40]? = some (Jvm.Cond.code ({ cls := "java/lang/String", name := "lastIndexOf", desc := "(I)I" } : Jvm.MethodName) jdk_42_method_82_code (2 : Nat) (Option.some Jvm.ClassFile.FieldType.int)) := rfl
theorem w_41 : tables_1[41]? = some (Jvm.Cond.methodLink "java/lang/String" (505 : Nat) ({ cls := "java/lang/String", name := "length", desc := "()I" } : Jvm.MethodName)) := rfl
theorem w_42 : tables_1[42]? = some (Jvm.Cond.declares ({ cls := "java/lang/String", name := "length", desc := "()I" } : Jvm.MethodName)) := rfl
theorem w_43 : tables_1[43]? = some (Jvm.Cond.instanceMethod ({ cls := "java/lang/String", name := "length", desc := "()I" } : Jvm.MethodName)) := rfl
theorem w_44 : tables_1[44]? = some (Jvm.Cond.selects "java/lang/String" ({ cls := "java/lang/String", name := "length", desc := "()I" } : Jvm.MethodName) ({ cls := "java/lang/String", name := "length", desc := "()I" } : Jvm.MethodName)) := rfl
theorem w_45 : tables_1[45]? = some (Jvm.Cond.code ({ cls := "java/lang/String", name := "length", desc := "()I" } : Jvm.MethodName) jdk_42_method_54_code (1 : Nat) (Option.some Jvm.ClassFile.FieldType.int)) := rfl
theorem w_46 : tables_1[46]? = some (Jvm.Cond.methodLink "java/lang/String" (335 : Nat) ({ cls := "java/lang/String", name := "coder", desc := "()B" } : Jvm.MethodName)) := rfl
theorem w_47 : tables_1[47]? = some (Jvm.Cond.declares ({ cls := "java/lang/String", name := "coder", desc := "()B" } : Jvm.MethodName)) := rfl
theorem w_48 : tables_1[48]? = some (Jvm.Cond.instanceMethod ({ cls := "java/lang/String", name := "coder", desc := "()B" } : Jvm.MethodName)) := rfl
theorem w_49 : tables_1[49]? = some (Jvm.Cond.selects "java/lang/String" ({ cls := "java/lang/String", name := "coder", desc := "()B" } : Jvm.MethodName) ({ cls := "java/lang/String", name := "coder", desc := "()B" } : Jvm.MethodName)) := rfl
theorem w_50 : tables_1[50]? = some (Jvm.Cond.code ({ cls := "java/lang/String", name := "coder", desc := "()B" } : Jvm.MethodName) jdk_42_method_152_code (1 : Nat) (Option.some Jvm.ClassFile.FieldType.byte)) := rfl
theorem w_51 : tables_1[51]? = some (Jvm.Cond.fieldLink "java/lang/String" (38 : Nat) "java/lang/String" "COMPACT_STRINGS" "Z") := rfl
theorem w_52 : tables_1[52]? = some (Jvm.Cond.methodLink "java/lang/String" (641 : Nat) ({ cls := "java/lang/String", name := "lastIndexOf", desc := "(II)I" } : Jvm.MethodName)) := rfl
theorem w_53 : tables_1[53]? = some (Jvm.Cond.declares ({ cls := "java/lang/String", name := "lastIndexOf", desc := "(II)I" } : Jvm.MethodName)) := rfl
theorem w_54 : tables_1[54]? = some (Jvm.Cond.instanceMethod ({ cls := "java/lang/String", name := "lastIndexOf", desc := "(II)I" } : Jvm.MethodName)) := rfl
theorem w_55 : tables_1[55]? = some (Jvm.Cond.selects "java/lang/String" ({ cls := "java/lang/String", name := "lastIndexOf", desc := "(II)I" } : Jvm.MethodName) ({ cls := "java/lang/String", name := "lastIndexOf", desc := "(II)I" } : Jvm.MethodName)) := rfl
theorem w_56 : tables_1[56]? = some (Jvm.Cond.code ({ cls := "java/lang/String", name := "lastIndexOf", desc := "(II)I" } : Jvm.MethodName) jdk_42_method_83_code (3 : Nat) (Option.some Jvm.ClassFile.FieldType.int)) := rfl
theorem w_57 : tables_1[57]? = some (Jvm.Cond.methodLink "java/lang/String" (492 : Nat) ({ cls := "java/lang/String", name := "isLatin1", desc := "()Z" } : Jvm.MethodName)) := rfl
theorem w_58 : tables_1[58]? = some (Jvm.Cond.declares ({ cls := "java/lang/String", name := "isLatin1", desc := "()Z" } : Jvm.MethodName)) := rfl
theorem w_59 : tables_1[59]? = some (Jvm.Cond.instanceMethod ({ cls := "java/lang/String", name := "isLatin1", desc := "()Z" } : Jvm.MethodName)) := rfl
theorem w_60 : tables_1[60]? = some (Jvm.Cond.selects "java/lang/String" ({ cls := "java/lang/String", name := "isLatin1", desc := "()Z" } : Jvm.MethodName) ({ cls := "java/lang/String", name := "isLatin1", desc := "()Z" } : Jvm.MethodName)) := rfl
theorem w_61 : tables_1[61]? = some (Jvm.Cond.code ({ cls := "java/lang/String", name := "isLatin1", desc := "()Z" } : Jvm.MethodName) jdk_42_method_154_code (1 : Nat) (Option.some Jvm.ClassFile.FieldType.boolean)) := rfl
theorem w_62 : tables_1[62]? = some (Jvm.Cond.methodLink "java/lang/String" (644 : Nat) ({ cls := "java/lang/StringLatin1", name := "lastIndexOf", desc := "([BII)I" } : Jvm.MethodName)) := rfl
theorem w_63 : tables_1[63]? = some (Jvm.Cond.static ({ cls := "java/lang/StringLatin1", name := "lastIndexOf", desc := "([BII)I" } : Jvm.MethodName)) := rfl
theorem w_64 : tables_1[64]? = some (Jvm.Cond.initialized "java/lang/StringLatin1") := rfl
theorem w_65 : tables_1[65]? = some (Jvm.Cond.code ({ cls := "java/lang/StringLatin1", name := "lastIndexOf", desc := "([BII)I" } : Jvm.MethodName) jdk_43_method_27_code (4 : Nat) (Option.some Jvm.ClassFile.FieldType.int)) := rfl
theorem w_66 : tables_1[66]? = some (Jvm.Cond.methodLink "java/lang/StringLatin1" (88 : Nat) ({ cls := "java/lang/StringLatin1", name := "canEncode", desc := "(I)Z" } : Jvm.MethodName)) := rfl
theorem w_67 : tables_1[67]? = some (Jvm.Cond.static ({ cls := "java/lang/StringLatin1", name := "canEncode", desc := "(I)Z" } : Jvm.MethodName)) := rfl
theorem w_68 : tables_1[68]? = some (Jvm.Cond.code ({ cls := "java/lang/StringLatin1", name := "canEncode", desc := "(I)Z" } : Jvm.MethodName) jdk_43_method_4_code (1 : Nat) (Option.some Jvm.ClassFile.FieldType.boolean)) := rfl
theorem w_69 : tables_1[69]? = some (Jvm.Cond.methodLink "java/lang/StringLatin1" (38 : Nat) ({ cls := "java/lang/Math", name := "min", desc := "(II)I" } : Jvm.MethodName)) := rfl
theorem w_70 : tables_1[70]? = some (Jvm.Cond.static ({ cls := "java/lang/Math", name := "min", desc := "(II)I" } : Jvm.MethodName)) := rfl
theorem w_71 : tables_1[71]? = some (Jvm.Cond.initialized "java/lang/Math") := rfl
theorem w_72 : tables_1[72]? = some (Jvm.Cond.code ({ cls := "java/lang/Math", name := "min", desc := "(II)I" } : Jvm.MethodName) jdk_29_method_69_code (2 : Nat) (Option.some Jvm.ClassFile.FieldType.int)) := rfl
theorem w_73 : tables_1[73]? = some (Jvm.Cond.methodLink "com/example/grapple/grapple/internal/OwnerIds" (53 : Nat) ({ cls := "java/lang/String", name := "equals", desc := "(Ljava/lang/Object;)Z" } : Jvm.MethodName)) := rfl
theorem w_74 : tables_1[74]? = some (Jvm.Cond.declares ({ cls := "java/lang/String", name := "equals", desc := "(Ljava/lang/Object;)Z" } : Jvm.MethodName)) := rfl
theorem w_75 : tables_1[75]? = some (Jvm.Cond.instanceMethod ({ cls := "java/lang/String", name := "equals", desc := "(Ljava/lang/Object;)Z" } : Jvm.MethodName)) := rfl
theorem w_76 : tables_1[76]? = some (Jvm.Cond.selects "java/lang/String" ({ cls := "java/lang/String", name := "equals", desc := "(Ljava/lang/Object;)Z" } : Jvm.MethodName) ({ cls := "java/lang/String", name := "equals", desc := "(Ljava/lang/Object;)Z" } : Jvm.MethodName)) := rfl
theorem w_77 : tables_1[77]? = some (Jvm.Cond.code ({ cls := "java/lang/String", name := "equals", desc := "(Ljava/lang/Object;)Z" } : Jvm.MethodName) jdk_42_method_66_code (3 : Nat) (Option.some Jvm.ClassFile.FieldType.boolean)) := rfl
theorem w_78 : tables_1[78]? = some (Jvm.Cond.classLink "java/lang/String" (10 : Nat) "java/lang/String") := rfl
theorem w_79 : tables_1[79]? = some (Jvm.Cond.methodLink "java/lang/String" (541 : Nat) ({ cls := "java/lang/StringLatin1", name := "equals", desc := "([B[B)Z" } : Jvm.MethodName)) := rfl
theorem w_80 : tables_1[80]? = some (Jvm.Cond.static ({ cls := "java/lang/StringLatin1", name := "equals", desc := "([B[B)Z" } : Jvm.MethodName)) := rfl
theorem w_81 : tables_1[81]? = some (Jvm.Cond.code ({ cls := "java/lang/StringLatin1", name := "equals", desc := "([B[B)Z" } : Jvm.MethodName) jdk_43_method_13_code (3 : Nat) (Option.some Jvm.ClassFile.FieldType.boolean)) := rfl
theorem w_82 : tables_1[82]? = some (Jvm.Cond.methodLink "java/lang/String" (177 : Nat) ({ cls := "java/lang/StringUTF16", name := "compress", desc := "([CII)[B" } : Jvm.MethodName)) := rfl
theorem w_83 : tables_1[83]? = some (Jvm.Cond.static ({ cls := "java/lang/StringUTF16", name := "compress", desc := "([CII)[B" } : Jvm.MethodName)) := rfl
theorem w_84 : tables_1[84]? = some (Jvm.Cond.initialized "java/lang/StringUTF16") := rfl
theorem w_85 : tables_1[85]? = some (Jvm.Cond.code ({ cls := "java/lang/StringUTF16", name := "compress", desc := "([CII)[B" } : Jvm.MethodName) jdk_52_method_16_code (6 : Nat) (Option.some (Jvm.ClassFile.FieldType.array Jvm.ClassFile.FieldType.byte))) := rfl
theorem w_86 : tables_1[86]? = some (Jvm.Cond.methodLink "java/lang/StringUTF16" (115 : Nat) ({ cls := "java/lang/StringUTF16", name := "compress", desc := "([CI[BII)I" } : Jvm.MethodName)) := rfl
theorem w_87 : tables_1[87]? = some (Jvm.Cond.static ({ cls := "java/lang/StringUTF16", name := "compress", desc := "([CI[BII)I" } : Jvm.MethodName)) := rfl
theorem w_88 : tables_1[88]? = some (Jvm.Cond.code ({ cls := "java/lang/StringUTF16", name := "compress", desc := "([CI[BII)I" } : Jvm.MethodName) jdk_52_method_21_code (7 : Nat) (Option.some Jvm.ClassFile.FieldType.int)) := rfl
theorem w_89 : tables_1[89]? = some (Jvm.Cond.methodLink "java/lang/String" (47 : Nat) ({ cls := "java/lang/StringUTF16", name := "coderFromArrayLen", desc := "([BI)B" } : Jvm.MethodName)) := rfl
theorem w_90 : tables_1[90]? = some (Jvm.Cond.static ({ cls := "java/lang/StringUTF16", name := "coderFromArrayLen", desc := "([BI)B" } : Jvm.MethodName)) := rfl
theorem w_91 : tables_1[91]? = some (Jvm.Cond.code ({ cls := "java/lang/StringUTF16", name := "coderFromArrayLen", desc := "([BI)B" } : Jvm.MethodName) jdk_52_method_15_code (2 : Nat) (Option.some Jvm.ClassFile.FieldType.byte)) := rfl
theorem w_92 : tables_1[92]? = some (Jvm.Cond.methodLink "com/example/grapple/grapple/internal/OwnerIds" (57 : Nat) ({ cls := "java/lang/String", name := "regionMatches", desc := "(ILjava/lang/String;II)Z" } : Jvm.MethodName)) := rfl
theorem w_93 : tables_1[93]? = some (Jvm.Cond.declares ({ cls := "java/lang/String", name := "regionMatches", desc := "(ILjava/lang/String;II)Z" } : Jvm.MethodName)) := rfl
theorem w_94 : tables_1[94]? = some (Jvm.Cond.instanceMethod ({ cls := "java/lang/String", name := "regionMatches", desc := "(ILjava/lang/String;II)Z" } : Jvm.MethodName)) := rfl
theorem w_95 : tables_1[95]? = some (Jvm.Cond.selects "java/lang/String" ({ cls := "java/lang/String", name := "regionMatches", desc := "(ILjava/lang/String;II)Z" } : Jvm.MethodName) ({ cls := "java/lang/String", name := "regionMatches", desc := "(ILjava/lang/String;II)Z" } : Jvm.MethodName)) := rfl
theorem w_96 : tables_1[96]? = some (Jvm.Cond.code ({ cls := "java/lang/String", name := "regionMatches", desc := "(ILjava/lang/String;II)Z" } : Jvm.MethodName) jdk_42_method_73_code (8 : Nat) (Option.some Jvm.ClassFile.FieldType.boolean)) := rfl
theorem w_97 : tables_1[97]? = some (Jvm.Cond.methodLink "java/lang/String" (607 : Nat) ({ cls := "jdk/internal/util/ArraysSupport", name := "mismatch", desc := "([BI[BII)I" } : Jvm.MethodName)) := rfl
theorem w_98 : tables_1[98]? = some (Jvm.Cond.static ({ cls := "jdk/internal/util/ArraysSupport", name := "mismatch", desc := "([BI[BII)I" } : Jvm.MethodName)) := rfl
theorem w_99 : tables_1[99]? = some (Jvm.Cond.initialized "jdk/internal/util/ArraysSupport") := rfl
theorem w_100 : tables_1[100]? = some (Jvm.Cond.code ({ cls := "jdk/internal/util/ArraysSupport", name := "mismatch", desc := "([BI[BII)I" } : Jvm.MethodName) jdk_48_method_14_code (8 : Nat) (Option.some Jvm.ClassFile.FieldType.int)) := rfl
theorem d_jdk_29_69_0 : decode jdk_29_method_69_code 0 = .ok (.iload_n 0, 1) := by decide +kernel
theorem d_jdk_29_69_1 : decode jdk_29_method_69_code 1 = .ok (.iload_n 1, 1) := by decide +kernel
theorem d_jdk_29_69_2 : decode jdk_29_method_69_code 2 = .ok (.if_icmp .gt 7, 3) := by decide +kernel
theorem d_jdk_29_69_5 : decode jdk_29_method_69_code 5 = .ok (.iload_n 0, 1) := by decide +kernel
theorem d_jdk_29_69_6 : decode jdk_29_method_69_code 6 = .ok (.goto 4, 3) := by decide +kernel
theorem d_jdk_29_69_10 : decode jdk_29_method_69_code 10 = .ok (.ireturn, 1) := by decide +kernel
theorem d_jdk_42_149_0 : decode jdk_42_method_149_code 0 = .ok (.aload_n 0, 1) := by decide +kernel
theorem d_jdk_42_149_1 : decode jdk_42_method_149_code 1 = .ok (.invokespecial 1, 3) := by decide +kernel
theorem d_jdk_42_149_4 : decode jdk_42_method_149_code 4 = .ok (.iload_n 3, 1) := by decide +kernel
theorem d_jdk_42_149_5 : decode jdk_42_method_149_code 5 = .ok (.ifCond .ne 22, 3) := by decide +kernel
theorem d_jdk_42_149_8 : decode jdk_42_method_149_code 8 = .ok (.aload_n 0, 1) := by decide +kernel
theorem d_jdk_42_149_9 : decode jdk_42_method_149_code 9 = .ok (.ldc 7, 2) := by decide +kernel
theorem d_jdk_42_149_11 : decode jdk_42_method_149_code 11 = .ok (.getfield 9, 3) := by decide +kernel
theorem d_jdk_42_149_14 : decode jdk_42_method_149_code 14 = .ok (.putfield 9, 3) := by decide +kernel
theorem d_jdk_42_149_17 : decode jdk_42_method_149_code 17 = .ok (.aload_n 0, 1) := by decide +kernel
theorem d_jdk_42_149_18 : decode jdk_42_method_149_code 18 = .ok (.ldc 7, 2) := by decide +kernel
theorem d_jdk_42_149_20 : decode jdk_42_method_149_code 20 = .ok (.getfield 15, 3) := by decide +kernel
theorem d_jdk_42_149_23 : decode jdk_42_method_149_code 23 = .ok (.putfield 15, 3) := by decide +kernel
theorem d_jdk_42_149_26 : decode jdk_42_method_149_code 26 = .ok (.return_, 1) := by decide +kernel
theorem d_jdk_42_149_27 : decode jdk_42_method_149_code 27 = .ok (.getstatic 38, 3) := by decide +kernel
theorem d_jdk_42_149_30 : decode jdk_42_method_149_code 30 = .ok (.ifCond .eq 28, 3) := by decide +kernel
theorem d_jdk_42_149_33 : decode jdk_42_method_149_code 33 = .ok (.aload_n 1, 1) := by decide +kernel
theorem d_jdk_42_149_34 : decode jdk_42_method_149_code 34 = .ok (.iload_n 2, 1) := by decide +kernel
theorem d_jdk_42_149_35 : decode jdk_42_method_149_code 35 = .ok (.iload_n 3, 1) := by decide +kernel
theorem d_jdk_42_149_36 : decode jdk_42_method_149_code 36 = .ok (.invokestatic 177, 3) := by decide +kernel
theorem d_jdk_42_149_39 : decode jdk_42_method_149_code 39 = .ok (.astore 5, 2) := by decide +kernel
theorem d_jdk_42_149_41 : decode jdk_42_method_149_code 41 = .ok (.aload_n 0, 1) := by decide +kernel
theorem d_jdk_42_149_42 : decode jdk_42_method_149_code 42 = .ok (.aload 5, 2) := by decide +kernel
theorem d_jdk_42_149_44 : decode jdk_42_method_149_code 44 = .ok (.iload_n 3, 1) := by decide +kernel
theorem d_jdk_42_149_45 : decode jdk_42_method_149_code 45 = .ok (.invokestatic 47, 3) := by decide +kernel
theorem d_jdk_42_149_48 : decode jdk_42_method_149_code 48 = .ok (.putfield 15, 3) := by decide +kernel
theorem d_jdk_42_149_51 : decode jdk_42_method_149_code 51 = .ok (.aload_n 0, 1) := by decide +kernel
theorem d_jdk_42_149_52 : decode jdk_42_method_149_code 52 = .ok (.aload 5, 2) := by decide +kernel
theorem d_jdk_42_149_54 : decode jdk_42_method_149_code 54 = .ok (.putfield 9, 3) := by decide +kernel
theorem d_jdk_42_149_57 : decode jdk_42_method_149_code 57 = .ok (.return_, 1) := by decide +kernel
theorem d_jdk_42_152_0 : decode jdk_42_method_152_code 0 = .ok (.getstatic 38, 3) := by decide +kernel
theorem d_jdk_42_152_3 : decode jdk_42_method_152_code 3 = .ok (.ifCond .eq 10, 3) := by decide +kernel
theorem d_jdk_42_152_6 : decode jdk_42_method_152_code 6 = .ok (.aload_n 0, 1) := by decide +kernel
theorem d_jdk_42_152_7 : decode jdk_42_method_152_code 7 = .ok (.getfield 15, 3) := by decide +kernel
theorem d_jdk_42_152_10 : decode jdk_42_method_152_code 10 = .ok (.goto 4, 3) := by decide +kernel
theorem d_jdk_42_152_14 : decode jdk_42_method_152_code 14 = .ok (.ireturn, 1) := by decide +kernel
theorem d_jdk_42_154_0 : decode jdk_42_method_154_code 0 = .ok (.getstatic 38, 3) := by decide +kernel
theorem d_jdk_42_154_3 : decode jdk_42_method_154_code 3 = .ok (.ifCond .eq 14, 3) := by decide +kernel
theorem d_jdk_42_154_6 : decode jdk_42_method_154_code 6 = .ok (.aload_n 0, 1) := by decide +kernel
theorem d_jdk_42_154_7 : decode jdk_42_method_154_code 7 = .ok (.getfield 15, 3) := by decide +kernel
theorem d_jdk_42_154_10 : decode jdk_42_method_154_code 10 = .ok (.ifCond .ne 7, 3) := by decide +kernel
theorem d_jdk_42_154_13 : decode jdk_42_method_154_code 13 = .ok (.iconst 1, 1) := by decide +kernel
theorem d_jdk_42_154_14 : decode jdk_42_method_154_code 14 = .ok (.goto 4, 3) := by decide +kernel
theorem d_jdk_42_154_18 : decode jdk_42_method_154_code 18 = .ok (.ireturn, 1) := by decide +kernel
theorem d_jdk_42_3_0 : decode jdk_42_method_3_code 0 = .ok (.aload_n 0, 1) := by decide +kernel
theorem d_jdk_42_3_1 : decode jdk_42_method_3_code 1 = .ok (.aload_n 1, 1) := by decide +kernel
theorem d_jdk_42_3_2 : decode jdk_42_method_3_code 2 = .ok (.iconst 0, 1) := by decide +kernel
theorem d_jdk_42_3_3 : decode jdk_42_method_3_code 3 = .ok (.aload_n 1, 1) := by decide +kernel
theorem d_jdk_42_3_4 : decode jdk_42_method_3_code 4 = .ok (.arraylength, 1) := by decide +kernel
theorem d_jdk_42_3_5 : decode jdk_42_method_3_code 5 = .ok (.aconst_null, 1) := by decide +kernel
theorem d_jdk_42_3_6 : decode jdk_42_method_3_code 6 = .ok (.invokespecial 27, 3) := by decide +kernel
theorem d_jdk_42_3_9 : decode jdk_42_method_3_code 9 = .ok (.return_, 1) := by decide +kernel
theorem d_jdk_42_54_0 : decode jdk_42_method_54_code 0 = .ok (.aload_n 0, 1) := by decide +kernel
theorem d_jdk_42_54_1 : decode jdk_42_method_54_code 1 = .ok (.getfield 9, 3) := by decide +kernel
theorem d_jdk_42_54_4 : decode jdk_42_method_54_code 4 = .ok (.arraylength, 1) := by decide +kernel
theorem d_jdk_42_54_5 : decode jdk_42_method_54_code 5 = .ok (.aload_n 0, 1) := by decide +kernel
theorem d_jdk_42_54_6 : decode jdk_42_method_54_code 6 = .ok (.invokevirtual 335, 3) := by decide +kernel
theorem d_jdk_42_54_9 : decode jdk_42_method_54_code 9 = .ok (.ishr, 1) := by decide +kernel
theorem d_jdk_42_54_10 : decode jdk_42_method_54_code 10 = .ok (.ireturn, 1) := by decide +kernel
theorem d_jdk_42_66_0 : decode jdk_42_method_66_code 0 = .ok (.aload_n 0, 1) := by decide +kernel
theorem d_jdk_42_66_1 : decode jdk_42_method_66_code 1 = .ok (.aload_n 1, 1) := by decide +kernel
theorem d_jdk_42_66_2 : decode jdk_42_method_66_code 2 = .ok (.if_acmp .ne 5, 3) := by decide +kernel
theorem d_jdk_42_66_7 : decode jdk_42_method_66_code 7 = .ok (.aload_n 1, 1) := by decide +kernel
theorem d_jdk_42_66_8 : decode jdk_42_method_66_code 8 = .ok (.instanceof 10, 3) := by decide +kernel
theorem d_jdk_42_66_11 : decode jdk_42_method_66_code 11 = .ok (.ifCond .eq 43, 3) := by decide +kernel
theorem d_jdk_42_66_14 : decode jdk_42_method_66_code 14 = .ok (.aload_n 1, 1) := by decide +kernel
theorem d_jdk_42_66_15 : decode jdk_42_method_66_code 15 = .ok (.checkcast 10, 3) := by decide +kernel
theorem d_jdk_42_66_18 : decode jdk_42_method_66_code 18 = .ok (.astore_n 2, 1) := by decide +kernel
theorem d_jdk_42_66_19 : decode jdk_42_method_66_code 19 = .ok (.getstatic 38, 3) := by decide +kernel
theorem d_jdk_42_66_22 : decode jdk_42_method_66_code 22 = .ok (.ifCond .eq 14, 3) := by decide +kernel
theorem d_jdk_42_66_25 : decode jdk_42_method_66_code 25 = .ok (.aload_n 0, 1) := by decide +kernel
theorem d_jdk_42_66_26 : decode jdk_42_method_66_code 26 = .ok (.getfield 15, 3) := by decide +kernel
theorem d_jdk_42_66_29 : decode jdk_42_method_66_code 29 = .ok (.aload_n 2, 1) := by decide +kernel
theorem d_jdk_42_66_30 : decode jdk_42_method_66_code 30 = .ok (.getfield 15, 3) := by decide +kernel
theorem d_jdk_42_66_33 : decode jdk_42_method_66_code 33 = .ok (.if_icmp .ne 21, 3) := by decide +kernel
theorem d_jdk_42_66_36 : decode jdk_42_method_66_code 36 = .ok (.aload_n 0, 1) := by decide +kernel
theorem d_jdk_42_66_37 : decode jdk_42_method_66_code 37 = .ok (.getfield 9, 3) := by decide +kernel
theorem d_jdk_42_66_40 : decode jdk_42_method_66_code 40 = .ok (.aload_n 2, 1) := by decide +kernel
theorem d_jdk_42_66_41 : decode jdk_42_method_66_code 41 = .ok (.getfield 9, 3) := by decide +kernel
theorem d_jdk_42_66_44 : decode jdk_42_method_66_code 44 = .ok (.invokestatic 541, 3) := by decide +kernel
theorem d_jdk_42_66_47 : decode jdk_42_method_66_code 47 = .ok (.ifCond .eq 7, 3) := by decide +kernel
theorem d_jdk_42_66_50 : decode jdk_42_method_66_code 50 = .ok (.iconst 1, 1) := by decide +kernel
theorem d_jdk_42_66_51 : decode jdk_42_method_66_code 51 = .ok (.goto 4, 3) := by decide +kernel
theorem d_jdk_42_66_54 : decode jdk_42_method_66_code 54 = .ok (.iconst 0, 1) := by decide +kernel
theorem d_jdk_42_66_55 : decode jdk_42_method_66_code 55 = .ok (.ireturn, 1) := by decide +kernel
theorem d_jdk_42_73_0 : decode jdk_42_method_73_code 0 = .ok (.iload_n 3, 1) := by decide +kernel
theorem d_jdk_42_73_1 : decode jdk_42_method_73_code 1 = .ok (.ifCond .lt 37, 3) := by decide +kernel
theorem d_jdk_42_73_4 : decode jdk_42_method_73_code 4 = .ok (.iload_n 1, 1) := by decide +kernel
theorem d_jdk_42_73_5 : decode jdk_42_method_73_code 5 = .ok (.ifCond .lt 33, 3) := by decide +kernel
theorem d_jdk_42_73_8 : decode jdk_42_method_73_code 8 = .ok (.iload_n 1, 1) := by decide +kernel
theorem d_jdk_42_73_9 : decode jdk_42_method_73_code 9 = .ok (.i2l, 1) := by decide +kernel
theorem d_jdk_42_73_10 : decode jdk_42_method_73_code 10 = .ok (.aload_n 0, 1) := by decide +kernel
theorem d_jdk_42_73_11 : decode jdk_42_method_73_code 11 = .ok (.invokevirtual 505, 3) := by decide +kernel
theorem d_jdk_42_73_14 : decode jdk_42_method_73_code 14 = .ok (.i2l, 1) := by decide +kernel
theorem d_jdk_42_73_15 : decode jdk_42_method_73_code 15 = .ok (.iload 4, 2) := by decide +kernel
theorem d_jdk_42_73_17 : decode jdk_42_method_73_code 17 = .ok (.i2l, 1) := by decide +kernel
theorem d_jdk_42_73_18 : decode jdk_42_method_73_code 18 = .ok (.lsub, 1) := by decide +kernel
theorem d_jdk_42_73_19 : decode jdk_42_method_73_code 19 = .ok (.lcmp, 1) := by decide +kernel
theorem d_jdk_42_73_20 : decode jdk_42_method_73_code 20 = .ok (.ifCond .gt 18, 3) := by decide +kernel
theorem d_jdk_42_73_23 : decode jdk_42_method_73_code 23 = .ok (.iload_n 3, 1) := by decide +kernel
theorem d_jdk_42_73_24 : decode jdk_42_method_73_code 24 = .ok (.i2l, 1) := by decide +kernel
theorem d_jdk_42_73_25 : decode jdk_42_method_73_code 25 = .ok (.aload_n 2, 1) := by decide +kernel
theorem d_jdk_42_73_26 : decode jdk_42_method_73_code 26 = .ok (.invokevirtual 505, 3) := by decide +kernel
theorem d_jdk_42_73_29 : decode jdk_42_method_73_code 29 = .ok (.i2l, 1) := by decide +kernel
theorem d_jdk_42_73_30 : decode jdk_42_method_73_code 30 = .ok (.iload 4, 2) := by decide +kernel
theorem d_jdk_42_73_32 : decode jdk_42_method_73_code 32 = .ok (.i2l, 1) := by decide +kernel
theorem d_jdk_42_73_33 : decode jdk_42_method_73_code 33 = .ok (.lsub, 1) := by decide +kernel
theorem d_jdk_42_73_34 : decode jdk_42_method_73_code 34 = .ok (.lcmp, 1) := by decide +kernel
theorem d_jdk_42_73_35 : decode jdk_42_method_73_code 35 = .ok (.ifCond .le 5, 3) := by decide +kernel
theorem d_jdk_42_73_40 : decode jdk_42_method_73_code 40 = .ok (.iload 4, 2) := by decide +kernel
theorem d_jdk_42_73_42 : decode jdk_42_method_73_code 42 = .ok (.ifCond .gt 5, 3) := by decide +kernel
theorem d_jdk_42_73_45 : decode jdk_42_method_73_code 45 = .ok (.iconst 1, 1) := by decide +kernel
theorem d_jdk_42_73_46 : decode jdk_42_method_73_code 46 = .ok (.ireturn, 1) := by decide +kernel
theorem d_jdk_42_73_47 : decode jdk_42_method_73_code 47 = .ok (.aload_n 0, 1) := by decide +kernel
theorem d_jdk_42_73_48 : decode jdk_42_method_73_code 48 = .ok (.getfield 9, 3) := by decide +kernel
theorem d_jdk_42_73_51 : decode jdk_42_method_73_code 51 = .ok (.astore 5, 2) := by decide +kernel
theorem d_jdk_42_73_53 : decode jdk_42_method_73_code 53 = .ok (.aload_n 2, 1) := by decide +kernel
theorem d_jdk_42_73_54 : decode jdk_42_method_73_code 54 = .ok (.getfield 9, 3) := by decide +kernel
theorem d_jdk_42_73_57 : decode jdk_42_method_73_code 57 = .ok (.astore 6, 2) := by decide +kernel
theorem d_jdk_42_73_59 : decode jdk_42_method_73_code 59 = .ok (.aload_n 0, 1) := by decide +kernel
theorem d_jdk_42_73_60 : decode jdk_42_method_73_code 60 = .ok (.invokevirtual 335, 3) := by decide +kernel
theorem d_jdk_42_73_63 : decode jdk_42_method_73_code 63 = .ok (.istore 7, 2) := by decide +kernel
theorem d_jdk_42_73_65 : decode jdk_42_method_73_code 65 = .ok (.iload 7, 2) := by decide +kernel
theorem d_jdk_42_73_67 : decode jdk_42_method_73_code 67 = .ok (.aload_n 2, 1) := by decide +kernel
theorem d_jdk_42_73_68 : decode jdk_42_method_73_code 68 = .ok (.invokevirtual 335, 3) := by decide +kernel
theorem d_jdk_42_73_71 : decode jdk_42_method_73_code 71 = .ok (.if_icmp .ne 43, 3) := by decide +kernel
theorem d_jdk_42_73_74 : decode jdk_42_method_73_code 74 = .ok (.iload 7, 2) := by decide +kernel
theorem d_jdk_42_73_76 : decode jdk_42_method_73_code 76 = .ok (.iconst 1, 1) := by decide +kernel
theorem d_jdk_42_73_77 : decode jdk_42_method_73_code 77 = .ok (.if_icmp .ne 17, 3) := by decide +kernel
theorem d_jdk_42_73_94 : decode jdk_42_method_73_code 94 = .ok (.aload 5, 2) := by decide +kernel
theorem d_jdk_42_73_96 : decode jdk_42_method_73_code 96 = .ok (.iload_n 1, 1) := by decide +kernel
theorem d_jdk_42_73_97 : decode jdk_42_method_73_code 97 = .ok (.aload 6, 2) := by decide +kernel
theorem d_jdk_42_73_99 : decode jdk_42_method_73_code 99 = .ok (.iload_n 3, 1) := by decide +kernel
theorem d_jdk_42_73_100 : decode jdk_42_method_73_code 100 = .ok (.iload 4, 2) := by decide +kernel
theorem d_jdk_42_73_102 : decode jdk_42_method_73_code 102 = .ok (.invokestatic 607, 3) := by decide +kernel
theorem d_jdk_42_73_105 : decode jdk_42_method_73_code 105 = .ok (.ifCond .ge 7, 3) := by decide +kernel
theorem d_jdk_42_73_108 : decode jdk_42_method_73_code 108 = .ok (.iconst 1, 1) := by decide +kernel
theorem d_jdk_42_73_109 : decode jdk_42_method_73_code 109 = .ok (.goto 4, 3) := by decide +kernel
theorem d_jdk_42_73_112 : decode jdk_42_method_73_code 112 = .ok (.iconst 0, 1) := by decide +kernel
theorem d_jdk_42_73_113 : decode jdk_42_method_73_code 113 = .ok (.ireturn, 1) := by decide +kernel
theorem d_jdk_42_82_0 : decode jdk_42_method_82_code 0 = .ok (.aload_n 0, 1) := by decide +kernel
theorem d_jdk_42_82_1 : decode jdk_42_method_82_code 1 = .ok (.iload_n 1, 1) := by decide +kernel
theorem d_jdk_42_82_2 : decode jdk_42_method_82_code 2 = .ok (.aload_n 0, 1) := by decide +kernel
theorem d_jdk_42_82_3 : decode jdk_42_method_82_code 3 = .ok (.invokevirtual 505, 3) := by decide +kernel
theorem d_jdk_42_82_6 : decode jdk_42_method_82_code 6 = .ok (.iconst 1, 1) := by decide +kernel
theorem d_jdk_42_82_7 : decode jdk_42_method_82_code 7 = .ok (.isub, 1) := by decide +kernel
theorem d_jdk_42_82_8 : decode jdk_42_method_82_code 8 = .ok (.invokevirtual 641, 3) := by decide +kernel
theorem d_jdk_42_82_11 : decode jdk_42_method_82_code 11 = .ok (.ireturn, 1) := by decide +kernel
theorem d_jdk_42_83_0 : decode jdk_42_method_83_code 0 = .ok (.aload_n 0, 1) := by decide +kernel
theorem d_jdk_42_83_1 : decode jdk_42_method_83_code 1 = .ok (.invokevirtual 492, 3) := by decide +kernel
theorem d_jdk_42_83_4 : decode jdk_42_method_83_code 4 = .ok (.ifCond .eq 15, 3) := by decide +kernel
theorem d_jdk_42_83_7 : decode jdk_42_method_83_code 7 = .ok (.aload_n 0, 1) := by decide +kernel
theorem d_jdk_42_83_8 : decode jdk_42_method_83_code 8 = .ok (.getfield 9, 3) := by decide +kernel
theorem d_jdk_42_83_11 : decode jdk_42_method_83_code 11 = .ok (.iload_n 1, 1) := by decide +kernel
theorem d_jdk_42_83_12 : decode jdk_42_method_83_code 12 = .ok (.iload_n 2, 1) := by decide +kernel
theorem d_jdk_42_83_13 : decode jdk_42_method_83_code 13 = .ok (.invokestatic 644, 3) := by decide +kernel
theorem d_jdk_42_83_16 : decode jdk_42_method_83_code 16 = .ok (.goto 12, 3) := by decide +kernel
theorem d_jdk_42_83_28 : decode jdk_42_method_83_code 28 = .ok (.ireturn, 1) := by decide +kernel
theorem d_jdk_43_13_0 : decode jdk_43_method_13_code 0 = .ok (.aload_n 0, 1) := by decide +kernel
theorem d_jdk_43_13_1 : decode jdk_43_method_13_code 1 = .ok (.arraylength, 1) := by decide +kernel
theorem d_jdk_43_13_2 : decode jdk_43_method_13_code 2 = .ok (.aload_n 1, 1) := by decide +kernel
theorem d_jdk_43_13_3 : decode jdk_43_method_13_code 3 = .ok (.arraylength, 1) := by decide +kernel
theorem d_jdk_43_13_4 : decode jdk_43_method_13_code 4 = .ok (.if_icmp .ne 30, 3) := by decide +kernel
theorem d_jdk_43_13_7 : decode jdk_43_method_13_code 7 = .ok (.iconst 0, 1) := by decide +kernel
theorem d_jdk_43_13_8 : decode jdk_43_method_13_code 8 = .ok (.istore_n 2, 1) := by decide +kernel
theorem d_jdk_43_13_9 : decode jdk_43_method_13_code 9 = .ok (.iload_n 2, 1) := by decide +kernel
theorem d_jdk_43_13_10 : decode jdk_43_method_13_code 10 = .ok (.aload_n 0, 1) := by decide +kernel
theorem d_jdk_43_13_11 : decode jdk_43_method_13_code 11 = .ok (.arraylength, 1) := by decide +kernel
theorem d_jdk_43_13_12 : decode jdk_43_method_13_code 12 = .ok (.if_icmp .ge 20, 3) := by decide +kernel
theorem d_jdk_43_13_15 : decode jdk_43_method_13_code 15 = .ok (.aload_n 0, 1) := by decide +kernel
theorem d_jdk_43_13_16 : decode jdk_43_method_13_code 16 = .ok (.iload_n 2, 1) := by decide +kernel
theorem d_jdk_43_13_17 : decode jdk_43_method_13_code 17 = .ok (.baload, 1) := by decide +kernel
theorem d_jdk_43_13_18 : decode jdk_43_method_13_code 18 = .ok (.aload_n 1, 1) := by decide +kernel
theorem d_jdk_43_13_19 : decode jdk_43_method_13_code 19 = .ok (.iload_n 2, 1) := by decide +kernel
theorem d_jdk_43_13_20 : decode jdk_43_method_13_code 20 = .ok (.baload, 1) := by decide +kernel
theorem d_jdk_43_13_21 : decode jdk_43_method_13_code 21 = .ok (.if_icmp .eq 5, 3) := by decide +kernel
theorem d_jdk_43_13_24 : decode jdk_43_method_13_code 24 = .ok (.iconst 0, 1) := by decide +kernel
theorem d_jdk_43_13_25 : decode jdk_43_method_13_code 25 = .ok (.ireturn, 1) := by decide +kernel
theorem d_jdk_43_13_26 : decode jdk_43_method_13_code 26 = .ok (.iinc 2 1, 3) := by decide +kernel
theorem d_jdk_43_13_29 : decode jdk_43_method_13_code 29 = .ok (.goto (-20), 3) := by decide +kernel
theorem d_jdk_43_13_32 : decode jdk_43_method_13_code 32 = .ok (.iconst 1, 1) := by decide +kernel
theorem d_jdk_43_13_33 : decode jdk_43_method_13_code 33 = .ok (.ireturn, 1) := by decide +kernel
theorem d_jdk_43_13_34 : decode jdk_43_method_13_code 34 = .ok (.iconst 0, 1) := by decide +kernel
theorem d_jdk_43_13_35 : decode jdk_43_method_13_code 35 = .ok (.ireturn, 1) := by decide +kernel
theorem d_jdk_43_27_0 : decode jdk_43_method_27_code 0 = .ok (.iload_n 1, 1) := by decide +kernel
theorem d_jdk_43_27_1 : decode jdk_43_method_27_code 1 = .ok (.invokestatic 88, 3) := by decide +kernel
theorem d_jdk_43_27_4 : decode jdk_43_method_27_code 4 = .ok (.ifCond .ne 5, 3) := by decide +kernel
theorem d_jdk_43_27_9 : decode jdk_43_method_27_code 9 = .ok (.iload_n 2, 1) := by decide +kernel
theorem d_jdk_43_27_10 : decode jdk_43_method_27_code 10 = .ok (.aload_n 0, 1) := by decide +kernel
theorem d_jdk_43_27_11 : decode jdk_43_method_27_code 11 = .ok (.arraylength, 1) := by decide +kernel
theorem d_jdk_43_27_12 : decode jdk_43_method_27_code 12 = .ok (.iconst 1, 1) := by decide +kernel
theorem d_jdk_43_27_13 : decode jdk_43_method_27_code 13 = .ok (.isub, 1) := by decide +kernel
theorem d_jdk_43_27_14 : decode jdk_43_method_27_code 14 = .ok (.invokestatic 38, 3) := by decide +kernel
theorem d_jdk_43_27_17 : decode jdk_43_method_27_code 17 = .ok (.istore_n 3, 1) := by decide +kernel
theorem d_jdk_43_27_18 : decode jdk_43_method_27_code 18 = .ok (.iload_n 3, 1) := by decide +kernel
theorem d_jdk_43_27_19 : decode jdk_43_method_27_code 19 = .ok (.ifCond .lt 19, 3) := by decide +kernel
theorem d_jdk_43_27_22 : decode jdk_43_method_27_code 22 = .ok (.aload_n 0, 1) := by decide +kernel
theorem d_jdk_43_27_23 : decode jdk_43_method_27_code 23 = .ok (.iload_n 3, 1) := by decide +kernel
theorem d_jdk_43_27_24 : decode jdk_43_method_27_code 24 = .ok (.baload, 1) := by decide +kernel
theorem d_jdk_43_27_25 : decode jdk_43_method_27_code 25 = .ok (.iload_n 1, 1) := by decide +kernel
theorem d_jdk_43_27_26 : decode jdk_43_method_27_code 26 = .ok (.i2b, 1) := by decide +kernel
theorem d_jdk_43_27_27 : decode jdk_43_method_27_code 27 = .ok (.if_icmp .ne 5, 3) := by decide +kernel
theorem d_jdk_43_27_30 : decode jdk_43_method_27_code 30 = .ok (.iload_n 3, 1) := by decide +kernel
theorem d_jdk_43_27_31 : decode jdk_43_method_27_code 31 = .ok (.ireturn, 1) := by decide +kernel
theorem d_jdk_43_27_32 : decode jdk_43_method_27_code 32 = .ok (.iinc 3 (-1), 3) := by decide +kernel
theorem d_jdk_43_27_35 : decode jdk_43_method_27_code 35 = .ok (.goto (-17), 3) := by decide +kernel
theorem d_jdk_43_27_38 : decode jdk_43_method_27_code 38 = .ok (.iconst (-1), 1) := by decide +kernel
theorem d_jdk_43_27_39 : decode jdk_43_method_27_code 39 = .ok (.ireturn, 1) := by decide +kernel
theorem d_jdk_43_4_0 : decode jdk_43_method_4_code 0 = .ok (.iload_n 0, 1) := by decide +kernel
theorem d_jdk_43_4_1 : decode jdk_43_method_4_code 1 = .ok (.ifCond .lt 14, 3) := by decide +kernel
theorem d_jdk_43_4_4 : decode jdk_43_method_4_code 4 = .ok (.iload_n 0, 1) := by decide +kernel
theorem d_jdk_43_4_5 : decode jdk_43_method_4_code 5 = .ok (.sipush 255, 3) := by decide +kernel
theorem d_jdk_43_4_8 : decode jdk_43_method_4_code 8 = .ok (.if_icmp .gt 7, 3) := by decide +kernel
theorem d_jdk_43_4_11 : decode jdk_43_method_4_code 11 = .ok (.iconst 1, 1) := by decide +kernel
theorem d_jdk_43_4_12 : decode jdk_43_method_4_code 12 = .ok (.goto 4, 3) := by decide +kernel
theorem d_jdk_43_4_16 : decode jdk_43_method_4_code 16 = .ok (.ireturn, 1) := by decide +kernel
theorem d_jdk_48_14_0 : decode jdk_48_method_14_code 0 = .ok (.iconst 0, 1) := by decide +kernel
theorem d_jdk_48_14_1 : decode jdk_48_method_14_code 1 = .ok (.istore 5, 2) := by decide +kernel
theorem d_jdk_48_14_3 : decode jdk_48_method_14_code 3 = .ok (.iload 4, 2) := by decide +kernel
theorem d_jdk_48_14_5 : decode jdk_48_method_14_code 5 = .ok (.bipush 7, 2) := by decide +kernel
theorem d_jdk_48_14_7 : decode jdk_48_method_14_code 7 = .ok (.if_icmp .le 63, 3) := by decide +kernel
theorem d_jdk_48_14_70 : decode jdk_48_method_14_code 70 = .ok (.iload 5, 2) := by decide +kernel
theorem d_jdk_48_14_72 : decode jdk_48_method_14_code 72 = .ok (.iload 4, 2) := by decide +kernel
theorem d_jdk_48_14_74 : decode jdk_48_method_14_code 74 = .ok (.if_icmp .ge 27, 3) := by decide +kernel
theorem d_jdk_48_14_77 : decode jdk_48_method_14_code 77 = .ok (.aload_n 0, 1) := by decide +kernel
theorem d_jdk_48_14_78 : decode jdk_48_method_14_code 78 = .ok (.iload_n 1, 1) := by decide +kernel
theorem d_jdk_48_14_79 : decode jdk_48_method_14_code 79 = .ok (.iload 5, 2) := by decide +kernel
theorem d_jdk_48_14_81 : decode jdk_48_method_14_code 81 = .ok (.iadd, 1) := by decide +kernel
theorem d_jdk_48_14_82 : decode jdk_48_method_14_code 82 = .ok (.baload, 1) := by decide +kernel
theorem d_jdk_48_14_83 : decode jdk_48_method_14_code 83 = .ok (.aload_n 2, 1) := by decide +kernel
theorem d_jdk_48_14_84 : decode jdk_48_method_14_code 84 = .ok (.iload_n 3, 1) := by decide +kernel
theorem d_jdk_48_14_85 : decode jdk_48_method_14_code 85 = .ok (.iload 5, 2) := by decide +kernel
theorem d_jdk_48_14_87 : decode jdk_48_method_14_code 87 = .ok (.iadd, 1) := by decide +kernel
theorem d_jdk_48_14_88 : decode jdk_48_method_14_code 88 = .ok (.baload, 1) := by decide +kernel
theorem d_jdk_48_14_89 : decode jdk_48_method_14_code 89 = .ok (.if_icmp .eq 6, 3) := by decide +kernel
theorem d_jdk_48_14_92 : decode jdk_48_method_14_code 92 = .ok (.iload 5, 2) := by decide +kernel
theorem d_jdk_48_14_94 : decode jdk_48_method_14_code 94 = .ok (.ireturn, 1) := by decide +kernel
theorem d_jdk_48_14_95 : decode jdk_48_method_14_code 95 = .ok (.iinc 5 1, 3) := by decide +kernel
theorem d_jdk_48_14_98 : decode jdk_48_method_14_code 98 = .ok (.goto (-28), 3) := by decide +kernel
theorem d_jdk_48_14_101 : decode jdk_48_method_14_code 101 = .ok (.iconst (-1), 1) := by decide +kernel
theorem d_jdk_48_14_102 : decode jdk_48_method_14_code 102 = .ok (.ireturn, 1) := by decide +kernel
theorem d_jdk_52_15_0 : decode jdk_52_method_15_code 0 = .ok (.iload_n 1, 1) := by decide +kernel
theorem d_jdk_52_15_1 : decode jdk_52_method_15_code 1 = .ok (.aload_n 0, 1) := by decide +kernel
theorem d_jdk_52_15_2 : decode jdk_52_method_15_code 2 = .ok (.arraylength, 1) := by decide +kernel
theorem d_jdk_52_15_3 : decode jdk_52_method_15_code 3 = .ok (.isub, 1) := by decide +kernel
theorem d_jdk_52_15_4 : decode jdk_52_method_15_code 4 = .ok (.bipush 31, 2) := by decide +kernel
theorem d_jdk_52_15_6 : decode jdk_52_method_15_code 6 = .ok (.iushr, 1) := by decide +kernel
theorem d_jdk_52_15_7 : decode jdk_52_method_15_code 7 = .ok (.i2b, 1) := by decide +kernel
theorem d_jdk_52_15_8 : decode jdk_52_method_15_code 8 = .ok (.ireturn, 1) := by decide +kernel
theorem d_jdk_52_16_0 : decode jdk_52_method_16_code 0 = .ok (.iload_n 2, 1) := by decide +kernel
theorem d_jdk_52_16_1 : decode jdk_52_method_16_code 1 = .ok (.newarray .byte, 2) := by decide +kernel
theorem d_jdk_52_16_3 : decode jdk_52_method_16_code 3 = .ok (.astore_n 3, 1) := by decide +kernel
theorem d_jdk_52_16_4 : decode jdk_52_method_16_code 4 = .ok (.aload_n 0, 1) := by decide +kernel
theorem d_jdk_52_16_5 : decode jdk_52_method_16_code 5 = .ok (.iload_n 1, 1) := by decide +kernel
theorem d_jdk_52_16_6 : decode jdk_52_method_16_code 6 = .ok (.aload_n 3, 1) := by decide +kernel
theorem d_jdk_52_16_7 : decode jdk_52_method_16_code 7 = .ok (.iconst 0, 1) := by decide +kernel
theorem d_jdk_52_16_8 : decode jdk_52_method_16_code 8 = .ok (.iload_n 2, 1) := by decide +kernel
theorem d_jdk_52_16_9 : decode jdk_52_method_16_code 9 = .ok (.invokestatic 115, 3) := by decide +kernel
theorem d_jdk_52_16_12 : decode jdk_52_method_16_code 12 = .ok (.istore 4, 2) := by decide +kernel
theorem d_jdk_52_16_14 : decode jdk_52_method_16_code 14 = .ok (.iload 4, 2) := by decide +kernel
theorem d_jdk_52_16_16 : decode jdk_52_method_16_code 16 = .ok (.iload_n 2, 1) := by decide +kernel
theorem d_jdk_52_16_17 : decode jdk_52_method_16_code 17 = .ok (.if_icmp .eq 40, 3) := by decide +kernel
theorem d_jdk_52_16_57 : decode jdk_52_method_16_code 57 = .ok (.aload_n 3, 1) := by decide +kernel
theorem d_jdk_52_16_58 : decode jdk_52_method_16_code 58 = .ok (.areturn, 1) := by decide +kernel
theorem d_jdk_52_21_0 : decode jdk_52_method_21_code 0 = .ok (.iconst 0, 1) := by decide +kernel
theorem d_jdk_52_21_1 : decode jdk_52_method_21_code 1 = .ok (.istore 5, 2) := by decide +kernel
theorem d_jdk_52_21_3 : decode jdk_52_method_21_code 3 = .ok (.iload 5, 2) := by decide +kernel
theorem d_jdk_52_21_5 : decode jdk_52_method_21_code 5 = .ok (.iload 4, 2) := by decide +kernel
theorem d_jdk_52_21_7 : decode jdk_52_method_21_code 7 = .ok (.if_icmp .ge 37, 3) := by decide +kernel
theorem d_jdk_52_21_10 : decode jdk_52_method_21_code 10 = .ok (.aload_n 0, 1) := by decide +kernel
theorem d_jdk_52_21_11 : decode jdk_52_method_21_code 11 = .ok (.iload_n 1, 1) := by decide +kernel
theorem d_jdk_52_21_12 : decode jdk_52_method_21_code 12 = .ok (.caload, 1) := by decide +kernel
theorem d_jdk_52_21_13 : decode jdk_52_method_21_code 13 = .ok (.istore 6, 2) := by decide +kernel
theorem d_jdk_52_21_15 : decode jdk_52_method_21_code 15 = .ok (.iload 6, 2) := by decide +kernel
theorem d_jdk_52_21_17 : decode jdk_52_method_21_code 17 = .ok (.sipush 255, 3) := by decide +kernel
theorem d_jdk_52_21_20 : decode jdk_52_method_21_code 20 = .ok (.if_icmp .le 6, 3) := by decide +kernel
theorem d_jdk_52_21_26 : decode jdk_52_method_21_code 26 = .ok (.aload_n 2, 1) := by decide +kernel
theorem d_jdk_52_21_27 : decode jdk_52_method_21_code 27 = .ok (.iload_n 3, 1) := by decide +kernel
theorem d_jdk_52_21_28 : decode jdk_52_method_21_code 28 = .ok (.iload 6, 2) := by decide +kernel
theorem d_jdk_52_21_30 : decode jdk_52_method_21_code 30 = .ok (.i2b, 1) := by decide +kernel
theorem d_jdk_52_21_31 : decode jdk_52_method_21_code 31 = .ok (.bastore, 1) := by decide +kernel
theorem d_jdk_52_21_32 : decode jdk_52_method_21_code 32 = .ok (.iinc 1 1, 3) := by decide +kernel
theorem d_jdk_52_21_35 : decode jdk_52_method_21_code 35 = .ok (.iinc 3 1, 3) := by decide +kernel
theorem d_jdk_52_21_38 : decode jdk_52_method_21_code 38 = .ok (.iinc 5 1, 3) := by decide +kernel
theorem d_jdk_52_21_41 : decode jdk_52_method_21_code 41 = .ok (.goto (-38), 3) := by decide +kernel
theorem d_jdk_52_21_44 : decode jdk_52_method_21_code 44 = .ok (.iload 4, 2) := by decide +kernel
theorem d_jdk_52_21_46 : decode jdk_52_method_21_code 46 = .ok (.ireturn, 1) := by decide +kernel
theorem d_method_2_0 : decode method_2_code 0 = .ok (.iload_n 0, 1) := by decide +kernel
theorem d_method_2_1 : decode method_2_code 1 = .ok (.iconst 3, 1) := by decide +kernel
theorem d_method_2_2 : decode method_2_code 2 = .ok (.iand, 1) := by decide +kernel
theorem d_method_2_3 : decode method_2_code 3 = .ok (.ifCond .ne 8, 3) := by decide +kernel
theorem d_method_2_6 : decode method_2_code 6 = .ok (.bipush 58, 2) := by decide +kernel
theorem d_method_2_8 : decode method_2_code 8 = .ok (.goto 11, 3) := by decide +kernel
theorem d_method_2_11 : decode method_2_code 11 = .ok (.iload_n 0, 1) := by decide +kernel
theorem d_method_2_12 : decode method_2_code 12 = .ok (.iconst 2, 1) := by decide +kernel
theorem d_method_2_13 : decode method_2_code 13 = .ok (.ishr, 1) := by decide +kernel
theorem d_method_2_14 : decode method_2_code 14 = .ok (.sipush 255, 3) := by decide +kernel
theorem d_method_2_17 : decode method_2_code 17 = .ok (.iand, 1) := by decide +kernel
theorem d_method_2_18 : decode method_2_code 18 = .ok (.i2c, 1) := by decide +kernel
theorem d_method_2_19 : decode method_2_code 19 = .ok (.ireturn, 1) := by decide +kernel
theorem d_method_3_0 : decode method_3_code 0 = .ok (.iload_n 0, 1) := by decide +kernel
theorem d_method_3_1 : decode method_3_code 1 = .ok (.ifCond .ne 7, 3) := by decide +kernel
theorem d_method_3_4 : decode method_3_code 4 = .ok (.iconst 0, 1) := by decide +kernel
theorem d_method_3_5 : decode method_3_code 5 = .ok (.newarray .char, 2) := by decide +kernel
theorem d_method_3_7 : decode method_3_code 7 = .ok (.areturn, 1) := by decide +kernel
theorem d_method_3_8 : decode method_3_code 8 = .ok (.iload_n 0, 1) := by decide +kernel
theorem d_method_3_9 : decode method_3_code 9 = .ok (.iconst 1, 1) := by decide +kernel
theorem d_method_3_10 : decode method_3_code 10 = .ok (.if_icmp .ne 11, 3) := by decide +kernel
theorem d_method_3_13 : decode method_3_code 13 = .ok (.iconst 1, 1) := by decide +kernel
theorem d_method_3_14 : decode method_3_code 14 = .ok (.newarray .char, 2) := by decide +kernel
theorem d_method_3_16 : decode method_3_code 16 = .ok (.dup, 1) := by decide +kernel
theorem d_method_3_17 : decode method_3_code 17 = .ok (.iconst 0, 1) := by decide +kernel
theorem d_method_3_18 : decode method_3_code 18 = .ok (.iload_n 1, 1) := by decide +kernel
theorem d_method_3_19 : decode method_3_code 19 = .ok (.castore, 1) := by decide +kernel
theorem d_method_3_20 : decode method_3_code 20 = .ok (.areturn, 1) := by decide +kernel
theorem d_method_3_21 : decode method_3_code 21 = .ok (.iload_n 0, 1) := by decide +kernel
theorem d_method_3_22 : decode method_3_code 22 = .ok (.iconst 2, 1) := by decide +kernel
theorem d_method_3_23 : decode method_3_code 23 = .ok (.if_icmp .ne 15, 3) := by decide +kernel
theorem d_method_3_26 : decode method_3_code 26 = .ok (.iconst 2, 1) := by decide +kernel
theorem d_method_3_27 : decode method_3_code 27 = .ok (.newarray .char, 2) := by decide +kernel
theorem d_method_3_29 : decode method_3_code 29 = .ok (.dup, 1) := by decide +kernel
theorem d_method_3_30 : decode method_3_code 30 = .ok (.iconst 0, 1) := by decide +kernel
theorem d_method_3_31 : decode method_3_code 31 = .ok (.iload_n 1, 1) := by decide +kernel
theorem d_method_3_32 : decode method_3_code 32 = .ok (.castore, 1) := by decide +kernel
theorem d_method_3_33 : decode method_3_code 33 = .ok (.dup, 1) := by decide +kernel
theorem d_method_3_34 : decode method_3_code 34 = .ok (.iconst 1, 1) := by decide +kernel
theorem d_method_3_35 : decode method_3_code 35 = .ok (.iload_n 2, 1) := by decide +kernel
theorem d_method_3_36 : decode method_3_code 36 = .ok (.castore, 1) := by decide +kernel
theorem d_method_3_37 : decode method_3_code 37 = .ok (.areturn, 1) := by decide +kernel
theorem d_method_3_38 : decode method_3_code 38 = .ok (.iconst 3, 1) := by decide +kernel
theorem d_method_3_39 : decode method_3_code 39 = .ok (.newarray .char, 2) := by decide +kernel
theorem d_method_3_41 : decode method_3_code 41 = .ok (.dup, 1) := by decide +kernel
theorem d_method_3_42 : decode method_3_code 42 = .ok (.iconst 0, 1) := by decide +kernel
theorem d_method_3_43 : decode method_3_code 43 = .ok (.iload_n 1, 1) := by decide +kernel
theorem d_method_3_44 : decode method_3_code 44 = .ok (.castore, 1) := by decide +kernel
theorem d_method_3_45 : decode method_3_code 45 = .ok (.dup, 1) := by decide +kernel
theorem d_method_3_46 : decode method_3_code 46 = .ok (.iconst 1, 1) := by decide +kernel
theorem d_method_3_47 : decode method_3_code 47 = .ok (.iload_n 2, 1) := by decide +kernel
theorem d_method_3_48 : decode method_3_code 48 = .ok (.castore, 1) := by decide +kernel
theorem d_method_3_49 : decode method_3_code 49 = .ok (.dup, 1) := by decide +kernel
theorem d_method_3_50 : decode method_3_code 50 = .ok (.iconst 2, 1) := by decide +kernel
theorem d_method_3_51 : decode method_3_code 51 = .ok (.iload_n 3, 1) := by decide +kernel
theorem d_method_3_52 : decode method_3_code 52 = .ok (.castore, 1) := by decide +kernel
theorem d_method_3_53 : decode method_3_code 53 = .ok (.areturn, 1) := by decide +kernel
theorem d_method_4_0 : decode method_4_code 0 = .ok (.iload_n 0, 1) := by decide +kernel
theorem d_method_4_1 : decode method_4_code 1 = .ok (.iconst 3, 1) := by decide +kernel
theorem d_method_4_2 : decode method_4_code 2 = .ok (.if_icmp .lt 11, 3) := by decide +kernel
theorem d_method_4_5 : decode method_4_code 5 = .ok (.iload_n 3, 1) := by decide +kernel
theorem d_method_4_6 : decode method_4_code 6 = .ok (.bipush 58, 2) := by decide +kernel
theorem d_method_4_8 : decode method_4_code 8 = .ok (.if_icmp .ne 5, 3) := by decide +kernel
theorem d_method_4_11 : decode method_4_code 11 = .ok (.iconst 2, 1) := by decide +kernel
theorem d_method_4_12 : decode method_4_code 12 = .ok (.ireturn, 1) := by decide +kernel
theorem d_method_4_13 : decode method_4_code 13 = .ok (.iload_n 0, 1) := by decide +kernel
theorem d_method_4_14 : decode method_4_code 14 = .ok (.iconst 2, 1) := by decide +kernel
theorem d_method_4_15 : decode method_4_code 15 = .ok (.if_icmp .lt 11, 3) := by decide +kernel
theorem d_method_4_18 : decode method_4_code 18 = .ok (.iload_n 2, 1) := by decide +kernel
theorem d_method_4_19 : decode method_4_code 19 = .ok (.bipush 58, 2) := by decide +kernel
theorem d_method_4_21 : decode method_4_code 21 = .ok (.if_icmp .ne 5, 3) := by decide +kernel
theorem d_method_4_24 : decode method_4_code 24 = .ok (.iconst 1, 1) := by decide +kernel
theorem d_method_4_25 : decode method_4_code 25 = .ok (.ireturn, 1) := by decide +kernel
theorem d_method_4_26 : decode method_4_code 26 = .ok (.iload_n 0, 1) := by decide +kernel
theorem d_method_4_27 : decode method_4_code 27 = .ok (.iconst 1, 1) := by decide +kernel
theorem d_method_4_28 : decode method_4_code 28 = .ok (.if_icmp .lt 11, 3) := by decide +kernel
theorem d_method_4_31 : decode method_4_code 31 = .ok (.iload_n 1, 1) := by decide +kernel
theorem d_method_4_32 : decode method_4_code 32 = .ok (.bipush 58, 2) := by decide +kernel
theorem d_method_4_34 : decode method_4_code 34 = .ok (.if_icmp .ne 5, 3) := by decide +kernel
theorem d_method_4_37 : decode method_4_code 37 = .ok (.iconst 0, 1) := by decide +kernel
theorem d_method_4_38 : decode method_4_code 38 = .ok (.ireturn, 1) := by decide +kernel
theorem d_method_4_39 : decode method_4_code 39 = .ok (.iconst (-1), 1) := by decide +kernel
theorem d_method_4_40 : decode method_4_code 40 = .ok (.ireturn, 1) := by decide +kernel
theorem d_prog_4_3_0 : decode prog_4_method_3_code 0 = .ok (.aload_n 0, 1) := by decide +kernel
theorem d_prog_4_3_1 : decode prog_4_method_3_code 1 = .ok (.bipush 58, 2) := by decide +kernel
theorem d_prog_4_3_3 : decode prog_4_method_3_code 3 = .ok (.invokevirtual 47, 3) := by decide +kernel
theorem d_prog_4_3_6 : decode prog_4_method_3_code 6 = .ok (.istore_n 2, 1) := by decide +kernel
theorem d_prog_4_3_7 : decode prog_4_method_3_code 7 = .ok (.iload_n 2, 1) := by decide +kernel
theorem d_prog_4_3_8 : decode prog_4_method_3_code 8 = .ok (.ifCond .ge 11, 3) := by decide +kernel
theorem d_prog_4_3_11 : decode prog_4_method_3_code 11 = .ok (.aload_n 0, 1) := by decide +kernel
theorem d_prog_4_3_12 : decode prog_4_method_3_code 12 = .ok (.aload_n 1, 1) := by decide +kernel
theorem d_prog_4_3_13 : decode prog_4_method_3_code 13 = .ok (.invokevirtual 53, 3) := by decide +kernel
theorem d_prog_4_3_16 : decode prog_4_method_3_code 16 = .ok (.goto 29, 3) := by decide +kernel
theorem d_prog_4_3_19 : decode prog_4_method_3_code 19 = .ok (.iload_n 2, 1) := by decide +kernel
theorem d_prog_4_3_20 : decode prog_4_method_3_code 20 = .ok (.aload_n 1, 1) := by decide +kernel
theorem d_prog_4_3_21 : decode prog_4_method_3_code 21 = .ok (.bipush 58, 2) := by decide +kernel
theorem d_prog_4_3_23 : decode prog_4_method_3_code 23 = .ok (.invokevirtual 47, 3) := by decide +kernel
theorem d_prog_4_3_26 : decode prog_4_method_3_code 26 = .ok (.if_icmp .ne 18, 3) := by decide +kernel
theorem d_prog_4_3_29 : decode prog_4_method_3_code 29 = .ok (.aload_n 0, 1) := by decide +kernel
theorem d_prog_4_3_30 : decode prog_4_method_3_code 30 = .ok (.iconst 0, 1) := by decide +kernel
theorem d_prog_4_3_31 : decode prog_4_method_3_code 31 = .ok (.aload_n 1, 1) := by decide +kernel
theorem d_prog_4_3_32 : decode prog_4_method_3_code 32 = .ok (.iconst 0, 1) := by decide +kernel
theorem d_prog_4_3_33 : decode prog_4_method_3_code 33 = .ok (.iload_n 2, 1) := by decide +kernel
theorem d_prog_4_3_34 : decode prog_4_method_3_code 34 = .ok (.invokevirtual 57, 3) := by decide +kernel
theorem d_prog_4_3_37 : decode prog_4_method_3_code 37 = .ok (.ifCond .eq 7, 3) := by decide +kernel
theorem d_prog_4_3_40 : decode prog_4_method_3_code 40 = .ok (.iconst 1, 1) := by decide +kernel
theorem d_prog_4_3_41 : decode prog_4_method_3_code 41 = .ok (.goto 4, 3) := by decide +kernel
theorem d_prog_4_3_44 : decode prog_4_method_3_code 44 = .ok (.iconst 0, 1) := by decide +kernel
theorem d_prog_4_3_45 : decode prog_4_method_3_code 45 = .ok (.ireturn, 1) := by decide +kernel
theorem pd_0 : parseMethodDescriptor "([CI[BII)I" = some ⟨[(.array .char), .int, (.array .byte), .int, .int], some .int⟩ := by decide +kernel
theorem pd_1 : parseMethodDescriptor "([CII)[B" = some ⟨[(.array .char), .int, .int], some (.array .byte)⟩ := by decide +kernel
theorem pd_2 : parseMethodDescriptor "([BI)B" = some ⟨[(.array .byte), .int], some .byte⟩ := by decide +kernel
theorem pd_3 : parseMethodDescriptor "([CIILjava/lang/Void;)V" = some ⟨[(.array .char), .int, .int, (.object "java/lang/Void")], none⟩ := by decide +kernel
theorem pd_4 : parseMethodDescriptor "()B" = some ⟨[], some .byte⟩ := by decide +kernel
theorem pd_5 : parseMethodDescriptor "([B[B)Z" = some ⟨[(.array .byte), (.array .byte)], some .boolean⟩ := by decide +kernel
theorem pd_6 : parseMethodDescriptor "(I)Z" = some ⟨[.int], some .boolean⟩ := by decide +kernel
theorem pd_7 : parseMethodDescriptor "(II)I" = some ⟨[.int, .int], some .int⟩ := by decide +kernel
theorem pd_8 : parseMethodDescriptor "()Z" = some ⟨[], some .boolean⟩ := by decide +kernel
theorem pd_9 : parseMethodDescriptor "([BII)I" = some ⟨[(.array .byte), .int, .int], some .int⟩ := by decide +kernel
theorem pd_10 : parseMethodDescriptor "()I" = some ⟨[], some .int⟩ := by decide +kernel
theorem pd_11 : parseMethodDescriptor "([BI[BII)I" = some ⟨[(.array .byte), .int, (.array .byte), .int, .int], some .int⟩ := by decide +kernel
theorem pd_12 : parseMethodDescriptor "(I)I" = some ⟨[.int], some .int⟩ := by decide +kernel
theorem pd_13 : parseMethodDescriptor "(Ljava/lang/Object;)Z" = some ⟨[(.object "java/lang/Object")], some .boolean⟩ := by decide +kernel
theorem pd_14 : parseMethodDescriptor "(ILjava/lang/String;II)Z" = some ⟨[.int, (.object "java/lang/String"), .int, .int], some .boolean⟩ := by decide +kernel
theorem pd_15 : parseMethodDescriptor "(I)C" = some ⟨[.int], some .char⟩ := by decide +kernel
theorem pd_16 : parseMethodDescriptor "(ICCC)[C" = some ⟨[.int, .char, .char, .char], some (.array .char)⟩ := by decide +kernel
theorem pd_17 : parseMethodDescriptor "([C)V" = some ⟨[(.array .char)], none⟩ := by decide +kernel
theorem pd_18 : parseMethodDescriptor "(ICCC)I" = some ⟨[.int, .char, .char, .char], some .int⟩ := by decide +kernel
theorem pd_19 : parseMethodDescriptor "(Ljava/lang/String;Ljava/lang/String;)Z" = some ⟨[(.object "java/lang/String"), (.object "java/lang/String")], some .boolean⟩ := by decide +kernel
theorem pn_0 : plainName "java/lang/StringUTF16" = true := by first | (simp [plainName, overriddenIn]; done) | decide +kernel
theorem pn_1 : plainName "java/lang/String" = true := by first | (simp [plainName, overriddenIn]; done) | decide +kernel
theorem pn_2 : plainName "java/lang/StringLatin1" = true := by first | (simp [plainName, overriddenIn]; done) | decide +kernel
theorem pn_3 : plainName "jdk/internal/util/ArraysSupport" = true := by first | (simp [plainName, overriddenIn]; done) | decide +kernel
theorem pn_4 : plainName "com/example/grapple/grapple/internal/OwnerIds" = true := by first | (simp [plainName, overriddenIn]; done) | decide +kernel
theorem pn_5 : plainName "com/example/grapple/grapple/internal/OwnerIdsSameHolderPinLaw" = true := by first | (simp [plainName, overriddenIn]; done) | decide +kernel
theorem own_all0 {P : Int32 → Prop} : ∀ c ∈ ([] : List Int32), P c := fun _ q => nomatch q
theorem own_allS {P : Int32 → Prop} {a : Int32} {L : List Int32} (q : P a) (r : ∀ c ∈ L, P c) : ∀ c ∈ a :: L, P c := fun x z => (List.mem_cons.mp z).elim (fun u => u ▸ q) (r x)
def latB (c : Int32) : Value := .int c.toInt8.toInt32
/-- the object at a is a Latin-1 String of the chars cs; its bytes lie at b -/
def SL (Z : State) (h : Heap) (a b : Nat) (cs : List Int32) : Prop := Exa Z h a "java/lang/String" ∧ Fld Z h a "java/lang/String" "coder" "B" (.int 0) ∧ Fld Z h a "java/lang/String" "value" "[B" (.ref b) ∧ Ary Z h b .byte (cs.map latB) ∧ ∀ c ∈ cs, 0 ≤ c.toInt ∧ c.toInt ≤ 255
theorem SL.keep {Z : State} {h h' : Heap} {a b : Addr} {cs : List Int32} {ws : List Addr} (S : SL Z h a b cs) (K : Keep h h' ws) (qa : a ∉ ws) (qb : b ∉ ws) : SL Z h' a b cs := by
  obtain ⟨E, F1, F2, V, q⟩ := S
  exact ⟨E.keep K, F1.keep K qa, F2.keep K qa, V.keep K qb, q⟩
theorem SL.lt {Z : State} {h : Heap} {a b : Addr} {cs : List Int32} (S : SL Z h a b cs) : a < h.size := S.1.lt
theorem SL.ltb {Z : State} {h : Heap} {a b : Addr} {cs : List Int32} (S : SL Z h a b cs) : b < h.size := S.2.2.2.1.lt
theorem own_b8 (c : Int32) : c.toInt8.toInt32.toInt8.toInt32 = c.toInt8.toInt32 := by simp
theorem own_toInt {n : Nat} (h : n < 2 ^ 31) : n.toInt32.toInt = n := len_toInt h
theorem own_ltn {i n : Nat} (h : i < n) (hn : n < 2 ^ 31) : i.toInt32 < n.toInt32 := by
  rw [Int32.lt_iff_toInt_lt, own_toInt (by omega), own_toInt hn]; omega
theorem own_nltn {i n : Nat} (h : n ≤ i) (hn : i < 2 ^ 31) : ¬ i.toInt32 < n.toInt32 := by
  rw [Int32.lt_iff_toInt_lt, own_toInt hn, own_toInt (by omega)]; omega
theorem own_nneg {n : Nat} (hn : n < 2 ^ 31) : ¬ n.toInt32 < 0 := by
  rw [Int32.lt_iff_toInt_lt, own_toInt hn]; simp
theorem own_succ (i : Nat) : i.toInt32 + Int32.ofInt 1 = (i + 1).toInt32 := by
  show Int32.ofNat i + Int32.ofInt 1 = Int32.ofNat (i + 1)
  rw [Int32.ofNat_add]; rfl
theorem own_fill {cs : List Int32} {bs : List Value} {i : Nat} {c : Int32} (hl : bs.length = cs.length) (hc : cs[i]? = some c) : ((cs.take i).map latB ++ bs.drop i).set i (latB c) = (cs.take (i + 1)).map latB ++ bs.drop (i + 1) := by
  have hi : i < cs.length := (List.getElem?_eq_some_iff.mp hc).1
  have e1 : ((cs.take i).map latB).length = i := by simp; omega
  have e2 : bs.drop i = bs[i] :: bs.drop (i + 1) := List.drop_eq_getElem_cons (by omega)
  have e3 : cs.take (i + 1) = cs.take i ++ [c] := by rw [List.take_add_one, hc]; rfl
  rw [List.set_append_right _ _ (by omega), e1, e2, e3, Nat.sub_self, List.set_cons_zero, List.map_append, List.append_assoc]
  rfl
theorem own_back (c : Int32) (h : 0 ≤ c.toInt ∧ c.toInt ≤ 255) : nar .char (c.toInt8.toInt32 &&& 255).toUInt32.toUInt16.toUInt32.toInt32 = c := by
  have e : ∀ n : Fin 256, nar .char ((Int32.ofNat n.1).toInt8.toInt32 &&& 255).toUInt32.toUInt16.toUInt32.toInt32 = Int32.ofNat n.1 := by decide +kernel
  have q : c = Int32.ofNat c.toInt.toNat := by
    apply Int32.toInt_inj.mp
    rw [show Int32.ofNat c.toInt.toNat = c.toInt.toNat.toInt32 from rfl, own_toInt (by omega)]; omega
  rw [q]
  exact e ⟨c.toInt.toNat, by omega⟩
theorem own_csub (n : Int32) : (((n - n).toUInt32 >>> ((31 : Int32) &&& 31).toUInt32).toInt32).toInt8.toInt32 = 0 := by
  rw [Int32.sub_self]; decide
theorem own_nchar {c : Int32} (h : 0 ≤ c.toInt ∧ c.toInt < 65536) : nar .char c = c := by
  have q := c_i2c c
  apply Int32.toInt_inj.mp
  show c.toUInt32.toUInt16.toUInt32.toInt32.toInt = c.toInt
  omega
/-- the JDK's statics that String's methods read -/
def SEnv (Z : State) (cc : Int32) (fm : Value) : Prop := Sta Z Z.heap "java/lang/String" "COMPACT_STRINGS" "Z" (.int cc) ∧ ¬ cc = 0 ∧ Sta Z Z.heap "jdk/internal/util/Preconditions" "SIOOBE_FORMATTER" "Ljava/util/function/BiFunction;" fm ∧ fm.isRef = true
set_option maxRecDepth 65536 in
set_option maxHeartbeats 40000000 in
theorem c_compr (l : Launch) (Z : State) (a0 : Array Value) (hw : ∀ d ∈ tables_1, d.before a0 Z = true) (hE : EW Z a0 consts_1) (ca ba : Nat) (cs : List Int32) (bs : List Value) (h0 : Heap) (O : Ext Z.heap h0) (hn : cs.length ≤ 3) (hch : ∀ c ∈ cs, 0 ≤ c.toInt ∧ c.toInt ≤ 255) (VA : Ary Z h0 ca .char (cs.map Value.int)) (VB : Ary Z h0 ba .byte bs) (hbl : bs.length = cs.length) (hne : ca ≠ ba) (hz : Z.heap.size ≤ ba) :
    Con l Z consts_1 (⟨"java/lang/StringUTF16", "compress", "([CI[BII)I"⟩ : MethodName) jdk_52_method_21_code 7 (Option.some Jvm.ClassFile.FieldType.int) ({ frames := 0, cells := 0, slots := 0, locals := 0 } : Room) #[(.ref ca), (.int (0 : Int32)), (.ref ba), (.int (0 : Int32)), (.int cs.length.toInt32)] h0 [ba] (fun v h => v = some (.int cs.length.toInt32) ∧ Ary Z h ba .byte (cs.map latB)) := by
  refine Con.of (a0 := a0) #[.val (.ref ca), .val (.int (0 : Int32)), .val (.ref ba), .val (.int (0 : Int32)), .val (.int cs.length.toInt32), .unset, .unset] (plainFor_of_name pn_0) hE O (allS ⟨hz, VB.lt⟩ all0) (fun m => by first | (simp [entryFrame, mkF, argsToLocals, Value.category]; done) | rfl) ?_
  intro p e s m below meth c T0 hx hby hml hnm hret hlk hh W0
  have hn31 : cs.length < 2 ^ 31 := by omega
  refine g_iconst (0 : Int32) (pc' := 1) W0.here hx (hb hby d_jdk_52_21_0) rfl rfl ?_
  refine g_istore (pc' := 3) (Ls' := #[.val (.ref ca), .val (.int (0 : Int32)), .val (.ref ba), .val (.int (0 : Int32)), .val (.int cs.length.toInt32), .val (.int (0 : Int32)), .unset]) W0.here hx (hb hby d_jdk_52_21_1) rfl rfl ?_
  have LOOP : ∀ (k i : Nat), i + k = cs.length → ∀ (TL : State) (hL : Heap) (o6 : Slot), One o6 → Wk p l e ({ frames := 0, cells := 0, slots := 0, locals := 0 } : Room) s m #[(.ref ca), (.int (0 : Int32)), (.ref ba), (.int (0 : Int32)), (.int cs.length.toInt32)] below meth c Z consts_1 "java/lang/StringUTF16" [ba] [] TL hL 0 0 → Keep h0 hL [ba] → Ary Z hL ba .byte ((cs.take i).map latB ++ bs.drop i) → Gets p.tables e below (Post s Z consts_1 ({ frames := 0, cells := 0, slots := 0, locals := 0 } : Room) h0 [ba] (fun v h => v = some (.int cs.length.toInt32) ∧ Ary Z h ba .byte (cs.map latB))) TL (mkF m 3 #[.val (.ref ca), .val (.int i.toInt32), .val (.ref ba), .val (.int i.toInt32), .val (.int cs.length.toInt32), .val (.int i.toInt32), o6] []) := by
    intro k
    induction k with
    | zero =>
      intro i hi TL hL o6 ho6 WL KL VBL
      have VAL := VA.keep KL (ninS hne nin0)
      refine g_iload (pc' := 5) WL.here hx (hb hby d_jdk_52_21_3) rfl rfl ?_
      refine g_iload (pc' := 7) WL.here hx (hb hby d_jdk_52_21_5) rfl rfl ?_
      refine g_icmpY (pc' := 44) WL.here hx (hb hby d_jdk_52_21_7) rfl (flt (show ¬ (i.toInt32 < cs.length.toInt32) from (own_nltn (by omega) (by omega)))).2.1 ?_
      refine g_iload (pc' := 46) WL.here hx (hb hby d_jdk_52_21_44) rfl rfl ?_
      refine w_retI WL hx hh hlk hret (hb hby d_jdk_52_21_46) (Nat.le_of_ble_eq_true rfl) (Nat.le_of_ble_eq_true rfl) ?_
      have e1 : i = cs.length := by omega
      subst e1
      rw [List.take_length, List.drop_eq_nil_of_le (by omega), List.append_nil] at VBL
      exact ⟨rfl, VBL⟩
    | succ k ih =>
      intro i hi TL hL o6 ho6 WL KL VBL
      have VAL := VA.keep KL (ninS hne nin0)
      have hi2 : i < cs.length := by omega
      obtain ⟨ci, hci⟩ : ∃ ci, cs[i]? = some ci := ⟨_, List.getElem?_eq_getElem hi2⟩
      have hcm : ci ∈ cs := List.mem_of_getElem? hci
      have hcr := hch ci hcm
      refine g_iload (pc' := 5) WL.here hx (hb hby d_jdk_52_21_3) rfl rfl ?_
      refine g_iload (pc' := 7) WL.here hx (hb hby d_jdk_52_21_5) rfl rfl ?_
      refine g_icmpN (pc' := 10) WL.here hx (hb hby d_jdk_52_21_7) rfl (tlt (show i.toInt32 < cs.length.toInt32 from (own_ltn hi2 hn31))).2.1 ?_
      refine g_aloadN (pc' := 11) WL.here hx (hb hby d_jdk_52_21_10) rfl rfl rfl ?_
      refine g_iloadN (pc' := 12) WL.here hx (hb hby d_jdk_52_21_11) rfl rfl ?_
      refine w_caload (pc' := 13) (v := (.int ci)) WL hx VAL (own_nneg (by omega)) (by rw [i32_nat (by omega), List.getElem?_map, hci]; rfl) (hb hby d_jdk_52_21_12) rfl ?_
      refine g_istore (pc' := 15) (Ls' := #[.val (.ref ca), .val (.int i.toInt32), .val (.ref ba), .val (.int i.toInt32), .val (.int cs.length.toInt32), .val (.int i.toInt32), .val (.int ci)]) WL.here hx (hb hby d_jdk_52_21_13) (XS.store1 (o := o6) rfl ho6 rfl) rfl ?_
      refine g_iload (pc' := 17) WL.here hx (hb hby d_jdk_52_21_15) rfl rfl ?_
      refine g_sipush (255 : Int32) (pc' := 20) WL.here hx (hb hby d_jdk_52_21_17) rfl rfl ?_
      refine g_icmpY (pc' := 26) WL.here hx (hb hby d_jdk_52_21_20) rfl (flt (show ¬ ((255 : Int32) < ci) from (by rw [Int32.lt_iff_toInt_lt]; have : (255 : Int32).toInt = 255 := rfl; omega))).2.2.2 ?_
      refine g_aloadN (pc' := 27) WL.here hx (hb hby d_jdk_52_21_26) rfl rfl rfl ?_
      refine g_iloadN (pc' := 28) WL.here hx (hb hby d_jdk_52_21_27) rfl rfl ?_
      refine g_iload (pc' := 30) WL.here hx (hb hby d_jdk_52_21_28) rfl rfl ?_
      refine g_i2b (pc' := 31) WL.here hx (hb hby d_jdk_52_21_30) rfl ?_
      refine w_bastore (pc' := 32) (x' := ci.toInt8.toInt32) WL hx VBL (own_nneg (by omega)) (by rw [i32_nat (by omega)]; simp; omega) (List.mem_of_getElem? (i := 0) rfl) (own_b8 ci) (hb hby d_jdk_52_21_31) rfl fun T1 h1 W1 K1 V1 => ?_
      have z_K1 : hL.size ≤ h1.size := K1.1
      have V1 : Ary Z h1 ba .byte ((cs.take (i + 1)).map latB ++ bs.drop (i + 1)) := by rw [i32_nat (by omega)] at V1; rw [← own_fill hbl hci]; exact V1
      refine g_iincV (i + 1).toInt32 (pc' := 35) (Ls' := #[.val (.ref ca), .val (.int (i + 1).toInt32), .val (.ref ba), .val (.int i.toInt32), .val (.int cs.length.toInt32), .val (.int i.toInt32), .val (.int ci)]) W1.here hx (hb hby d_jdk_52_21_32) (own_succ i) rfl rfl rfl ?_
      refine g_iincV (i + 1).toInt32 (pc' := 38) (Ls' := #[.val (.ref ca), .val (.int (i + 1).toInt32), .val (.ref ba), .val (.int (i + 1).toInt32), .val (.int cs.length.toInt32), .val (.int i.toInt32), .val (.int ci)]) W1.here hx (hb hby d_jdk_52_21_35) (own_succ i) rfl rfl rfl ?_
      refine g_iincV (i + 1).toInt32 (pc' := 41) (Ls' := #[.val (.ref ca), .val (.int (i + 1).toInt32), .val (.ref ba), .val (.int (i + 1).toInt32), .val (.int cs.length.toInt32), .val (.int (i + 1).toInt32), .val (.int ci)]) W1.here hx (hb hby d_jdk_52_21_38) (own_succ i) rfl rfl rfl ?_
      refine g_goto (pc' := 3) W1.here hx (hb hby d_jdk_52_21_41) rfl ?_
      exact ih (i + 1) (by omega) _ _ _ (One.val rfl) W1 (KL.trans K1 (fun x q => Or.inl q)) V1
  exact LOOP cs.length 0 (by omega) _ _ _ One.u W0 (Keep.refl _ _) (by simpa using VB)
set_option maxRecDepth 65536 in
set_option maxHeartbeats 40000000 in
theorem c_compress (l : Launch) (Z : State) (a0 : Array Value) (hw : ∀ d ∈ tables_1, d.before a0 Z = true) (hE : EW Z a0 consts_1) (ca : Nat) (cs : List Int32) (h0 : Heap) (O : Ext Z.heap h0) (hn : cs.length ≤ 3) (hch : ∀ c ∈ cs, 0 ≤ c.toInt ∧ c.toInt ≤ 255) (VA : Ary Z h0 ca .char (cs.map Value.int))  :
    Con l Z consts_1 (⟨"java/lang/StringUTF16", "compress", "([CII)[B"⟩ : MethodName) jdk_52_method_16_code 6 (Option.some (Jvm.ClassFile.FieldType.array Jvm.ClassFile.FieldType.byte)) ({ frames := 1, cells := 1, slots := 3, locals := 18 } : Room) #[(.ref ca), (.int (0 : Int32)), (.int cs.length.toInt32)] h0 [] (fun v h => ∃ ba : Nat, v = some (.ref ba) ∧ h0.size ≤ ba ∧ Ary Z h ba .byte (cs.map latB)) := by
  refine Con.of (a0 := a0) #[.val (.ref ca), .val (.int (0 : Int32)), .val (.int cs.length.toInt32), .unset, .unset, .unset] (plainFor_of_name pn_0) hE O all0 (fun m => by first | (simp [entryFrame, mkF, argsToLocals, Value.category]; done) | rfl) ?_
  intro p e s m below meth c T0 hx hby hml hnm hret hlk hh W0
  have hn31 : cs.length < 2 ^ 31 := by omega
  have lt_ca : ca < h0.size := VA.lt
  refine g_iloadN (pc' := 1) W0.here hx (hb hby d_jdk_52_16_0) rfl rfl ?_
  refine w_newarr (pc' := 3) (cap := 3) W0 hx (hw _ (List.mem_of_getElem? w_22)) (hb hby d_jdk_52_16_1) (own_nneg hn31) (by rw [i32_nat hn31]; exact hn) (Nat.le_of_ble_eq_true rfl) (Nat.le_of_ble_eq_true rfl) (Nat.le_of_ble_eq_true rfl) rfl rfl fun T2 h2 b2 g2 W2 K2 V2 => ?_
  have z_K2 : h0.size ≤ h2.size := K2.1
  have ne_ca_b2 : ca ≠ b2 := by omega
  have lt_b2 : b2 < h2.size := W2.lt (List.mem_cons_self ..)
  have V3 : Ary Z h2 b2 .byte (List.replicate cs.length (.int 0)) := by rw [i32_nat hn31] at V2; exact V2
  refine g_astoreN (pc' := 4) (Ls' := #[.val (.ref ca), .val (.int (0 : Int32)), .val (.int cs.length.toInt32), .val (.ref b2), .unset, .unset]) W2.here hx (hb hby d_jdk_52_16_3) rfl rfl rfl ?_
  refine g_aloadN (pc' := 5) W2.here hx (hb hby d_jdk_52_16_4) rfl rfl rfl ?_
  refine g_iloadN (pc' := 6) W2.here hx (hb hby d_jdk_52_16_5) rfl rfl ?_
  refine g_aloadN (pc' := 7) W2.here hx (hb hby d_jdk_52_16_6) rfl rfl rfl ?_
  refine g_iconst (0 : Int32) (pc' := 8) W2.here hx (hb hby d_jdk_52_16_7) rfl rfl ?_
  refine g_iloadN (pc' := 9) W2.here hx (hb hby d_jdk_52_16_8) rfl rfl ?_
  have c4 := (VA.keep K2 nin0)
  refine w_callS (pc' := 12) (st := []) (y := (⟨"java/lang/StringUTF16", "compress", "([CI[BII)I"⟩ : MethodName)) W2 hx [(.ref ca), (.int (0 : Int32)), (.ref b2), (.int (0 : Int32)), (.int cs.length.toInt32)] (hw _ (List.mem_of_getElem? w_86)) (hw _ (List.mem_of_getElem? w_87)) (hw _ (List.mem_of_getElem? w_84)) (hw _ (List.mem_of_getElem? w_88)) (by decide) (c_compr l Z a0 hw hE ca b2 cs _ h2 W2.old hn hch c4 V3 (by simp) ne_ca_b2 (by have := O.1; omega)) (allS (List.mem_of_getElem? (i := 0) rfl) all0) (by rw [hml]; rfl) (lenOf pd_0 rfl) rfl (hb hby d_jdk_52_16_9) (Nat.le_of_ble_eq_true rfl) (Nat.le_of_ble_eq_true rfl) (Nat.le_of_ble_eq_true rfl) (Nat.le_of_ble_eq_true rfl) rfl fun v5 T5 h5 W5 K5 Q5 => ?_
  have z_K5 : h2.size ≤ h5.size := K5.1
  obtain ⟨rfl, V6⟩ := Q5
  refine g_istore (pc' := 14) (Ls' := #[.val (.ref ca), .val (.int (0 : Int32)), .val (.int cs.length.toInt32), .val (.ref b2), .val (.int cs.length.toInt32), .unset]) W5.here hx (hb hby d_jdk_52_16_12) rfl rfl ?_
  refine g_iload (pc' := 16) W5.here hx (hb hby d_jdk_52_16_14) rfl rfl ?_
  refine g_iloadN (pc' := 17) W5.here hx (hb hby d_jdk_52_16_16) rfl rfl ?_
  refine g_icmpY (pc' := 57) W5.here hx (hb hby d_jdk_52_16_17) rfl (teq (show cs.length.toInt32 = cs.length.toInt32 from rfl)).1 ?_
  refine g_aloadN (pc' := 58) W5.here hx (hb hby d_jdk_52_16_57) rfl rfl rfl ?_
  refine w_retA W5 hx hh hlk hret rfl rfl (hb hby d_jdk_52_16_58) (Nat.le_of_ble_eq_true rfl) (Nat.le_of_ble_eq_true rfl) ?_
  exact ⟨_, rfl, by omega, V6⟩
set_option maxRecDepth 65536 in
set_option maxHeartbeats 40000000 in
theorem c_coderFrom (l : Launch) (Z : State) (a0 : Array Value) (hw : ∀ d ∈ tables_1, d.before a0 Z = true) (hE : EW Z a0 consts_1) (ba : Nat) (cs : List Int32) (bs : List Value) (h0 : Heap) (O : Ext Z.heap h0) (VB : Ary Z h0 ba .byte bs) (hbl : bs.length = cs.length) :
    Con l Z consts_1 (⟨"java/lang/StringUTF16", "coderFromArrayLen", "([BI)B"⟩ : MethodName) jdk_52_method_15_code 2 (Option.some Jvm.ClassFile.FieldType.byte) ({ frames := 0, cells := 0, slots := 0, locals := 0 } : Room) #[(.ref ba), (.int cs.length.toInt32)] h0 [] (pureQ (some (.int 0)) h0) := by
  refine Con.of (a0 := a0) #[.val (.ref ba), .val (.int cs.length.toInt32)] (plainFor_of_name pn_0) hE O all0 (fun m => by first | (simp [entryFrame, mkF, argsToLocals, Value.category]; done) | rfl) ?_
  intro p e s m below meth c T0 hx hby hml hnm hret hlk hh W0
  refine g_iloadN (pc' := 1) W0.here hx (hb hby d_jdk_52_15_0) rfl rfl ?_
  refine g_aloadN (pc' := 2) W0.here hx (hb hby d_jdk_52_15_1) rfl rfl rfl ?_
  refine w_len (pc' := 3) W0 hx VB (hb hby d_jdk_52_15_2) rfl ?_
  refine g_name (w := .int cs.length.toInt32) (congrArg Value.int (by rw [hbl])) ?_
  refine g_isub (pc' := 4) W0.here hx (hb hby d_jdk_52_15_3) rfl ?_
  refine g_bipush (31 : Int32) (pc' := 6) W0.here hx (hb hby d_jdk_52_15_4) rfl rfl ?_
  refine g_iushr (pc' := 7) W0.here hx (hb hby d_jdk_52_15_6) rfl ?_
  refine g_i2b (pc' := 8) W0.here hx (hb hby d_jdk_52_15_7) rfl ?_
  refine w_retN (t := .byte) W0 hx hh hlk hret (by simp) (hb hby d_jdk_52_15_8) (Nat.le_of_ble_eq_true rfl) (Nat.le_of_ble_eq_true rfl) ?_
  exact ⟨congrArg (fun z => some (Value.int z)) (by rw [own_csub]; rfl), rfl⟩
theorem own_pos0 {n : Nat} (h : 0 < n) (hn : n < 2 ^ 31) : ¬ n.toInt32 = 0 := fun q => by
  have := congrArg Int32.toInt q
  rw [own_toInt hn] at this
  simp at this; omega
theorem own_nil {cs : List Int32} (hn : cs.length < 2 ^ 31) (q : cs.length.toInt32 = (0 : Int32)) : cs = [] := by
  cases cs with
  | nil => rfl
  | cons a t => exact absurd q (own_pos0 (by simp) hn)
theorem own_atoms {Z : State} {a0 : Array Value} (hw : ∀ d ∈ tables_1, d.before a0 Z = true) : ∀ a ∈ Bundle.stringAtoms, a.before a0 Z = true := fun d hd => by
  simp only [Bundle.stringAtoms, Bundle.sN, List.mem_cons, List.not_mem_nil, or_false] at hd
  rcases hd with rfl | rfl | rfl | rfl | rfl | rfl | rfl
  · exact (hw _ (List.mem_of_getElem? w_6))
  · exact (hw _ (List.mem_of_getElem? w_5))
  · exact (hw _ (List.mem_of_getElem? w_22))
  · exact (hw _ (List.mem_of_getElem? w_23))
  · exact (hw _ (List.mem_of_getElem? w_24))
  · exact (hw _ (List.mem_of_getElem? w_25))
  · exact (hw _ (List.mem_of_getElem? w_26))
set_option maxRecDepth 65536 in
set_option maxHeartbeats 40000000 in
theorem c_str4 (l : Launch) (Z : State) (a0 : Array Value) (hw : ∀ d ∈ tables_1, d.before a0 Z = true) (hE : EW Z a0 consts_1) (cc : Int32) (fm : Value) (o ca : Nat) (cs : List Int32) (h0 : Heap) (O : Ext Z.heap h0) (G : SEnv Z cc fm) (hn : cs.length ≤ 3) (hch : ∀ c ∈ cs, 0 ≤ c.toInt ∧ c.toInt ≤ 255) (VA : Ary Z h0 ca .char (cs.map Value.int)) (hz : Z.heap.size ≤ o) (E0 : Exa Z h0 o "java/lang/String") (u1 u2 : Value) (F1 : Fld Z h0 o "java/lang/String" "coder" "B" u1) (F2 : Fld Z h0 o "java/lang/String" "value" "[B" u2) (hoc : o ≠ ca)  :
    Con l Z consts_1 (⟨"java/lang/String", "<init>", "([CIILjava/lang/Void;)V"⟩ : MethodName) jdk_42_method_149_code 6 (Option.none : Option Jvm.ClassFile.FieldType) ({ frames := 2, cells := 4, slots := 8, locals := 35 } : Room) #[(.ref o), (.ref ca), (.int (0 : Int32)), (.int cs.length.toInt32), .null] h0 [o] (fun v h => v = none ∧ ∃ b : Nat, SL Z h o b cs) := by
  refine Con.of (a0 := a0) #[.val (.ref o), .val (.ref ca), .val (.int (0 : Int32)), .val (.int cs.length.toInt32), .val .null, .unset] (plainFor_of_name pn_1) hE O (allS ⟨hz, E0.lt⟩ all0) (fun m => by first | (simp [entryFrame, mkF, argsToLocals, Value.category]; done) | rfl) ?_
  intro p e s m below meth c T0 hx hby hml hnm hret hlk hh W0
  have hn31 : cs.length < 2 ^ 31 := by omega
  have lt_ca : ca < h0.size := VA.lt
  have lt_o : o < h0.size := E0.lt
  refine g_aloadN (pc' := 1) W0.here hx (hb hby d_jdk_42_149_0) rfl rfl rfl ?_
  refine w_initO (pc' := 4) W0 hx (hw _ (List.mem_of_getElem? w_18)) (hw _ (List.mem_of_getElem? w_19)) (hw _ (List.mem_of_getElem? w_20)) (by rw [hml]; rfl) (hb hby d_jdk_42_149_1) (Nat.le_of_ble_eq_true rfl) (Nat.le_of_ble_eq_true rfl) rfl fun T7 W7 => ?_
  refine g_iloadN (pc' := 5) W7.here hx (hb hby d_jdk_42_149_4) rfl rfl ?_
  by_cases hc5_8 : cs.length.toInt32 = (0 : Int32)
  · refine g_ifN (pc' := 8) W7.here hx (hb hby d_jdk_42_149_5) rfl (teq hc5_8).2 ?_
    have e0 : cs = [] := own_nil hn31 hc5_8
    refine g_aloadN (pc' := 9) W7.here hx (hb hby d_jdk_42_149_8) rfl rfl rfl ?_
    refine w_ldcS (pc' := 11) (vs := []) (z := 0) W7 hx (hw _ (List.mem_of_getElem? w_21)) (own_atoms hw) (List.mem_of_getElem? (i := 0) rfl) ⟨fun _ q => (nomatch q), rfl⟩ (by decide) rfl (hb hby d_jdk_42_149_9) 0 (Nat.le_of_ble_eq_true rfl) (Nat.le_of_ble_eq_true rfl) (Nat.le_of_ble_eq_true rfl) (Nat.le_of_ble_eq_true rfl) rfl fun T9 h9 sa9 sb9 W9 K9 A9 C9 F9 V9 N9 => ?_
    have z_K9 : h0.size ≤ h9.size := K9.1
    obtain ⟨ne_o_sa9, ne_o_sb9⟩ := N9 o (List.mem_of_getElem? (i := 0) rfl)
    refine w_get (pc' := 14) W9 hx (hw _ (List.mem_of_getElem? w_27)) Via.refl F9 (hb hby d_jdk_42_149_11) rfl fun T10 W10 => ?_
    have c11 := (F2.keep K9 nin0)
    have c12 := (E0.keep K9)
    refine w_put (pc' := 17) W10 hx (hw _ (List.mem_of_getElem? w_27)) Via.refl c11 c12 (Or.inr ⟨(hw _ (List.mem_of_getElem? w_23)), rfl, hnm⟩) (hw _ (List.mem_of_getElem? w_5)) (ty := (.array .byte)) (by decide) rfl rfl (List.mem_of_getElem? (i := 0) rfl) (hb hby d_jdk_42_149_14) rfl fun T13 h13 W13 K13 R13 F13 A13 => ?_
    have c14 := (F1.keep K9 nin0)
    have z_K13 : h9.size ≤ h13.size := K13.1
    have c15 := (c14.other R13 (Or.inr (slot_ne (Or.inr (hw _ (List.mem_of_getElem? w_24))) (Or.inr (hw _ (List.mem_of_getElem? w_23))) (by decide) (t := .byte) (t' := (.array .byte)) (by decide) (by decide))))
    refine g_aloadN (pc' := 18) W13.here hx (hb hby d_jdk_42_149_17) rfl rfl rfl ?_
    refine w_ldcS (pc' := 20) (vs := []) (z := 0) W13 hx (hw _ (List.mem_of_getElem? w_21)) (own_atoms hw) (List.mem_of_getElem? (i := 0) rfl) ⟨fun _ q => (nomatch q), rfl⟩ (by decide) rfl (hb hby d_jdk_42_149_18) 0 (Nat.le_of_ble_eq_true rfl) (Nat.le_of_ble_eq_true rfl) (Nat.le_of_ble_eq_true rfl) (Nat.le_of_ble_eq_true rfl) rfl fun T16 h16 sa16 sb16 W16 K16 A16 C16 F16 V16 N16 => ?_
    have z_K16 : h13.size ≤ h16.size := K16.1
    obtain ⟨ne_o_sa16, ne_o_sb16⟩ := N16 o (List.mem_of_getElem? (i := 0) rfl)
    refine w_get (pc' := 23) W16 hx (hw _ (List.mem_of_getElem? w_28)) Via.refl C16 (hb hby d_jdk_42_149_20) rfl fun T17 W17 => ?_
    have c18 := (c15.keep K16 nin0)
    have c19 := (A13.keep K16)
    refine w_putN (pc' := 26) (v' := (.int (0 : Int32))) W17 hx (hw _ (List.mem_of_getElem? w_28)) Via.refl c18 c19 (Or.inr ⟨(hw _ (List.mem_of_getElem? w_24)), rfl, hnm⟩) (hw _ (List.mem_of_getElem? w_5)) (ty := .byte) (by decide) rfl rfl (List.mem_of_getElem? (i := 0) rfl) (hb hby d_jdk_42_149_23) rfl fun T20 h20 W20 K20 R20 F20 A20 => ?_
    have c21 := (F13.keep K16 nin0)
    have z_K20 : h16.size ≤ h20.size := K20.1
    have c22 := (c21.other R20 (Or.inr (slot_ne (Or.inr (hw _ (List.mem_of_getElem? w_23))) (Or.inr (hw _ (List.mem_of_getElem? w_24))) (by decide) (t := (.array .byte)) (t' := .byte) (by decide) (by decide))))
    have c23 := (((V9.keep K13 (ninS (Ne.symm ne_o_sb9) nin0)).keep K16 nin0).keep K20 (ninS (Ne.symm ne_o_sb9) nin0))
    refine w_retV W20 hx hh hlk hret (hb hby d_jdk_42_149_26) (Nat.le_of_ble_eq_true rfl) (Nat.le_of_ble_eq_true rfl) ?_
    refine ⟨rfl, sb9, A20, F20, c22, ?_, hch⟩
    rw [e0]; exact c23
  · refine g_ifY (pc' := 27) W7.here hx (hb hby d_jdk_42_149_5) rfl (feq hc5_8).2 ?_
    refine w_getS (pc' := 30) W7 hx (hw _ (List.mem_of_getElem? w_51)) Via.refl G.1 (hb hby d_jdk_42_149_27) rfl fun T24 W24 => ?_
    refine g_ifN (pc' := 33) W24.here hx (hb hby d_jdk_42_149_30) rfl (feq (show ¬ (cc = (0 : Int32)) from G.2.1)).1 ?_
    refine g_aloadN (pc' := 34) W24.here hx (hb hby d_jdk_42_149_33) rfl rfl rfl ?_
    refine g_iloadN (pc' := 35) W24.here hx (hb hby d_jdk_42_149_34) rfl rfl ?_
    refine g_iloadN (pc' := 36) W24.here hx (hb hby d_jdk_42_149_35) rfl rfl ?_
    refine w_callS (pc' := 39) (st := []) (y := (⟨"java/lang/StringUTF16", "compress", "([CII)[B"⟩ : MethodName)) W24 hx [(.ref ca), (.int (0 : Int32)), (.int cs.length.toInt32)] (hw _ (List.mem_of_getElem? w_82)) (hw _ (List.mem_of_getElem? w_83)) (hw _ (List.mem_of_getElem? w_84)) (hw _ (List.mem_of_getElem? w_85)) (by decide) (c_compress l Z a0 hw hE ca cs h0 W24.old hn hch VA) all0 (by rw [hml]; rfl) (lenOf pd_1 rfl) rfl (hb hby d_jdk_42_149_36) (Nat.le_of_ble_eq_true rfl) (Nat.le_of_ble_eq_true rfl) (Nat.le_of_ble_eq_true rfl) (Nat.le_of_ble_eq_true rfl) rfl fun v25 T25 h25 W25 K25 Q25 => ?_
    have z_K25 : h0.size ≤ h25.size := K25.1
    obtain ⟨ba26, rfl, gz26, V26⟩ := Q25
    have ne_ca_ba26 : ca ≠ ba26 := by omega
    have ne_o_ba26 : o ≠ ba26 := by omega
    have lt_ba26 : ba26 < h25.size := V26.lt
    refine g_astore (pc' := 41) (Ls' := #[.val (.ref o), .val (.ref ca), .val (.int (0 : Int32)), .val (.int cs.length.toInt32), .val .null, .val (.ref ba26)]) W25.here hx (hb hby d_jdk_42_149_39) rfl rfl rfl ?_
    refine g_aloadN (pc' := 42) W25.here hx (hb hby d_jdk_42_149_41) rfl rfl rfl ?_
    refine g_aload (pc' := 44) W25.here hx (hb hby d_jdk_42_149_42) rfl rfl rfl ?_
    refine g_iloadN (pc' := 45) W25.here hx (hb hby d_jdk_42_149_44) rfl rfl ?_
    refine w_callSp (pc' := 48) (st := [(.ref o)]) (y := (⟨"java/lang/StringUTF16", "coderFromArrayLen", "([BI)B"⟩ : MethodName)) W25 hx [(.ref ba26), (.int cs.length.toInt32)] (hw _ (List.mem_of_getElem? w_89)) (hw _ (List.mem_of_getElem? w_90)) (hw _ (List.mem_of_getElem? w_84)) (hw _ (List.mem_of_getElem? w_91)) (by decide) (c_coderFrom l Z a0 hw hE ba26 cs _ h25 W25.old V26 (by simp)) (by rw [hml]; rfl) (lenOf pd_2 rfl) rfl (hb hby d_jdk_42_149_45) (Nat.le_of_ble_eq_true rfl) (Nat.le_of_ble_eq_true rfl) rfl rfl (Nat.le_of_ble_eq_true rfl) (Nat.le_of_ble_eq_true rfl) rfl fun T27 W27 => ?_
    have c28 := (F1.keep K25 nin0)
    have c29 := (E0.keep K25)
    refine w_putN (pc' := 51) (v' := (.int (0 : Int32))) W27 hx (hw _ (List.mem_of_getElem? w_28)) Via.refl c28 c29 (Or.inr ⟨(hw _ (List.mem_of_getElem? w_24)), rfl, hnm⟩) (hw _ (List.mem_of_getElem? w_5)) (ty := .byte) (by decide) rfl rfl (List.mem_of_getElem? (i := 0) rfl) (hb hby d_jdk_42_149_48) rfl fun T30 h30 W30 K30 R30 F30 A30 => ?_
    have c31 := (F2.keep K25 nin0)
    have z_K30 : h25.size ≤ h30.size := K30.1
    have c32 := (c31.other R30 (Or.inr (slot_ne (Or.inr (hw _ (List.mem_of_getElem? w_23))) (Or.inr (hw _ (List.mem_of_getElem? w_24))) (by decide) (t := (.array .byte)) (t' := .byte) (by decide) (by decide))))
    refine g_aloadN (pc' := 52) W30.here hx (hb hby d_jdk_42_149_51) rfl rfl rfl ?_
    refine g_aload (pc' := 54) W30.here hx (hb hby d_jdk_42_149_52) rfl rfl rfl ?_
    refine w_put (pc' := 57) W30 hx (hw _ (List.mem_of_getElem? w_27)) Via.refl c32 A30 (Or.inr ⟨(hw _ (List.mem_of_getElem? w_23)), rfl, hnm⟩) (hw _ (List.mem_of_getElem? w_5)) (ty := (.array .byte)) (by decide) rfl rfl (List.mem_of_getElem? (i := 0) rfl) (hb hby d_jdk_42_149_54) rfl fun T33 h33 W33 K33 R33 F33 A33 => ?_
    have z_K33 : h30.size ≤ h33.size := K33.1
    have c34 := (F30.other R33 (Or.inr (slot_ne (Or.inr (hw _ (List.mem_of_getElem? w_24))) (Or.inr (hw _ (List.mem_of_getElem? w_23))) (by decide) (t := .byte) (t' := (.array .byte)) (by decide) (by decide))))
    have c35 := ((V26.keep K30 (ninS (Ne.symm ne_o_ba26) nin0)).keep K33 (ninS (Ne.symm ne_o_ba26) nin0))
    refine w_retV W33 hx hh hlk hret (hb hby d_jdk_42_149_57) (Nat.le_of_ble_eq_true rfl) (Nat.le_of_ble_eq_true rfl) ?_
    exact ⟨rfl, ba26, A33, c34, F33, c35, hch⟩
set_option maxRecDepth 65536 in
set_option maxHeartbeats 40000000 in
theorem c_strC (l : Launch) (Z : State) (a0 : Array Value) (hw : ∀ d ∈ tables_1, d.before a0 Z = true) (hE : EW Z a0 consts_1) (cc : Int32) (fm : Value) (o ca : Nat) (cs : List Int32) (h0 : Heap) (O : Ext Z.heap h0) (G : SEnv Z cc fm) (hn : cs.length ≤ 3) (hch : ∀ c ∈ cs, 0 ≤ c.toInt ∧ c.toInt ≤ 255) (VA : Ary Z h0 ca .char (cs.map Value.int)) (hz : Z.heap.size ≤ o) (E0 : Exa Z h0 o "java/lang/String") (u1 u2 : Value) (F1 : Fld Z h0 o "java/lang/String" "coder" "B" u1) (F2 : Fld Z h0 o "java/lang/String" "value" "[B" u2) (hoc : o ≠ ca)  :
    Con l Z consts_1 (⟨"java/lang/String", "<init>", "([C)V"⟩ : MethodName) jdk_42_method_3_code 2 (Option.none : Option Jvm.ClassFile.FieldType) ({ frames := 3, cells := 4, slots := 8, locals := 52 } : Room) #[(.ref o), (.ref ca)] h0 [o] (fun v h => v = none ∧ ∃ b : Nat, SL Z h o b cs) := by
  refine Con.of (a0 := a0) #[.val (.ref o), .val (.ref ca)] (plainFor_of_name pn_1) hE O (allS ⟨hz, E0.lt⟩ all0) (fun m => by first | (simp [entryFrame, mkF, argsToLocals, Value.category]; done) | rfl) ?_
  intro p e s m below meth c T0 hx hby hml hnm hret hlk hh W0
  have hn31 : cs.length < 2 ^ 31 := by omega
  have lt_ca : ca < h0.size := VA.lt
  have lt_o : o < h0.size := E0.lt
  refine g_aloadN (pc' := 1) W0.here hx (hb hby d_jdk_42_3_0) rfl rfl rfl ?_
  refine g_aloadN (pc' := 2) W0.here hx (hb hby d_jdk_42_3_1) rfl rfl rfl ?_
  refine g_iconst (0 : Int32) (pc' := 3) W0.here hx (hb hby d_jdk_42_3_2) rfl rfl ?_
  refine g_aloadN (pc' := 4) W0.here hx (hb hby d_jdk_42_3_3) rfl rfl rfl ?_
  refine w_len (pc' := 5) W0 hx VA (hb hby d_jdk_42_3_4) rfl ?_
  refine g_name (w := .int cs.length.toInt32) (congrArg Value.int (by rw [List.length_map])) ?_
  refine g_aconstNull (pc' := 6) W0.here hx (hb hby d_jdk_42_3_5) rfl ?_
  refine w_special (pc' := 9) (st := []) (y := (⟨"java/lang/String", "<init>", "([CIILjava/lang/Void;)V"⟩ : MethodName)) (a := o) W0 hx [(.ref ca), (.int (0 : Int32)), (.int cs.length.toInt32), .null] rfl (hw _ (List.mem_of_getElem? w_14)) (hw _ (List.mem_of_getElem? w_15)) (hw _ (List.mem_of_getElem? w_6)) (hw _ (List.mem_of_getElem? w_17)) (by decide) (c_str4 l Z a0 hw hE cc fm o ca cs h0 W0.old G hn hch VA (by have := O.1; omega) E0 _ _ F1 F2 hoc) (allS (List.mem_of_getElem? (i := 0) rfl) all0) (by rw [hml]; rfl) (lenOf pd_3 rfl) rfl (hb hby d_jdk_42_3_6) (Nat.le_of_ble_eq_true rfl) (Nat.le_of_ble_eq_true rfl) (Nat.le_of_ble_eq_true rfl) (Nat.le_of_ble_eq_true rfl) rfl fun v36 T36 h36 W36 K36 Q36 => ?_
  have z_K36 : h0.size ≤ h36.size := K36.1
  obtain ⟨rfl, sb37, S37⟩ := Q36
  have ES37 := S37.1
  have lt_sb37 : sb37 < h36.size := S37.ltb
  refine w_retV W36 hx hh hlk hret (hb hby d_jdk_42_3_9) (Nat.le_of_ble_eq_true rfl) (Nat.le_of_ble_eq_true rfl) ?_
  exact ⟨rfl, _, S37⟩
set_option maxRecDepth 65536 in
set_option maxHeartbeats 40000000 in
theorem c_coder (l : Launch) (Z : State) (a0 : Array Value) (hw : ∀ d ∈ tables_1, d.before a0 Z = true) (hE : EW Z a0 consts_1) (cc : Int32) (fm : Value) (a b : Nat) (cs : List Int32)  (h0 : Heap) (O : Ext Z.heap h0) (G : SEnv Z cc fm) (S0 : SL Z h0 a b cs)  :
    Con l Z consts_1 (⟨"java/lang/String", "coder", "()B"⟩ : MethodName) jdk_42_method_152_code 1 (Option.some Jvm.ClassFile.FieldType.byte) ({ frames := 0, cells := 0, slots := 0, locals := 0 } : Room) #[(.ref a)] h0 [] (pureQ (some (.int 0)) h0) := by
  refine Con.of (a0 := a0) #[.val (.ref a)] (plainFor_of_name pn_1) hE O all0 (fun m => by first | (simp [entryFrame, mkF, argsToLocals, Value.category]; done) | rfl) ?_
  intro p e s m below meth c T0 hx hby hml hnm hret hlk hh W0
  obtain ⟨E_a, FC_a, FV_a, V_b, L_a⟩ := id S0
  have hlen : cs.length < 2 ^ 31 := by have := V_b.len; simpa using this
  refine w_getS (pc' := 3) W0 hx (hw _ (List.mem_of_getElem? w_51)) Via.refl G.1 (hb hby d_jdk_42_152_0) rfl fun T38 W38 => ?_
  refine g_ifN (pc' := 6) W38.here hx (hb hby d_jdk_42_152_3) rfl (feq (show ¬ (cc = (0 : Int32)) from G.2.1)).1 ?_
  refine g_aloadN (pc' := 7) W38.here hx (hb hby d_jdk_42_152_6) rfl rfl rfl ?_
  refine w_get (pc' := 10) W38 hx (hw _ (List.mem_of_getElem? w_28)) Via.refl FC_a (hb hby d_jdk_42_152_7) rfl fun T39 W39 => ?_
  refine g_goto (pc' := 14) W39.here hx (hb hby d_jdk_42_152_10) rfl ?_
  refine w_retN (t := .byte) W39 hx hh hlk hret (by simp) (hb hby d_jdk_42_152_14) (Nat.le_of_ble_eq_true rfl) (Nat.le_of_ble_eq_true rfl) ?_
  exact ⟨rfl, rfl⟩
theorem own_shr0 (x : Int32) : x >>> ((0 : Int32) &&& 31) = x := by
  apply Int32.toInt_inj.mp
  rw [c_ishr x 0 0 rfl]
  simp
set_option maxRecDepth 65536 in
set_option maxHeartbeats 40000000 in
theorem c_length (l : Launch) (Z : State) (a0 : Array Value) (hw : ∀ d ∈ tables_1, d.before a0 Z = true) (hE : EW Z a0 consts_1) (cc : Int32) (fm : Value) (a b : Nat) (cs : List Int32)  (h0 : Heap) (O : Ext Z.heap h0) (G : SEnv Z cc fm) (S0 : SL Z h0 a b cs)  :
    Con l Z consts_1 (⟨"java/lang/String", "length", "()I"⟩ : MethodName) jdk_42_method_54_code 1 (Option.some Jvm.ClassFile.FieldType.int) ({ frames := 1, cells := 0, slots := 0, locals := 13 } : Room) #[(.ref a)] h0 [] (pureQ (some (.int cs.length.toInt32)) h0) := by
  refine Con.of (a0 := a0) #[.val (.ref a)] (plainFor_of_name pn_1) hE O all0 (fun m => by first | (simp [entryFrame, mkF, argsToLocals, Value.category]; done) | rfl) ?_
  intro p e s m below meth c T0 hx hby hml hnm hret hlk hh W0
  obtain ⟨E_a, FC_a, FV_a, V_b, L_a⟩ := id S0
  have hlen : cs.length < 2 ^ 31 := by have := V_b.len; simpa using this
  refine g_aloadN (pc' := 1) W0.here hx (hb hby d_jdk_42_54_0) rfl rfl rfl ?_
  refine w_get (pc' := 4) W0 hx (hw _ (List.mem_of_getElem? w_27)) Via.refl FV_a (hb hby d_jdk_42_54_1) rfl fun T40 W40 => ?_
  refine w_len (pc' := 5) W40 hx V_b (hb hby d_jdk_42_54_4) rfl ?_
  refine g_name (w := .int cs.length.toInt32) (congrArg Value.int (by rw [List.length_map])) ?_
  refine g_aloadN (pc' := 6) W40.here hx (hb hby d_jdk_42_54_5) rfl rfl rfl ?_
  refine w_virtualp (pc' := 9) (st := [(.int cs.length.toInt32)]) (y := (⟨"java/lang/String", "coder", "()B"⟩ : MethodName)) (z := (⟨"java/lang/String", "coder", "()B"⟩ : MethodName)) (a := a) W40 hx [] (hw _ (List.mem_of_getElem? w_46)) (hw _ (List.mem_of_getElem? w_47)) (nfS (z := (⟨"java/lang/String", "coder", "()B"⟩ : MethodName)) (hw _ (List.mem_of_getElem? w_49))) (hw _ (List.mem_of_getElem? w_49)) (hw _ (List.mem_of_getElem? w_48)) (hw _ (List.mem_of_getElem? w_6)) (hw _ (List.mem_of_getElem? w_50)) (by decide) (c_coder l Z a0 hw hE cc fm a b cs h0 W40.old G S0) E_a (by rw [hml]; rfl) (lenOf pd_4 rfl) rfl (hb hby d_jdk_42_54_6) (Nat.le_of_ble_eq_true rfl) (Nat.le_of_ble_eq_true rfl) rfl rfl (Nat.le_of_ble_eq_true rfl) (Nat.le_of_ble_eq_true rfl) rfl fun T41 W41 => ?_
  refine g_ishr (pc' := 10) W41.here hx (hb hby d_jdk_42_54_9) rfl ?_
  refine w_retI W41 hx hh hlk hret (hb hby d_jdk_42_54_10) (Nat.le_of_ble_eq_true rfl) (Nat.le_of_ble_eq_true rfl) ?_
  exact ⟨congrArg (fun z => some (Value.int z)) (own_shr0 _), rfl⟩
theorem own_byte (x : Int32) : 0 ≤ ((x &&& (255 : Int32)).toUInt32.toUInt16.toUInt32.toInt32).toInt ∧ ((x &&& (255 : Int32)).toUInt32.toUInt16.toUInt32.toInt32).toInt ≤ 255 := by
  rw [i2c_mask, c_mask x 255 8 (by decide) (by decide)]
  omega
theorem own_c16 {c : Int32} (h : 0 ≤ c.toInt ∧ c.toInt ≤ 255) : 0 ≤ c.toInt ∧ c.toInt < 65536 := by omega
theorem own_binj {c d : Int32} (hc : 0 ≤ c.toInt ∧ c.toInt ≤ 255) (hd : 0 ≤ d.toInt ∧ d.toInt ≤ 255) : c.toInt8.toInt32 = d.toInt8.toInt32 ↔ c = d := by
  constructor
  · intro q
    have q1 := (c_i2b c).1
    have q2 := (c_i2b d).1
    rw [q] at q1
    apply Int32.toInt_inj.mp; omega
  · intro q; rw [q]
theorem own_n32 {n k : Nat} (hn : n < 2 ^ 31) (hk : k < 2 ^ 31) : n.toInt32 = k.toInt32 ↔ n = k := by
  constructor
  · intro q
    have := congrArg Int32.toInt q
    rw [own_toInt hn, own_toInt hk] at this; omega
  · intro q; rw [q]
theorem own_ext1 {xs ys : List Int32} {i : Nat} (H : ∀ j, j < i → xs[j]? = ys[j]?) (e : xs[i]? = ys[i]?) : ∀ j, j < i + 1 → xs[j]? = ys[j]? := fun j hj => by
  rcases Nat.lt_or_ge j i with q | q
  · exact H j q
  · have e1 : j = i := by omega
    subst e1; exact e
theorem own_lext {xs ys : List Int32} (hl : xs.length = ys.length) (h : ∀ j, j < xs.length → xs[j]? = ys[j]?) : xs = ys := by
  apply List.ext_getElem?
  intro j
  by_cases q : j < xs.length
  · exact h j q
  · rw [List.getElem?_eq_none (by omega), List.getElem?_eq_none (by omega)]
set_option maxRecDepth 65536 in
set_option maxHeartbeats 40000000 in
theorem c_l1eq (l : Launch) (Z : State) (a0 : Array Value) (hw : ∀ d ∈ tables_1, d.before a0 Z = true) (hE : EW Z a0 consts_1) (cc : Int32) (fm : Value) (a b : Nat) (cs : List Int32) (a2 b2 : Nat) (cs2 : List Int32)  (h0 : Heap) (O : Ext Z.heap h0) (G : SEnv Z cc fm) (S0 : SL Z h0 a b cs) (S2 : SL Z h0 a2 b2 cs2)  :
    Con l Z consts_1 (⟨"java/lang/StringLatin1", "equals", "([B[B)Z"⟩ : MethodName) jdk_43_method_13_code 3 (Option.some Jvm.ClassFile.FieldType.boolean) ({ frames := 0, cells := 0, slots := 0, locals := 0 } : Room) #[(.ref b), (.ref b2)] h0 [] (pureQ (some (.int (if cs = cs2 then 1 else 0))) h0) := by
  refine Con.of (a0 := a0) #[.val (.ref b), .val (.ref b2), .unset] (plainFor_of_name pn_2) hE O all0 (fun m => by first | (simp [entryFrame, mkF, argsToLocals, Value.category]; done) | rfl) ?_
  intro p e s m below meth c T0 hx hby hml hnm hret hlk hh W0
  obtain ⟨E_a, FC_a, FV_a, V_b, L_a⟩ := id S0
  have hlen : cs.length < 2 ^ 31 := by have := V_b.len; simpa using this
  obtain ⟨E_a2, FC_a2, FV_a2, V_b2, L_a2⟩ := id S2
  have hlen2 : cs2.length < 2 ^ 31 := by have := V_b2.len; simpa using this
  refine g_aloadN (pc' := 1) W0.here hx (hb hby d_jdk_43_13_0) rfl rfl rfl ?_
  refine w_len (pc' := 2) W0 hx V_b (hb hby d_jdk_43_13_1) rfl ?_
  refine g_name (w := .int cs.length.toInt32) (congrArg Value.int (by rw [List.length_map])) ?_
  refine g_aloadN (pc' := 3) W0.here hx (hb hby d_jdk_43_13_2) rfl rfl rfl ?_
  refine w_len (pc' := 4) W0 hx V_b2 (hb hby d_jdk_43_13_3) rfl ?_
  refine g_name (w := .int cs2.length.toInt32) (congrArg Value.int (by rw [List.length_map])) ?_
  by_cases hc4_42 : cs.length.toInt32 = cs2.length.toInt32
  · refine g_icmpN (pc' := 7) W0.here hx (hb hby d_jdk_43_13_4) rfl (teq hc4_42).2 ?_
    have hll : cs.length = cs2.length := (own_n32 hlen hlen2).mp hc4_42
    refine g_iconst (0 : Int32) (pc' := 8) W0.here hx (hb hby d_jdk_43_13_7) rfl rfl ?_
    refine g_istoreN (pc' := 9) (Ls' := #[.val (.ref b), .val (.ref b2), .val (.int (0 : Int32))]) W0.here hx (hb hby d_jdk_43_13_8) rfl rfl ?_
    have LOOP : ∀ (k i : Nat), i + k = cs.length → ∀ (TL : State), Wk p l e ({ frames := 0, cells := 0, slots := 0, locals := 0 } : Room) s m #[(.ref b), (.ref b2)] below meth c Z consts_1 "java/lang/StringLatin1" [] [] TL h0 0 0 → (∀ j, j < i → cs[j]? = cs2[j]?) → Gets p.tables e below (Post s Z consts_1 ({ frames := 0, cells := 0, slots := 0, locals := 0 } : Room) h0 [] (pureQ (some (.int (if cs = cs2 then 1 else 0))) h0)) TL (mkF m 9 #[.val (.ref b), .val (.ref b2), .val (.int i.toInt32)] []) := by
      intro k
      induction k with
      | zero =>
        intro i hi TL  WL HI
        refine g_iloadN (pc' := 10) WL.here hx (hb hby d_jdk_43_13_9) rfl rfl ?_
        refine g_aloadN (pc' := 11) WL.here hx (hb hby d_jdk_43_13_10) rfl rfl rfl ?_
        refine w_len (pc' := 12) WL hx V_b (hb hby d_jdk_43_13_11) rfl ?_
        refine g_name (w := .int cs.length.toInt32) (congrArg Value.int (by rw [List.length_map])) ?_
        refine g_icmpY (pc' := 32) WL.here hx (hb hby d_jdk_43_13_12) rfl (flt (show ¬ (i.toInt32 < cs.length.toInt32) from (own_nltn (by omega) (by omega)))).2.1 ?_
        refine g_iconst (1 : Int32) (pc' := 33) WL.here hx (hb hby d_jdk_43_13_32) rfl rfl ?_
        refine w_retN (t := .boolean) WL hx hh hlk hret (by simp) (hb hby d_jdk_43_13_33) (Nat.le_of_ble_eq_true rfl) (Nat.le_of_ble_eq_true rfl) ?_
        exact ⟨by rw [if_pos (own_lext hll (fun j hj => HI j (by omega)))]; rfl, rfl⟩
      | succ k ih =>
        intro i hi TL  WL HI
        have hi2 : i < cs.length := by omega
        obtain ⟨ci, hci⟩ : ∃ ci, cs[i]? = some ci := ⟨_, List.getElem?_eq_getElem hi2⟩
        obtain ⟨di, hdi⟩ : ∃ di, cs2[i]? = some di := ⟨_, List.getElem?_eq_getElem (by omega)⟩
        refine g_iloadN (pc' := 10) WL.here hx (hb hby d_jdk_43_13_9) rfl rfl ?_
        refine g_aloadN (pc' := 11) WL.here hx (hb hby d_jdk_43_13_10) rfl rfl rfl ?_
        refine w_len (pc' := 12) WL hx V_b (hb hby d_jdk_43_13_11) rfl ?_
        refine g_name (w := .int cs.length.toInt32) (congrArg Value.int (by rw [List.length_map])) ?_
        refine g_icmpN (pc' := 15) WL.here hx (hb hby d_jdk_43_13_12) rfl (tlt (show i.toInt32 < cs.length.toInt32 from (own_ltn hi2 hlen))).2.1 ?_
        refine g_aloadN (pc' := 16) WL.here hx (hb hby d_jdk_43_13_15) rfl rfl rfl ?_
        refine g_iloadN (pc' := 17) WL.here hx (hb hby d_jdk_43_13_16) rfl rfl ?_
        refine w_baload (pc' := 18) (v := (.int ci.toInt8.toInt32)) WL hx V_b (own_nneg (by omega)) (by rw [i32_nat (by omega), List.getElem?_map, hci]; rfl) (hb hby d_jdk_43_13_17) rfl ?_
        refine g_aloadN (pc' := 19) WL.here hx (hb hby d_jdk_43_13_18) rfl rfl rfl ?_
        refine g_iloadN (pc' := 20) WL.here hx (hb hby d_jdk_43_13_19) rfl rfl ?_
        refine w_baload (pc' := 21) (v := (.int di.toInt8.toInt32)) WL hx V_b2 (own_nneg (by omega)) (by rw [i32_nat (by omega), List.getElem?_map, hdi]; rfl) (hb hby d_jdk_43_13_20) rfl ?_
        by_cases hc21_43 : ci.toInt8.toInt32 = di.toInt8.toInt32
        · refine g_icmpY (pc' := 26) WL.here hx (hb hby d_jdk_43_13_21) rfl (teq hc21_43).1 ?_
          refine g_iincV (i + 1).toInt32 (pc' := 29) (Ls' := #[.val (.ref b), .val (.ref b2), .val (.int (i + 1).toInt32)]) WL.here hx (hb hby d_jdk_43_13_26) (own_succ i) rfl rfl rfl ?_
          refine g_goto (pc' := 9) WL.here hx (hb hby d_jdk_43_13_29) rfl ?_
          exact ih (i + 1) (by omega) _  WL (own_ext1 HI (by rw [hci, hdi]; exact congrArg some ((own_binj (L_a ci (List.mem_of_getElem? hci)) (L_a2 di (List.mem_of_getElem? hdi))).mp hc21_43)))
        · refine g_icmpN (pc' := 24) WL.here hx (hb hby d_jdk_43_13_21) rfl (feq hc21_43).1 ?_
          refine g_iconst (0 : Int32) (pc' := 25) WL.here hx (hb hby d_jdk_43_13_24) rfl rfl ?_
          refine w_retN (t := .boolean) WL hx hh hlk hret (by simp) (hb hby d_jdk_43_13_25) (Nat.le_of_ble_eq_true rfl) (Nat.le_of_ble_eq_true rfl) ?_
          exact ⟨by rw [if_neg (fun q => by subst q; rw [hci] at hdi; cases hdi; exact hc21_43 rfl)]; rfl, rfl⟩
    exact LOOP cs.length 0 (by omega) _  W0 (fun j hj => absurd hj (Nat.not_lt_zero j))
  · refine g_icmpY (pc' := 34) W0.here hx (hb hby d_jdk_43_13_4) rfl (feq hc4_42).2 ?_
    refine g_iconst (0 : Int32) (pc' := 35) W0.here hx (hb hby d_jdk_43_13_34) rfl rfl ?_
    refine w_retN (t := .boolean) W0 hx hh hlk hret (by simp) (hb hby d_jdk_43_13_35) (Nat.le_of_ble_eq_true rfl) (Nat.le_of_ble_eq_true rfl) ?_
    exact ⟨by rw [if_neg (fun q => hc4_42 (by rw [q]))]; rfl, rfl⟩
set_option maxRecDepth 65536 in
set_option maxHeartbeats 40000000 in
theorem c_equals (l : Launch) (Z : State) (a0 : Array Value) (hw : ∀ d ∈ tables_1, d.before a0 Z = true) (hE : EW Z a0 consts_1) (cc : Int32) (fm : Value) (a b : Nat) (cs : List Int32) (a2 b2 : Nat) (cs2 : List Int32)  (h0 : Heap) (O : Ext Z.heap h0) (G : SEnv Z cc fm) (S0 : SL Z h0 a b cs) (S2 : SL Z h0 a2 b2 cs2) (hne : a ≠ a2)  :
    Con l Z consts_1 (⟨"java/lang/String", "equals", "(Ljava/lang/Object;)Z"⟩ : MethodName) jdk_42_method_66_code 3 (Option.some Jvm.ClassFile.FieldType.boolean) ({ frames := 1, cells := 0, slots := 0, locals := 14 } : Room) #[(.ref a), (.ref a2)] h0 [] (pureQ (some (.int (if cs = cs2 then 1 else 0))) h0) := by
  refine Con.of (a0 := a0) #[.val (.ref a), .val (.ref a2), .unset] (plainFor_of_name pn_1) hE O all0 (fun m => by first | (simp [entryFrame, mkF, argsToLocals, Value.category]; done) | rfl) ?_
  intro p e s m below meth c T0 hx hby hml hnm hret hlk hh W0
  obtain ⟨E_a, FC_a, FV_a, V_b, L_a⟩ := id S0
  have hlen : cs.length < 2 ^ 31 := by have := V_b.len; simpa using this
  obtain ⟨E_a2, FC_a2, FV_a2, V_b2, L_a2⟩ := id S2
  have hlen2 : cs2.length < 2 ^ 31 := by have := V_b2.len; simpa using this
  refine g_aloadN (pc' := 1) W0.here hx (hb hby d_jdk_42_66_0) rfl rfl rfl ?_
  refine g_aloadN (pc' := 2) W0.here hx (hb hby d_jdk_42_66_1) rfl rfl rfl ?_
  refine w_acmp (pc' := 7) W0 hx rfl rfl false (hb hby d_jdk_42_66_2) (decide_eq_false fun q => hne (Value.ref.inj q)) (by decide) (by decide) ?_
  refine g_aloadN (pc' := 8) W0.here hx (hb hby d_jdk_42_66_7) rfl rfl rfl ?_
  refine w_inst (pc' := 11) W0 hx (hw _ (List.mem_of_getElem? w_78)) (Ins.self E_a2) (hb hby d_jdk_42_66_8) rfl fun T44 W44 => ?_
  refine g_ifN (pc' := 14) W44.here hx (hb hby d_jdk_42_66_11) rfl (feq (show ¬ ((1 : Int32) = (0 : Int32)) from (by decide))).1 ?_
  refine g_aloadN (pc' := 15) W44.here hx (hb hby d_jdk_42_66_14) rfl rfl rfl ?_
  refine w_cast (pc' := 18) W44 hx (hw _ (List.mem_of_getElem? w_78)) (Ins.self E_a2) (hb hby d_jdk_42_66_15) rfl fun T45 W45 => ?_
  refine g_astoreN (pc' := 19) (Ls' := #[.val (.ref a), .val (.ref a2), .val (.ref a2)]) W45.here hx (hb hby d_jdk_42_66_18) rfl rfl rfl ?_
  refine w_getS (pc' := 22) W45 hx (hw _ (List.mem_of_getElem? w_51)) Via.refl G.1 (hb hby d_jdk_42_66_19) rfl fun T46 W46 => ?_
  refine g_ifN (pc' := 25) W46.here hx (hb hby d_jdk_42_66_22) rfl (feq (show ¬ (cc = (0 : Int32)) from G.2.1)).1 ?_
  refine g_aloadN (pc' := 26) W46.here hx (hb hby d_jdk_42_66_25) rfl rfl rfl ?_
  refine w_get (pc' := 29) W46 hx (hw _ (List.mem_of_getElem? w_28)) Via.refl FC_a (hb hby d_jdk_42_66_26) rfl fun T47 W47 => ?_
  refine g_aloadN (pc' := 30) W47.here hx (hb hby d_jdk_42_66_29) rfl rfl rfl ?_
  refine w_get (pc' := 33) W47 hx (hw _ (List.mem_of_getElem? w_28)) Via.refl FC_a2 (hb hby d_jdk_42_66_30) rfl fun T48 W48 => ?_
  refine g_icmpN (pc' := 36) W48.here hx (hb hby d_jdk_42_66_33) rfl (teq (show (0 : Int32) = (0 : Int32) from (by decide))).2 ?_
  refine g_aloadN (pc' := 37) W48.here hx (hb hby d_jdk_42_66_36) rfl rfl rfl ?_
  refine w_get (pc' := 40) W48 hx (hw _ (List.mem_of_getElem? w_27)) Via.refl FV_a (hb hby d_jdk_42_66_37) rfl fun T49 W49 => ?_
  refine g_aloadN (pc' := 41) W49.here hx (hb hby d_jdk_42_66_40) rfl rfl rfl ?_
  refine w_get (pc' := 44) W49 hx (hw _ (List.mem_of_getElem? w_27)) Via.refl FV_a2 (hb hby d_jdk_42_66_41) rfl fun T50 W50 => ?_
  refine w_callSp (pc' := 47) (st := []) (y := (⟨"java/lang/StringLatin1", "equals", "([B[B)Z"⟩ : MethodName)) W50 hx [(.ref b), (.ref b2)] (hw _ (List.mem_of_getElem? w_79)) (hw _ (List.mem_of_getElem? w_80)) (hw _ (List.mem_of_getElem? w_64)) (hw _ (List.mem_of_getElem? w_81)) (by decide) (c_l1eq l Z a0 hw hE cc fm a b cs a2 b2 cs2 h0 W50.old G S0 S2) (by rw [hml]; rfl) (lenOf pd_5 rfl) rfl (hb hby d_jdk_42_66_44) (Nat.le_of_ble_eq_true rfl) (Nat.le_of_ble_eq_true rfl) rfl rfl (Nat.le_of_ble_eq_true rfl) (Nat.le_of_ble_eq_true rfl) rfl fun T51 W51 => ?_
  by_cases hcs : cs = cs2
  · refine g_ifN (pc' := 50) W51.here hx (hb hby d_jdk_42_66_47) rfl (feq (show ¬ ((if cs = cs2 then (1 : Int32) else 0) = (0 : Int32)) from (by rw [if_pos hcs]; decide))).1 ?_
    refine g_iconst (1 : Int32) (pc' := 51) W51.here hx (hb hby d_jdk_42_66_50) rfl rfl ?_
    refine g_goto (pc' := 55) W51.here hx (hb hby d_jdk_42_66_51) rfl ?_
    refine w_retN (t := .boolean) W51 hx hh hlk hret (by simp) (hb hby d_jdk_42_66_55) (Nat.le_of_ble_eq_true rfl) (Nat.le_of_ble_eq_true rfl) ?_
    exact ⟨by rw [if_pos hcs]; rfl, rfl⟩
  · refine g_ifY (pc' := 54) W51.here hx (hb hby d_jdk_42_66_47) rfl (teq (show (if cs = cs2 then (1 : Int32) else 0) = (0 : Int32) from (by rw [if_neg hcs]))).1 ?_
    refine g_iconst (0 : Int32) (pc' := 55) W51.here hx (hb hby d_jdk_42_66_54) rfl rfl ?_
    refine w_retN (t := .boolean) W51 hx hh hlk hret (by simp) (hb hby d_jdk_42_66_55) (Nat.le_of_ble_eq_true rfl) (Nat.le_of_ble_eq_true rfl) ?_
    exact ⟨by rw [if_neg hcs]; rfl, rfl⟩
set_option maxRecDepth 65536 in
set_option maxHeartbeats 40000000 in
theorem c_isLat (l : Launch) (Z : State) (a0 : Array Value) (hw : ∀ d ∈ tables_1, d.before a0 Z = true) (hE : EW Z a0 consts_1) (cc : Int32) (fm : Value) (a b : Nat) (cs : List Int32)  (h0 : Heap) (O : Ext Z.heap h0) (G : SEnv Z cc fm) (S0 : SL Z h0 a b cs)  :
    Con l Z consts_1 (⟨"java/lang/String", "isLatin1", "()Z"⟩ : MethodName) jdk_42_method_154_code 1 (Option.some Jvm.ClassFile.FieldType.boolean) ({ frames := 0, cells := 0, slots := 0, locals := 0 } : Room) #[(.ref a)] h0 [] (pureQ (some (.int 1)) h0) := by
  refine Con.of (a0 := a0) #[.val (.ref a)] (plainFor_of_name pn_1) hE O all0 (fun m => by first | (simp [entryFrame, mkF, argsToLocals, Value.category]; done) | rfl) ?_
  intro p e s m below meth c T0 hx hby hml hnm hret hlk hh W0
  obtain ⟨E_a, FC_a, FV_a, V_b, L_a⟩ := id S0
  have hlen : cs.length < 2 ^ 31 := by have := V_b.len; simpa using this
  refine w_getS (pc' := 3) W0 hx (hw _ (List.mem_of_getElem? w_51)) Via.refl G.1 (hb hby d_jdk_42_154_0) rfl fun T52 W52 => ?_
  refine g_ifN (pc' := 6) W52.here hx (hb hby d_jdk_42_154_3) rfl (feq (show ¬ (cc = (0 : Int32)) from G.2.1)).1 ?_
  refine g_aloadN (pc' := 7) W52.here hx (hb hby d_jdk_42_154_6) rfl rfl rfl ?_
  refine w_get (pc' := 10) W52 hx (hw _ (List.mem_of_getElem? w_28)) Via.refl FC_a (hb hby d_jdk_42_154_7) rfl fun T53 W53 => ?_
  refine g_ifN (pc' := 13) W53.here hx (hb hby d_jdk_42_154_10) rfl (teq (show (0 : Int32) = (0 : Int32) from (by decide))).2 ?_
  refine g_iconst (1 : Int32) (pc' := 14) W53.here hx (hb hby d_jdk_42_154_13) rfl rfl ?_
  refine g_goto (pc' := 18) W53.here hx (hb hby d_jdk_42_154_14) rfl ?_
  refine w_retN (t := .boolean) W53 hx hh hlk hret (by simp) (hb hby d_jdk_42_154_18) (Nat.le_of_ble_eq_true rfl) (Nat.le_of_ble_eq_true rfl) ?_
  exact ⟨rfl, rfl⟩
set_option maxRecDepth 65536 in
set_option maxHeartbeats 40000000 in
theorem c_canEncI (l : Launch) (Z : State) (a0 : Array Value) (hw : ∀ d ∈ tables_1, d.before a0 Z = true) (hE : EW Z a0 consts_1)  (h0 : Heap) (O : Ext Z.heap h0)  :
    Con l Z consts_1 (⟨"java/lang/StringLatin1", "canEncode", "(I)Z"⟩ : MethodName) jdk_43_method_4_code 1 (Option.some Jvm.ClassFile.FieldType.boolean) ({ frames := 0, cells := 0, slots := 0, locals := 0 } : Room) #[(.int (58 : Int32))] h0 [] (pureQ (some (.int 1)) h0) := by
  refine Con.of (a0 := a0) #[.val (.int (58 : Int32))] (plainFor_of_name pn_2) hE O all0 (fun m => by first | (simp [entryFrame, mkF, argsToLocals, Value.category]; done) | rfl) ?_
  intro p e s m below meth c T0 hx hby hml hnm hret hlk hh W0
  refine g_iloadN (pc' := 1) W0.here hx (hb hby d_jdk_43_4_0) rfl rfl ?_
  refine g_ifN (pc' := 4) W0.here hx (hb hby d_jdk_43_4_1) rfl (flt (show ¬ ((58 : Int32) < (0 : Int32)) from (by decide))).1 ?_
  refine g_iloadN (pc' := 5) W0.here hx (hb hby d_jdk_43_4_4) rfl rfl ?_
  refine g_sipush (255 : Int32) (pc' := 8) W0.here hx (hb hby d_jdk_43_4_5) rfl rfl ?_
  refine g_icmpN (pc' := 11) W0.here hx (hb hby d_jdk_43_4_8) rfl (flt (show ¬ ((255 : Int32) < (58 : Int32)) from (by decide))).2.2.1 ?_
  refine g_iconst (1 : Int32) (pc' := 12) W0.here hx (hb hby d_jdk_43_4_11) rfl rfl ?_
  refine g_goto (pc' := 16) W0.here hx (hb hby d_jdk_43_4_12) rfl ?_
  refine w_retN (t := .boolean) W0 hx hh hlk hret (by simp) (hb hby d_jdk_43_4_16) (Nat.le_of_ble_eq_true rfl) (Nat.le_of_ble_eq_true rfl) ?_
  exact ⟨rfl, rfl⟩
set_option maxRecDepth 65536 in
set_option maxHeartbeats 40000000 in
theorem c_minS (l : Launch) (Z : State) (a0 : Array Value) (hw : ∀ d ∈ tables_1, d.before a0 Z = true) (hE : EW Z a0 consts_1) (u : Int32) (h0 : Heap) (O : Ext Z.heap h0)  :
    Con l Z consts_1 (⟨"java/lang/Math", "min", "(II)I"⟩ : MethodName) jdk_29_method_69_code 2 (Option.some Jvm.ClassFile.FieldType.int) ({ frames := 0, cells := 0, slots := 0, locals := 0 } : Room) #[(.int u), (.int u)] h0 [] (pureQ (some (.int u)) h0) := by
  refine Con.of (a0 := a0) #[.val (.int u), .val (.int u)] (Jvm.Free.JP.mathPlain rfl (by decide +kernel)) hE O all0 (fun m => by first | (simp [entryFrame, mkF, argsToLocals, Value.category]; done) | rfl) ?_
  intro p e s m below meth c T0 hx hby hml hnm hret hlk hh W0
  refine g_iloadN (pc' := 1) W0.here hx (hb hby d_jdk_29_69_0) rfl rfl ?_
  refine g_iloadN (pc' := 2) W0.here hx (hb hby d_jdk_29_69_1) rfl rfl ?_
  refine g_icmpN (pc' := 5) W0.here hx (hb hby d_jdk_29_69_2) rfl (flt (show ¬ (u < u) from (Int32.lt_irrefl))).2.2.1 ?_
  refine g_iloadN (pc' := 6) W0.here hx (hb hby d_jdk_29_69_5) rfl rfl ?_
  refine g_goto (pc' := 10) W0.here hx (hb hby d_jdk_29_69_6) rfl ?_
  refine w_retI W0 hx hh hlk hret (hb hby d_jdk_29_69_10) (Nat.le_of_ble_eq_true rfl) (Nat.le_of_ble_eq_true rfl) ?_
  exact ⟨rfl, rfl⟩
def lastIx (cs : List Int32) : Nat → Int32
  | 0 => -1
  | n + 1 => if cs[n]? = some 58 then n.toInt32 else lastIx cs n
theorem own_dec (x : Int32) : x + Int32.ofInt (-1) = x - 1 := by
  apply Int32.toInt_inj.mp
  have a := c_iadd x (Int32.ofInt (-1))
  have b := c_isub x 1
  have e : (Int32.ofInt (-1)).toInt = -1 := rfl
  have e1 : (1 : Int32).toInt = 1 := rfl
  have r1 := rng32 (x + Int32.ofInt (-1))
  have r2 := rng32 (x - 1)
  omega
theorem own_pred (i : Nat) : (i + 1).toInt32 - (1 : Int32) = i.toInt32 := by
  have q := own_succ i
  rw [← q]
  apply Int32.toInt_inj.mp
  have e := c_isub (i.toInt32 + Int32.ofInt 1) 1
  have e2 := c_iadd i.toInt32 (Int32.ofInt 1)
  have e3 : (Int32.ofInt 1).toInt = 1 := rfl
  have e4 : (1 : Int32).toInt = 1 := rfl
  have r1 := rng32 i.toInt32
  have r2 := rng32 (i.toInt32 + Int32.ofInt 1 - 1)
  omega
set_option maxRecDepth 65536 in
set_option maxHeartbeats 40000000 in
theorem c_l1last (l : Launch) (Z : State) (a0 : Array Value) (hw : ∀ d ∈ tables_1, d.before a0 Z = true) (hE : EW Z a0 consts_1) (cc : Int32) (fm : Value) (a b : Nat) (cs : List Int32)  (h0 : Heap) (O : Ext Z.heap h0) (G : SEnv Z cc fm) (S0 : SL Z h0 a b cs)  :
    Con l Z consts_1 (⟨"java/lang/StringLatin1", "lastIndexOf", "([BII)I"⟩ : MethodName) jdk_43_method_27_code 4 (Option.some Jvm.ClassFile.FieldType.int) ({ frames := 1, cells := 0, slots := 0, locals := 13 } : Room) #[(.ref b), (.int (58 : Int32)), (.int (cs.length.toInt32 - (1 : Int32)))] h0 [] (pureQ (some (.int (lastIx cs cs.length))) h0) := by
  refine Con.of (a0 := a0) #[.val (.ref b), .val (.int (58 : Int32)), .val (.int (cs.length.toInt32 - (1 : Int32))), .unset] (plainFor_of_name pn_2) hE O all0 (fun m => by first | (simp [entryFrame, mkF, argsToLocals, Value.category]; done) | rfl) ?_
  intro p e s m below meth c T0 hx hby hml hnm hret hlk hh W0
  obtain ⟨E_a, FC_a, FV_a, V_b, L_a⟩ := id S0
  have hlen : cs.length < 2 ^ 31 := by have := V_b.len; simpa using this
  refine g_iloadN (pc' := 1) W0.here hx (hb hby d_jdk_43_27_0) rfl rfl ?_
  refine w_callSp (pc' := 4) (st := []) (y := (⟨"java/lang/StringLatin1", "canEncode", "(I)Z"⟩ : MethodName)) W0 hx [(.int (58 : Int32))] (hw _ (List.mem_of_getElem? w_66)) (hw _ (List.mem_of_getElem? w_67)) (hw _ (List.mem_of_getElem? w_64)) (hw _ (List.mem_of_getElem? w_68)) (by decide) (c_canEncI l Z a0 hw hE h0 W0.old) (by rw [hml]; rfl) (lenOf pd_6 rfl) rfl (hb hby d_jdk_43_27_1) (Nat.le_of_ble_eq_true rfl) (Nat.le_of_ble_eq_true rfl) rfl rfl (Nat.le_of_ble_eq_true rfl) (Nat.le_of_ble_eq_true rfl) rfl fun T54 W54 => ?_
  refine g_ifY (pc' := 9) W54.here hx (hb hby d_jdk_43_27_4) rfl (feq (show ¬ ((1 : Int32) = (0 : Int32)) from (by decide))).2 ?_
  refine g_iloadN (pc' := 10) W54.here hx (hb hby d_jdk_43_27_9) rfl rfl ?_
  refine g_aloadN (pc' := 11) W54.here hx (hb hby d_jdk_43_27_10) rfl rfl rfl ?_
  refine w_len (pc' := 12) W54 hx V_b (hb hby d_jdk_43_27_11) rfl ?_
  refine g_name (w := .int cs.length.toInt32) (congrArg Value.int (by rw [List.length_map])) ?_
  refine g_iconst (1 : Int32) (pc' := 13) W54.here hx (hb hby d_jdk_43_27_12) rfl rfl ?_
  refine g_isub (pc' := 14) W54.here hx (hb hby d_jdk_43_27_13) rfl ?_
  refine w_callSp (pc' := 17) (st := []) (y := (⟨"java/lang/Math", "min", "(II)I"⟩ : MethodName)) W54 hx [(.int (cs.length.toInt32 - (1 : Int32))), (.int (cs.length.toInt32 - (1 : Int32)))] (hw _ (List.mem_of_getElem? w_69)) (hw _ (List.mem_of_getElem? w_70)) (hw _ (List.mem_of_getElem? w_71)) (hw _ (List.mem_of_getElem? w_72)) (by decide) (c_minS l Z a0 hw hE (cs.length.toInt32 - (1 : Int32)) h0 W54.old) (by rw [hml]; rfl) (lenOf pd_7 rfl) rfl (hb hby d_jdk_43_27_14) (Nat.le_of_ble_eq_true rfl) (Nat.le_of_ble_eq_true rfl) rfl rfl (Nat.le_of_ble_eq_true rfl) (Nat.le_of_ble_eq_true rfl) rfl fun T55 W55 => ?_
  refine g_istoreN (pc' := 18) (Ls' := #[.val (.ref b), .val (.int (58 : Int32)), .val (.int (cs.length.toInt32 - (1 : Int32))), .val (.int (cs.length.toInt32 - (1 : Int32)))]) W55.here hx (hb hby d_jdk_43_27_17) rfl rfl ?_
  have LOOP : ∀ i : Nat, i ≤ cs.length → lastIx cs cs.length = lastIx cs i → ∀ TL : State, Wk p l e ({ frames := 1, cells := 0, slots := 0, locals := 13 } : Room) s m #[(.ref b), (.int (58 : Int32)), (.int (cs.length.toInt32 - (1 : Int32)))] below meth c Z consts_1 "java/lang/StringLatin1" [] [] TL h0 0 0 → Gets p.tables e below (Post s Z consts_1 ({ frames := 1, cells := 0, slots := 0, locals := 13 } : Room) h0 [] (pureQ (some (.int (lastIx cs cs.length))) h0)) TL (mkF m 18 #[.val (.ref b), .val (.int (58 : Int32)), .val (.int (cs.length.toInt32 - (1 : Int32))), .val (.int (i.toInt32 - (1 : Int32)))] []) := by
    intro i
    induction i with
    | zero =>
      intro hi HI TL WL
      refine g_iloadN (pc' := 19) WL.here hx (hb hby d_jdk_43_27_18) rfl rfl ?_
      refine g_ifY (pc' := 38) WL.here hx (hb hby d_jdk_43_27_19) rfl (tlt (show (Nat.toInt32 0 - (1 : Int32)) < (0 : Int32) from (by decide))).1 ?_
      refine g_iconst (-1 : Int32) (pc' := 39) WL.here hx (hb hby d_jdk_43_27_38) rfl rfl ?_
      refine w_retI WL hx hh hlk hret (hb hby d_jdk_43_27_39) (Nat.le_of_ble_eq_true rfl) (Nat.le_of_ble_eq_true rfl) ?_
      exact ⟨congrArg (fun z => some (Value.int z)) (by rw [HI]; rfl), rfl⟩
    | succ i ih =>
      intro hi HI TL WL
      obtain ⟨ci, hci⟩ : ∃ ci, cs[i]? = some ci := ⟨_, List.getElem?_eq_getElem (by omega)⟩
      refine g_iloadN (pc' := 19) WL.here hx (hb hby d_jdk_43_27_18) rfl rfl ?_
      refine g_ifN (pc' := 22) WL.here hx (hb hby d_jdk_43_27_19) rfl (flt (show ¬ (((i + 1).toInt32 - (1 : Int32)) < (0 : Int32)) from (by rw [own_pred]; exact own_nneg (by omega)))).1 ?_
      refine g_aloadN (pc' := 23) WL.here hx (hb hby d_jdk_43_27_22) rfl rfl rfl ?_
      refine g_iloadN (pc' := 24) WL.here hx (hb hby d_jdk_43_27_23) rfl rfl ?_
      refine w_baload (pc' := 25) (v := (.int ci.toInt8.toInt32)) WL hx V_b (by rw [own_pred]; exact own_nneg (by omega)) (by rw [own_pred, i32_nat (by omega), List.getElem?_map, hci]; rfl) (hb hby d_jdk_43_27_24) rfl ?_
      refine g_iloadN (pc' := 26) WL.here hx (hb hby d_jdk_43_27_25) rfl rfl ?_
      refine g_i2b (pc' := 27) WL.here hx (hb hby d_jdk_43_27_26) rfl ?_
      by_cases hc27_56 : ci.toInt8.toInt32 = ((58 : Int32).toInt8.toInt32)
      · refine g_icmpN (pc' := 30) WL.here hx (hb hby d_jdk_43_27_27) rfl (teq hc27_56).2 ?_
        refine g_iloadN (pc' := 31) WL.here hx (hb hby d_jdk_43_27_30) rfl rfl ?_
        refine w_retI WL hx hh hlk hret (hb hby d_jdk_43_27_31) (Nat.le_of_ble_eq_true rfl) (Nat.le_of_ble_eq_true rfl) ?_
        exact ⟨congrArg (fun z => some (Value.int z)) (by rw [own_pred, HI, lastIx, if_pos (by rw [hci]; exact congrArg some ((own_binj (L_a ci (List.mem_of_getElem? hci)) (by decide)).mp hc27_56))]), rfl⟩
      · refine g_icmpY (pc' := 32) WL.here hx (hb hby d_jdk_43_27_27) rfl (feq hc27_56).2 ?_
        refine g_iincV (i.toInt32 - (1 : Int32)) (pc' := 35) (Ls' := #[.val (.ref b), .val (.int (58 : Int32)), .val (.int (cs.length.toInt32 - (1 : Int32))), .val (.int (i.toInt32 - (1 : Int32)))]) WL.here hx (hb hby d_jdk_43_27_32) (by rw [own_pred]; exact own_dec _) rfl rfl rfl ?_
        refine g_goto (pc' := 18) WL.here hx (hb hby d_jdk_43_27_35) rfl ?_
        exact ih (by omega) (by rw [HI, lastIx, if_neg (fun q => by rw [hci] at q; cases q; exact hc27_56 rfl)]) _ WL
  exact LOOP cs.length (Nat.le_refl _) rfl _ W55
set_option maxRecDepth 65536 in
set_option maxHeartbeats 40000000 in
theorem c_last2 (l : Launch) (Z : State) (a0 : Array Value) (hw : ∀ d ∈ tables_1, d.before a0 Z = true) (hE : EW Z a0 consts_1) (cc : Int32) (fm : Value) (a b : Nat) (cs : List Int32)  (h0 : Heap) (O : Ext Z.heap h0) (G : SEnv Z cc fm) (S0 : SL Z h0 a b cs)  :
    Con l Z consts_1 (⟨"java/lang/String", "lastIndexOf", "(II)I"⟩ : MethodName) jdk_42_method_83_code 3 (Option.some Jvm.ClassFile.FieldType.int) ({ frames := 2, cells := 0, slots := 0, locals := 28 } : Room) #[(.ref a), (.int (58 : Int32)), (.int (cs.length.toInt32 - (1 : Int32)))] h0 [] (pureQ (some (.int (lastIx cs cs.length))) h0) := by
  refine Con.of (a0 := a0) #[.val (.ref a), .val (.int (58 : Int32)), .val (.int (cs.length.toInt32 - (1 : Int32)))] (plainFor_of_name pn_1) hE O all0 (fun m => by first | (simp [entryFrame, mkF, argsToLocals, Value.category]; done) | rfl) ?_
  intro p e s m below meth c T0 hx hby hml hnm hret hlk hh W0
  obtain ⟨E_a, FC_a, FV_a, V_b, L_a⟩ := id S0
  have hlen : cs.length < 2 ^ 31 := by have := V_b.len; simpa using this
  refine g_aloadN (pc' := 1) W0.here hx (hb hby d_jdk_42_83_0) rfl rfl rfl ?_
  refine w_virtualp (pc' := 4) (st := []) (y := (⟨"java/lang/String", "isLatin1", "()Z"⟩ : MethodName)) (z := (⟨"java/lang/String", "isLatin1", "()Z"⟩ : MethodName)) (a := a) W0 hx [] (hw _ (List.mem_of_getElem? w_57)) (hw _ (List.mem_of_getElem? w_58)) (nfS (z := (⟨"java/lang/String", "isLatin1", "()Z"⟩ : MethodName)) (hw _ (List.mem_of_getElem? w_60))) (hw _ (List.mem_of_getElem? w_60)) (hw _ (List.mem_of_getElem? w_59)) (hw _ (List.mem_of_getElem? w_6)) (hw _ (List.mem_of_getElem? w_61)) (by decide) (c_isLat l Z a0 hw hE cc fm a b cs h0 W0.old G S0) E_a (by rw [hml]; rfl) (lenOf pd_8 rfl) rfl (hb hby d_jdk_42_83_1) (Nat.le_of_ble_eq_true rfl) (Nat.le_of_ble_eq_true rfl) rfl rfl (Nat.le_of_ble_eq_true rfl) (Nat.le_of_ble_eq_true rfl) rfl fun T57 W57 => ?_
  refine g_ifN (pc' := 7) W57.here hx (hb hby d_jdk_42_83_4) rfl (feq (show ¬ ((1 : Int32) = (0 : Int32)) from (by decide))).1 ?_
  refine g_aloadN (pc' := 8) W57.here hx (hb hby d_jdk_42_83_7) rfl rfl rfl ?_
  refine w_get (pc' := 11) W57 hx (hw _ (List.mem_of_getElem? w_27)) Via.refl FV_a (hb hby d_jdk_42_83_8) rfl fun T58 W58 => ?_
  refine g_iloadN (pc' := 12) W58.here hx (hb hby d_jdk_42_83_11) rfl rfl ?_
  refine g_iloadN (pc' := 13) W58.here hx (hb hby d_jdk_42_83_12) rfl rfl ?_
  refine w_callSp (pc' := 16) (st := []) (y := (⟨"java/lang/StringLatin1", "lastIndexOf", "([BII)I"⟩ : MethodName)) W58 hx [(.ref b), (.int (58 : Int32)), (.int (cs.length.toInt32 - (1 : Int32)))] (hw _ (List.mem_of_getElem? w_62)) (hw _ (List.mem_of_getElem? w_63)) (hw _ (List.mem_of_getElem? w_64)) (hw _ (List.mem_of_getElem? w_65)) (by decide) (c_l1last l Z a0 hw hE cc fm a b cs h0 W58.old G S0) (by rw [hml]; rfl) (lenOf pd_9 rfl) rfl (hb hby d_jdk_42_83_13) (Nat.le_of_ble_eq_true rfl) (Nat.le_of_ble_eq_true rfl) rfl rfl (Nat.le_of_ble_eq_true rfl) (Nat.le_of_ble_eq_true rfl) rfl fun T59 W59 => ?_
  refine g_goto (pc' := 28) W59.here hx (hb hby d_jdk_42_83_16) rfl ?_
  refine w_retI W59 hx hh hlk hret (hb hby d_jdk_42_83_28) (Nat.le_of_ble_eq_true rfl) (Nat.le_of_ble_eq_true rfl) ?_
  exact ⟨rfl, rfl⟩
set_option maxRecDepth 65536 in
set_option maxHeartbeats 40000000 in
theorem c_last1 (l : Launch) (Z : State) (a0 : Array Value) (hw : ∀ d ∈ tables_1, d.before a0 Z = true) (hE : EW Z a0 consts_1) (cc : Int32) (fm : Value) (a b : Nat) (cs : List Int32)  (h0 : Heap) (O : Ext Z.heap h0) (G : SEnv Z cc fm) (S0 : SL Z h0 a b cs)  :
    Con l Z consts_1 (⟨"java/lang/String", "lastIndexOf", "(I)I"⟩ : MethodName) jdk_42_method_82_code 2 (Option.some Jvm.ClassFile.FieldType.int) ({ frames := 3, cells := 0, slots := 0, locals := 42 } : Room) #[(.ref a), (.int (58 : Int32))] h0 [] (pureQ (some (.int (lastIx cs cs.length))) h0) := by
  refine Con.of (a0 := a0) #[.val (.ref a), .val (.int (58 : Int32))] (plainFor_of_name pn_1) hE O all0 (fun m => by first | (simp [entryFrame, mkF, argsToLocals, Value.category]; done) | rfl) ?_
  intro p e s m below meth c T0 hx hby hml hnm hret hlk hh W0
  obtain ⟨E_a, FC_a, FV_a, V_b, L_a⟩ := id S0
  have hlen : cs.length < 2 ^ 31 := by have := V_b.len; simpa using this
  refine g_aloadN (pc' := 1) W0.here hx (hb hby d_jdk_42_82_0) rfl rfl rfl ?_
  refine g_iloadN (pc' := 2) W0.here hx (hb hby d_jdk_42_82_1) rfl rfl ?_
  refine g_aloadN (pc' := 3) W0.here hx (hb hby d_jdk_42_82_2) rfl rfl rfl ?_
  refine w_virtualp (pc' := 6) (st := [(.int (58 : Int32)), (.ref a)]) (y := (⟨"java/lang/String", "length", "()I"⟩ : MethodName)) (z := (⟨"java/lang/String", "length", "()I"⟩ : MethodName)) (a := a) W0 hx [] (hw _ (List.mem_of_getElem? w_41)) (hw _ (List.mem_of_getElem? w_42)) (nfS (z := (⟨"java/lang/String", "length", "()I"⟩ : MethodName)) (hw _ (List.mem_of_getElem? w_44))) (hw _ (List.mem_of_getElem? w_44)) (hw _ (List.mem_of_getElem? w_43)) (hw _ (List.mem_of_getElem? w_6)) (hw _ (List.mem_of_getElem? w_45)) (by decide) (c_length l Z a0 hw hE cc fm a b cs  h0 W0.old G S0 ) E_a (by rw [hml]; rfl) (lenOf pd_10 rfl) rfl (hb hby d_jdk_42_82_3) (Nat.le_of_ble_eq_true rfl) (Nat.le_of_ble_eq_true rfl) rfl rfl (Nat.le_of_ble_eq_true rfl) (Nat.le_of_ble_eq_true rfl) rfl fun T60 W60 => ?_
  refine g_iconst (1 : Int32) (pc' := 7) W60.here hx (hb hby d_jdk_42_82_6) rfl rfl ?_
  refine g_isub (pc' := 8) W60.here hx (hb hby d_jdk_42_82_7) rfl ?_
  refine w_virtualp (pc' := 11) (st := []) (y := (⟨"java/lang/String", "lastIndexOf", "(II)I"⟩ : MethodName)) (z := (⟨"java/lang/String", "lastIndexOf", "(II)I"⟩ : MethodName)) (a := a) W60 hx [(.int (58 : Int32)), (.int (cs.length.toInt32 - (1 : Int32)))] (hw _ (List.mem_of_getElem? w_52)) (hw _ (List.mem_of_getElem? w_53)) (nfS (z := (⟨"java/lang/String", "lastIndexOf", "(II)I"⟩ : MethodName)) (hw _ (List.mem_of_getElem? w_55))) (hw _ (List.mem_of_getElem? w_55)) (hw _ (List.mem_of_getElem? w_54)) (hw _ (List.mem_of_getElem? w_6)) (hw _ (List.mem_of_getElem? w_56)) (by decide) (c_last2 l Z a0 hw hE cc fm a b cs h0 W60.old G S0) E_a (by rw [hml]; rfl) (lenOf pd_7 rfl) rfl (hb hby d_jdk_42_82_8) (Nat.le_of_ble_eq_true rfl) (Nat.le_of_ble_eq_true rfl) rfl rfl (Nat.le_of_ble_eq_true rfl) (Nat.le_of_ble_eq_true rfl) rfl fun T61 W61 => ?_
  refine w_retI W61 hx hh hlk hret (hb hby d_jdk_42_82_11) (Nat.le_of_ble_eq_true rfl) (Nat.le_of_ble_eq_true rfl) ?_
  exact ⟨rfl, rfl⟩
def misG (xs ys : List Int32) : Nat → Nat → Int32
  | 0, _ => -1
  | k + 1, i => if xs[i]? = ys[i]? then misG xs ys k (i + 1) else i.toInt32
theorem own_zadd (z : Int32) : (0 : Int32) + z = z := by simp
set_option maxRecDepth 65536 in
set_option maxHeartbeats 40000000 in
theorem c_mis (l : Launch) (Z : State) (a0 : Array Value) (hw : ∀ d ∈ tables_1, d.before a0 Z = true) (hE : EW Z a0 consts_1) (cc : Int32) (fm : Value) (a b : Nat) (cs : List Int32) (a2 b2 : Nat) (cs2 : List Int32) (gn : Nat)  (h0 : Heap) (O : Ext Z.heap h0) (G : SEnv Z cc fm) (S0 : SL Z h0 a b cs) (S2 : SL Z h0 a2 b2 cs2) (hg7 : gn ≤ 3) (hg1 : gn ≤ cs.length) (hg2 : gn ≤ cs2.length)  :
    Con l Z consts_1 (⟨"jdk/internal/util/ArraysSupport", "mismatch", "([BI[BII)I"⟩ : MethodName) jdk_48_method_14_code 8 (Option.some Jvm.ClassFile.FieldType.int) ({ frames := 0, cells := 0, slots := 0, locals := 0 } : Room) #[(.ref b), (.int (0 : Int32)), (.ref b2), (.int (0 : Int32)), (.int gn.toInt32)] h0 [] (pureQ (some (.int (misG cs cs2 gn 0))) h0) := by
  refine Con.of (a0 := a0) #[.val (.ref b), .val (.int (0 : Int32)), .val (.ref b2), .val (.int (0 : Int32)), .val (.int gn.toInt32), .unset, .unset, .unset] (plainFor_of_name pn_3) hE O all0 (fun m => by first | (simp [entryFrame, mkF, argsToLocals, Value.category]; done) | rfl) ?_
  intro p e s m below meth c T0 hx hby hml hnm hret hlk hh W0
  obtain ⟨E_a, FC_a, FV_a, V_b, L_a⟩ := id S0
  have hlen : cs.length < 2 ^ 31 := by have := V_b.len; simpa using this
  obtain ⟨E_a2, FC_a2, FV_a2, V_b2, L_a2⟩ := id S2
  have hlen2 : cs2.length < 2 ^ 31 := by have := V_b2.len; simpa using this
  refine g_iconst (0 : Int32) (pc' := 1) W0.here hx (hb hby d_jdk_48_14_0) rfl rfl ?_
  refine g_istore (pc' := 3) (Ls' := #[.val (.ref b), .val (.int (0 : Int32)), .val (.ref b2), .val (.int (0 : Int32)), .val (.int gn.toInt32), .val (.int (0 : Int32)), .unset, .unset]) W0.here hx (hb hby d_jdk_48_14_1) rfl rfl ?_
  refine g_iload (pc' := 5) W0.here hx (hb hby d_jdk_48_14_3) rfl rfl ?_
  refine g_bipush (7 : Int32) (pc' := 7) W0.here hx (hb hby d_jdk_48_14_5) rfl rfl ?_
  refine g_icmpY (pc' := 70) W0.here hx (hb hby d_jdk_48_14_7) rfl (flt (show ¬ ((7 : Int32) < gn.toInt32) from (by rw [Int32.lt_iff_toInt_lt, own_toInt (by omega)]; have : (7 : Int32).toInt = 7 := rfl; omega))).2.2.2 ?_
  have LOOP : ∀ (k i : Nat), i + k = gn → ∀ (TL : State), Wk p l e ({ frames := 0, cells := 0, slots := 0, locals := 0 } : Room) s m #[(.ref b), (.int (0 : Int32)), (.ref b2), (.int (0 : Int32)), (.int gn.toInt32)] below meth c Z consts_1 "jdk/internal/util/ArraysSupport" [] [] TL h0 0 0 → misG cs cs2 gn 0 = misG cs cs2 k i → Gets p.tables e below (Post s Z consts_1 ({ frames := 0, cells := 0, slots := 0, locals := 0 } : Room) h0 [] (pureQ (some (.int (misG cs cs2 gn 0))) h0)) TL (mkF m 70 #[.val (.ref b), .val (.int (0 : Int32)), .val (.ref b2), .val (.int (0 : Int32)), .val (.int gn.toInt32), .val (.int i.toInt32), .unset, .unset] []) := by
    intro k
    induction k with
    | zero =>
      intro i hi TL  WL HI
      refine g_iload (pc' := 72) WL.here hx (hb hby d_jdk_48_14_70) rfl rfl ?_
      refine g_iload (pc' := 74) WL.here hx (hb hby d_jdk_48_14_72) rfl rfl ?_
      refine g_icmpY (pc' := 101) WL.here hx (hb hby d_jdk_48_14_74) rfl (flt (show ¬ (i.toInt32 < gn.toInt32) from (own_nltn (by omega) (by omega)))).2.1 ?_
      refine g_iconst (-1 : Int32) (pc' := 102) WL.here hx (hb hby d_jdk_48_14_101) rfl rfl ?_
      refine w_retI WL hx hh hlk hret (hb hby d_jdk_48_14_102) (Nat.le_of_ble_eq_true rfl) (Nat.le_of_ble_eq_true rfl) ?_
      exact ⟨congrArg (fun z => some (Value.int z)) (by rw [HI, misG]), rfl⟩
    | succ k ih =>
      intro i hi TL  WL HI
      have hi2 : i < gn := by omega
      obtain ⟨ci, hci⟩ : ∃ ci, cs[i]? = some ci := ⟨_, List.getElem?_eq_getElem (by omega)⟩
      obtain ⟨di, hdi⟩ : ∃ di, cs2[i]? = some di := ⟨_, List.getElem?_eq_getElem (by omega)⟩
      refine g_iload (pc' := 72) WL.here hx (hb hby d_jdk_48_14_70) rfl rfl ?_
      refine g_iload (pc' := 74) WL.here hx (hb hby d_jdk_48_14_72) rfl rfl ?_
      refine g_icmpN (pc' := 77) WL.here hx (hb hby d_jdk_48_14_74) rfl (tlt (show i.toInt32 < gn.toInt32 from (own_ltn hi2 (by omega)))).2.1 ?_
      refine g_aloadN (pc' := 78) WL.here hx (hb hby d_jdk_48_14_77) rfl rfl rfl ?_
      refine g_iloadN (pc' := 79) WL.here hx (hb hby d_jdk_48_14_78) rfl rfl ?_
      refine g_iload (pc' := 81) WL.here hx (hb hby d_jdk_48_14_79) rfl rfl ?_
      refine g_iadd (pc' := 82) WL.here hx (hb hby d_jdk_48_14_81) rfl ?_
      refine w_baload (pc' := 83) (v := (.int ci.toInt8.toInt32)) WL hx V_b (by rw [own_zadd]; exact own_nneg (by omega)) (by rw [own_zadd, i32_nat (by omega), List.getElem?_map, hci]; rfl) (hb hby d_jdk_48_14_82) rfl ?_
      refine g_aloadN (pc' := 84) WL.here hx (hb hby d_jdk_48_14_83) rfl rfl rfl ?_
      refine g_iloadN (pc' := 85) WL.here hx (hb hby d_jdk_48_14_84) rfl rfl ?_
      refine g_iload (pc' := 87) WL.here hx (hb hby d_jdk_48_14_85) rfl rfl ?_
      refine g_iadd (pc' := 88) WL.here hx (hb hby d_jdk_48_14_87) rfl ?_
      refine w_baload (pc' := 89) (v := (.int di.toInt8.toInt32)) WL hx V_b2 (by rw [own_zadd]; exact own_nneg (by omega)) (by rw [own_zadd, i32_nat (by omega), List.getElem?_map, hdi]; rfl) (hb hby d_jdk_48_14_88) rfl ?_
      by_cases hc89_62 : ci.toInt8.toInt32 = di.toInt8.toInt32
      · refine g_icmpY (pc' := 95) WL.here hx (hb hby d_jdk_48_14_89) rfl (teq hc89_62).1 ?_
        refine g_iincV (i + 1).toInt32 (pc' := 98) (Ls' := #[.val (.ref b), .val (.int (0 : Int32)), .val (.ref b2), .val (.int (0 : Int32)), .val (.int gn.toInt32), .val (.int (i + 1).toInt32), .unset, .unset]) WL.here hx (hb hby d_jdk_48_14_95) (own_succ i) rfl rfl rfl ?_
        refine g_goto (pc' := 70) WL.here hx (hb hby d_jdk_48_14_98) rfl ?_
        exact ih (i + 1) (by omega) _  WL (by rw [HI, misG, if_pos (by rw [hci, hdi]; exact congrArg some ((own_binj (L_a ci (List.mem_of_getElem? hci)) (L_a2 di (List.mem_of_getElem? hdi))).mp hc89_62))])
      · refine g_icmpN (pc' := 92) WL.here hx (hb hby d_jdk_48_14_89) rfl (feq hc89_62).1 ?_
        refine g_iload (pc' := 94) WL.here hx (hb hby d_jdk_48_14_92) rfl rfl ?_
        refine w_retI WL hx hh hlk hret (hb hby d_jdk_48_14_94) (Nat.le_of_ble_eq_true rfl) (Nat.le_of_ble_eq_true rfl) ?_
        exact ⟨congrArg (fun z => some (Value.int z)) (by rw [HI, misG, if_neg (fun q => by rw [hci, hdi] at q; cases q; exact hc89_62 rfl)]), rfl⟩
  exact LOOP gn 0 (by omega) _  W0 rfl
theorem own_lle {n k : Nat} (h : k ≤ n) (hn : n < 2 ^ 31) : ¬ (0 : Int32) < lcmpW (0 : Int32).toInt64 (n.toInt32.toInt64 - k.toInt32.toInt64) := by
  rw [lw_gt, Int64.lt_iff_toInt_lt]
  have q := c_lsub n.toInt32.toInt64 k.toInt32.toInt64
  have r := rng64 (n.toInt32.toInt64 - k.toInt32.toInt64)
  rw [c_i2l, c_i2l, own_toInt hn, own_toInt (by omega)] at q
  have e : (0 : Int32).toInt64.toInt = 0 := rfl
  omega
theorem own_le0 {n : Nat} (hn : n < 2 ^ 31) (h : ¬ (0 : Int32) < n.toInt32) : n = 0 := by
  rw [Int32.lt_iff_toInt_lt, own_toInt hn] at h
  have e : (0 : Int32).toInt = 0 := rfl
  omega
set_option maxRecDepth 65536 in
set_option maxHeartbeats 40000000 in
theorem c_region (l : Launch) (Z : State) (a0 : Array Value) (hw : ∀ d ∈ tables_1, d.before a0 Z = true) (hE : EW Z a0 consts_1) (cc : Int32) (fm : Value) (a b : Nat) (cs : List Int32) (a2 b2 : Nat) (cs2 : List Int32) (gn : Nat)  (h0 : Heap) (O : Ext Z.heap h0) (G : SEnv Z cc fm) (S0 : SL Z h0 a b cs) (S2 : SL Z h0 a2 b2 cs2) (hg7 : gn ≤ 3) (hg1 : gn ≤ cs.length) (hg2 : gn ≤ cs2.length)  :
    Con l Z consts_1 (⟨"java/lang/String", "regionMatches", "(ILjava/lang/String;II)Z"⟩ : MethodName) jdk_42_method_73_code 8 (Option.some Jvm.ClassFile.FieldType.boolean) ({ frames := 2, cells := 0, slots := 0, locals := 27 } : Room) #[(.ref a), (.int (0 : Int32)), (.ref a2), (.int (0 : Int32)), (.int gn.toInt32)] h0 [] (pureQ (some (.int (if misG cs cs2 gn 0 < 0 then 1 else 0))) h0) := by
  refine Con.of (a0 := a0) #[.val (.ref a), .val (.int (0 : Int32)), .val (.ref a2), .val (.int (0 : Int32)), .val (.int gn.toInt32), .unset, .unset, .unset] (plainFor_of_name pn_1) hE O all0 (fun m => by first | (simp [entryFrame, mkF, argsToLocals, Value.category]; done) | rfl) ?_
  intro p e s m below meth c T0 hx hby hml hnm hret hlk hh W0
  obtain ⟨E_a, FC_a, FV_a, V_b, L_a⟩ := id S0
  have hlen : cs.length < 2 ^ 31 := by have := V_b.len; simpa using this
  obtain ⟨E_a2, FC_a2, FV_a2, V_b2, L_a2⟩ := id S2
  have hlen2 : cs2.length < 2 ^ 31 := by have := V_b2.len; simpa using this
  refine g_iloadN (pc' := 1) W0.here hx (hb hby d_jdk_42_73_0) rfl rfl ?_
  refine g_ifN (pc' := 4) W0.here hx (hb hby d_jdk_42_73_1) rfl (flt (show ¬ ((0 : Int32) < (0 : Int32)) from (by decide))).1 ?_
  refine g_iloadN (pc' := 5) W0.here hx (hb hby d_jdk_42_73_4) rfl rfl ?_
  refine g_ifN (pc' := 8) W0.here hx (hb hby d_jdk_42_73_5) rfl (flt (show ¬ ((0 : Int32) < (0 : Int32)) from (by decide))).1 ?_
  refine g_iloadN (pc' := 9) W0.here hx (hb hby d_jdk_42_73_8) rfl rfl ?_
  refine g_i2l (pc' := 10) W0.here hx (hb hby d_jdk_42_73_9) rfl ?_
  refine g_aloadN (pc' := 11) W0.here hx (hb hby d_jdk_42_73_10) rfl rfl rfl ?_
  refine w_virtualp (pc' := 14) (st := [(.long ((0 : Int32).toInt64))]) (y := (⟨"java/lang/String", "length", "()I"⟩ : MethodName)) (z := (⟨"java/lang/String", "length", "()I"⟩ : MethodName)) (a := a) W0 hx [] (hw _ (List.mem_of_getElem? w_41)) (hw _ (List.mem_of_getElem? w_42)) (nfS (z := (⟨"java/lang/String", "length", "()I"⟩ : MethodName)) (hw _ (List.mem_of_getElem? w_44))) (hw _ (List.mem_of_getElem? w_44)) (hw _ (List.mem_of_getElem? w_43)) (hw _ (List.mem_of_getElem? w_6)) (hw _ (List.mem_of_getElem? w_45)) (by decide) (c_length l Z a0 hw hE cc fm a b cs  h0 W0.old G S0 ) E_a (by rw [hml]; rfl) (lenOf pd_10 rfl) rfl (hb hby d_jdk_42_73_11) (Nat.le_of_ble_eq_true rfl) (Nat.le_of_ble_eq_true rfl) rfl rfl (Nat.le_of_ble_eq_true rfl) (Nat.le_of_ble_eq_true rfl) rfl fun T63 W63 => ?_
  refine g_i2l (pc' := 15) W63.here hx (hb hby d_jdk_42_73_14) rfl ?_
  refine g_iload (pc' := 17) W63.here hx (hb hby d_jdk_42_73_15) rfl rfl ?_
  refine g_i2l (pc' := 18) W63.here hx (hb hby d_jdk_42_73_17) rfl ?_
  refine g_lsub (pc' := 19) W63.here hx (hb hby d_jdk_42_73_18) rfl ?_
  refine g_lcmp (pc' := 20) W63.here hx (hb hby d_jdk_42_73_19) rfl ?_
  refine g_ifN (pc' := 23) W63.here hx (hb hby d_jdk_42_73_20) rfl (flt (show ¬ ((0 : Int32) < (lcmpW ((0 : Int32).toInt64) ((cs.length.toInt32.toInt64) - (gn.toInt32.toInt64)))) from (own_lle hg1 hlen))).2.2.1 ?_
  refine g_iloadN (pc' := 24) W63.here hx (hb hby d_jdk_42_73_23) rfl rfl ?_
  refine g_i2l (pc' := 25) W63.here hx (hb hby d_jdk_42_73_24) rfl ?_
  refine g_aloadN (pc' := 26) W63.here hx (hb hby d_jdk_42_73_25) rfl rfl rfl ?_
  refine w_virtualp (pc' := 29) (st := [(.long ((0 : Int32).toInt64))]) (y := (⟨"java/lang/String", "length", "()I"⟩ : MethodName)) (z := (⟨"java/lang/String", "length", "()I"⟩ : MethodName)) (a := a2) W63 hx [] (hw _ (List.mem_of_getElem? w_41)) (hw _ (List.mem_of_getElem? w_42)) (nfS (z := (⟨"java/lang/String", "length", "()I"⟩ : MethodName)) (hw _ (List.mem_of_getElem? w_44))) (hw _ (List.mem_of_getElem? w_44)) (hw _ (List.mem_of_getElem? w_43)) (hw _ (List.mem_of_getElem? w_6)) (hw _ (List.mem_of_getElem? w_45)) (by decide) (c_length l Z a0 hw hE cc fm a2 b2 cs2  h0 W63.old G S2 ) E_a2 (by rw [hml]; rfl) (lenOf pd_10 rfl) rfl (hb hby d_jdk_42_73_26) (Nat.le_of_ble_eq_true rfl) (Nat.le_of_ble_eq_true rfl) rfl rfl (Nat.le_of_ble_eq_true rfl) (Nat.le_of_ble_eq_true rfl) rfl fun T64 W64 => ?_
  refine g_i2l (pc' := 30) W64.here hx (hb hby d_jdk_42_73_29) rfl ?_
  refine g_iload (pc' := 32) W64.here hx (hb hby d_jdk_42_73_30) rfl rfl ?_
  refine g_i2l (pc' := 33) W64.here hx (hb hby d_jdk_42_73_32) rfl ?_
  refine g_lsub (pc' := 34) W64.here hx (hb hby d_jdk_42_73_33) rfl ?_
  refine g_lcmp (pc' := 35) W64.here hx (hb hby d_jdk_42_73_34) rfl ?_
  refine g_ifY (pc' := 40) W64.here hx (hb hby d_jdk_42_73_35) rfl (flt (show ¬ ((0 : Int32) < (lcmpW ((0 : Int32).toInt64) ((cs2.length.toInt32.toInt64) - (gn.toInt32.toInt64)))) from (own_lle hg2 hlen2))).2.2.2 ?_
  refine g_iload (pc' := 42) W64.here hx (hb hby d_jdk_42_73_40) rfl rfl ?_
  by_cases hc42_65 : (0 : Int32) < gn.toInt32
  · refine g_ifY (pc' := 47) W64.here hx (hb hby d_jdk_42_73_42) rfl (tlt hc42_65).2.2.1 ?_
    refine g_aloadN (pc' := 48) W64.here hx (hb hby d_jdk_42_73_47) rfl rfl rfl ?_
    refine w_get (pc' := 51) W64 hx (hw _ (List.mem_of_getElem? w_27)) Via.refl FV_a (hb hby d_jdk_42_73_48) rfl fun T66 W66 => ?_
    refine g_astore (pc' := 53) (Ls' := #[.val (.ref a), .val (.int (0 : Int32)), .val (.ref a2), .val (.int (0 : Int32)), .val (.int gn.toInt32), .val (.ref b), .unset, .unset]) W66.here hx (hb hby d_jdk_42_73_51) rfl rfl rfl ?_
    refine g_aloadN (pc' := 54) W66.here hx (hb hby d_jdk_42_73_53) rfl rfl rfl ?_
    refine w_get (pc' := 57) W66 hx (hw _ (List.mem_of_getElem? w_27)) Via.refl FV_a2 (hb hby d_jdk_42_73_54) rfl fun T67 W67 => ?_
    refine g_astore (pc' := 59) (Ls' := #[.val (.ref a), .val (.int (0 : Int32)), .val (.ref a2), .val (.int (0 : Int32)), .val (.int gn.toInt32), .val (.ref b), .val (.ref b2), .unset]) W67.here hx (hb hby d_jdk_42_73_57) rfl rfl rfl ?_
    refine g_aloadN (pc' := 60) W67.here hx (hb hby d_jdk_42_73_59) rfl rfl rfl ?_
    refine w_virtualp (pc' := 63) (st := []) (y := (⟨"java/lang/String", "coder", "()B"⟩ : MethodName)) (z := (⟨"java/lang/String", "coder", "()B"⟩ : MethodName)) (a := a) W67 hx [] (hw _ (List.mem_of_getElem? w_46)) (hw _ (List.mem_of_getElem? w_47)) (nfS (z := (⟨"java/lang/String", "coder", "()B"⟩ : MethodName)) (hw _ (List.mem_of_getElem? w_49))) (hw _ (List.mem_of_getElem? w_49)) (hw _ (List.mem_of_getElem? w_48)) (hw _ (List.mem_of_getElem? w_6)) (hw _ (List.mem_of_getElem? w_50)) (by decide) (c_coder l Z a0 hw hE cc fm a b cs h0 W67.old G S0) E_a (by rw [hml]; rfl) (lenOf pd_4 rfl) rfl (hb hby d_jdk_42_73_60) (Nat.le_of_ble_eq_true rfl) (Nat.le_of_ble_eq_true rfl) rfl rfl (Nat.le_of_ble_eq_true rfl) (Nat.le_of_ble_eq_true rfl) rfl fun T68 W68 => ?_
    refine g_istore (pc' := 65) (Ls' := #[.val (.ref a), .val (.int (0 : Int32)), .val (.ref a2), .val (.int (0 : Int32)), .val (.int gn.toInt32), .val (.ref b), .val (.ref b2), .val (.int (0 : Int32))]) W68.here hx (hb hby d_jdk_42_73_63) rfl rfl ?_
    refine g_iload (pc' := 67) W68.here hx (hb hby d_jdk_42_73_65) rfl rfl ?_
    refine g_aloadN (pc' := 68) W68.here hx (hb hby d_jdk_42_73_67) rfl rfl rfl ?_
    refine w_virtualp (pc' := 71) (st := [(.int (0 : Int32))]) (y := (⟨"java/lang/String", "coder", "()B"⟩ : MethodName)) (z := (⟨"java/lang/String", "coder", "()B"⟩ : MethodName)) (a := a2) W68 hx [] (hw _ (List.mem_of_getElem? w_46)) (hw _ (List.mem_of_getElem? w_47)) (nfS (z := (⟨"java/lang/String", "coder", "()B"⟩ : MethodName)) (hw _ (List.mem_of_getElem? w_49))) (hw _ (List.mem_of_getElem? w_49)) (hw _ (List.mem_of_getElem? w_48)) (hw _ (List.mem_of_getElem? w_6)) (hw _ (List.mem_of_getElem? w_50)) (by decide) (c_coder l Z a0 hw hE cc fm a2 b2 cs2 h0 W68.old G S2) E_a2 (by rw [hml]; rfl) (lenOf pd_4 rfl) rfl (hb hby d_jdk_42_73_68) (Nat.le_of_ble_eq_true rfl) (Nat.le_of_ble_eq_true rfl) rfl rfl (Nat.le_of_ble_eq_true rfl) (Nat.le_of_ble_eq_true rfl) rfl fun T69 W69 => ?_
    refine g_icmpN (pc' := 74) W69.here hx (hb hby d_jdk_42_73_71) rfl (teq (show (0 : Int32) = (0 : Int32) from (by decide))).2 ?_
    refine g_iload (pc' := 76) W69.here hx (hb hby d_jdk_42_73_74) rfl rfl ?_
    refine g_iconst (1 : Int32) (pc' := 77) W69.here hx (hb hby d_jdk_42_73_76) rfl rfl ?_
    refine g_icmpY (pc' := 94) W69.here hx (hb hby d_jdk_42_73_77) rfl (feq (show ¬ ((0 : Int32) = (1 : Int32)) from (by decide))).2 ?_
    refine g_aload (pc' := 96) W69.here hx (hb hby d_jdk_42_73_94) rfl rfl rfl ?_
    refine g_iloadN (pc' := 97) W69.here hx (hb hby d_jdk_42_73_96) rfl rfl ?_
    refine g_aload (pc' := 99) W69.here hx (hb hby d_jdk_42_73_97) rfl rfl rfl ?_
    refine g_iloadN (pc' := 100) W69.here hx (hb hby d_jdk_42_73_99) rfl rfl ?_
    refine g_iload (pc' := 102) W69.here hx (hb hby d_jdk_42_73_100) rfl rfl ?_
    refine w_callSp (pc' := 105) (st := []) (y := (⟨"jdk/internal/util/ArraysSupport", "mismatch", "([BI[BII)I"⟩ : MethodName)) W69 hx [(.ref b), (.int (0 : Int32)), (.ref b2), (.int (0 : Int32)), (.int gn.toInt32)] (hw _ (List.mem_of_getElem? w_97)) (hw _ (List.mem_of_getElem? w_98)) (hw _ (List.mem_of_getElem? w_99)) (hw _ (List.mem_of_getElem? w_100)) (by decide) (c_mis l Z a0 hw hE cc fm a b cs a2 b2 cs2 gn h0 W69.old G S0 S2 hg7 hg1 hg2) (by rw [hml]; rfl) (lenOf pd_11 rfl) rfl (hb hby d_jdk_42_73_102) (Nat.le_of_ble_eq_true rfl) (Nat.le_of_ble_eq_true rfl) rfl rfl (Nat.le_of_ble_eq_true rfl) (Nat.le_of_ble_eq_true rfl) rfl fun T70 W70 => ?_
    by_cases hms : misG cs cs2 gn 0 < 0
    · refine g_ifN (pc' := 108) W70.here hx (hb hby d_jdk_42_73_105) rfl (tlt (show (misG cs cs2 gn 0) < (0 : Int32) from hms)).2.1 ?_
      refine g_iconst (1 : Int32) (pc' := 109) W70.here hx (hb hby d_jdk_42_73_108) rfl rfl ?_
      refine g_goto (pc' := 113) W70.here hx (hb hby d_jdk_42_73_109) rfl ?_
      refine w_retN (t := .boolean) W70 hx hh hlk hret (by simp) (hb hby d_jdk_42_73_113) (Nat.le_of_ble_eq_true rfl) (Nat.le_of_ble_eq_true rfl) ?_
      exact ⟨by rw [if_pos hms]; rfl, rfl⟩
    · refine g_ifY (pc' := 112) W70.here hx (hb hby d_jdk_42_73_105) rfl (flt (show ¬ ((misG cs cs2 gn 0) < (0 : Int32)) from hms)).2.1 ?_
      refine g_iconst (0 : Int32) (pc' := 113) W70.here hx (hb hby d_jdk_42_73_112) rfl rfl ?_
      refine w_retN (t := .boolean) W70 hx hh hlk hret (by simp) (hb hby d_jdk_42_73_113) (Nat.le_of_ble_eq_true rfl) (Nat.le_of_ble_eq_true rfl) ?_
      exact ⟨by rw [if_neg hms]; rfl, rfl⟩
  · refine g_ifN (pc' := 45) W64.here hx (hb hby d_jdk_42_73_42) rfl (flt hc42_65).2.2.1 ?_
    refine g_iconst (1 : Int32) (pc' := 46) W64.here hx (hb hby d_jdk_42_73_45) rfl rfl ?_
    refine w_retN (t := .boolean) W64 hx hh hlk hret (by simp) (hb hby d_jdk_42_73_46) (Nat.le_of_ble_eq_true rfl) (Nat.le_of_ble_eq_true rfl) ?_
    have e0 : gn = 0 := own_le0 (by omega) hc42_65
    subst e0
    exact ⟨by rw [if_pos (by rw [misG]; decide)]; rfl, rfl⟩
def sameH (cs cs2 : List Int32) : Int32 := if lastIx cs cs.length < 0 then (if cs = cs2 then 1 else 0) else if lastIx cs cs.length = lastIx cs2 cs2.length then (if misG cs cs2 (lastIx cs cs.length).toNatClampNeg 0 < 0 then 1 else 0) else 0
theorem own_lastr (cs : List Int32) : ∀ n : Nat, n ≤ cs.length → n < 2 ^ 31 → lastIx cs n < 0 ∨ ∃ k : Nat, k < n ∧ lastIx cs n = k.toInt32
  | 0, _, _ => Or.inl (by rw [lastIx]; decide)
  | n + 1, h, h2 => by
    rw [lastIx]
    split
    · exact Or.inr ⟨n, by omega, rfl⟩
    · rcases own_lastr cs n (by omega) (by omega) with q | ⟨k, q1, q2⟩
      · exact Or.inl q
      · exact Or.inr ⟨k, by omega, q2⟩
set_option maxRecDepth 65536 in
set_option maxHeartbeats 40000000 in
theorem c_same (l : Launch) (Z : State) (a0 : Array Value) (hw : ∀ d ∈ tables_1, d.before a0 Z = true) (hE : EW Z a0 consts_1) (cc : Int32) (fm : Value) (a b : Nat) (cs : List Int32) (a2 b2 : Nat) (cs2 : List Int32)  (h0 : Heap) (O : Ext Z.heap h0) (G : SEnv Z cc fm) (S0 : SL Z h0 a b cs) (S2 : SL Z h0 a2 b2 cs2) (hne : a ≠ a2) (h3 : cs.length ≤ 3)  :
    Con l Z consts_1 (⟨"com/example/grapple/grapple/internal/OwnerIds", "sameHolder", "(Ljava/lang/String;Ljava/lang/String;)Z"⟩ : MethodName) prog_4_method_3_code 3 (Option.some Jvm.ClassFile.FieldType.boolean) ({ frames := 4, cells := 0, slots := 0, locals := 56 } : Room) #[(.ref a), (.ref a2)] h0 [] (pureQ (some (.int (sameH cs cs2))) h0) := by
  refine Con.of (a0 := a0) #[.val (.ref a), .val (.ref a2), .unset] (plainFor_of_name pn_4) hE O all0 (fun m => by first | (simp [entryFrame, mkF, argsToLocals, Value.category]; done) | rfl) ?_
  intro p e s m below meth c T0 hx hby hml hnm hret hlk hh W0
  obtain ⟨E_a, FC_a, FV_a, V_b, L_a⟩ := id S0
  have hlen : cs.length < 2 ^ 31 := by have := V_b.len; simpa using this
  obtain ⟨E_a2, FC_a2, FV_a2, V_b2, L_a2⟩ := id S2
  have hlen2 : cs2.length < 2 ^ 31 := by have := V_b2.len; simpa using this
  refine g_aloadN (pc' := 1) W0.here hx (hb hby d_prog_4_3_0) rfl rfl rfl ?_
  refine g_bipush (58 : Int32) (pc' := 3) W0.here hx (hb hby d_prog_4_3_1) rfl rfl ?_
  refine w_virtualp (pc' := 6) (st := []) (y := (⟨"java/lang/String", "lastIndexOf", "(I)I"⟩ : MethodName)) (z := (⟨"java/lang/String", "lastIndexOf", "(I)I"⟩ : MethodName)) (a := a) W0 hx [(.int (58 : Int32))] (hw _ (List.mem_of_getElem? w_36)) (hw _ (List.mem_of_getElem? w_37)) (nfS (z := (⟨"java/lang/String", "lastIndexOf", "(I)I"⟩ : MethodName)) (hw _ (List.mem_of_getElem? w_39))) (hw _ (List.mem_of_getElem? w_39)) (hw _ (List.mem_of_getElem? w_38)) (hw _ (List.mem_of_getElem? w_6)) (hw _ (List.mem_of_getElem? w_40)) (by decide) (c_last1 l Z a0 hw hE cc fm a b cs  h0 W0.old G S0 ) E_a (by rw [hml]; rfl) (lenOf pd_12 rfl) rfl (hb hby d_prog_4_3_3) (Nat.le_of_ble_eq_true rfl) (Nat.le_of_ble_eq_true rfl) rfl rfl (Nat.le_of_ble_eq_true rfl) (Nat.le_of_ble_eq_true rfl) rfl fun T71 W71 => ?_
  refine g_istoreN (pc' := 7) (Ls' := #[.val (.ref a), .val (.ref a2), .val (.int (lastIx cs cs.length))]) W71.here hx (hb hby d_prog_4_3_6) rfl rfl ?_
  refine g_iloadN (pc' := 8) W71.here hx (hb hby d_prog_4_3_7) rfl rfl ?_
  by_cases hc8_72 : (lastIx cs cs.length) < (0 : Int32)
  · refine g_ifN (pc' := 11) W71.here hx (hb hby d_prog_4_3_8) rfl (tlt hc8_72).2.1 ?_
    refine g_aloadN (pc' := 12) W71.here hx (hb hby d_prog_4_3_11) rfl rfl rfl ?_
    refine g_aloadN (pc' := 13) W71.here hx (hb hby d_prog_4_3_12) rfl rfl rfl ?_
    refine w_virtualp (pc' := 16) (st := []) (y := (⟨"java/lang/String", "equals", "(Ljava/lang/Object;)Z"⟩ : MethodName)) (z := (⟨"java/lang/String", "equals", "(Ljava/lang/Object;)Z"⟩ : MethodName)) (a := a) W71 hx [(.ref a2)] (hw _ (List.mem_of_getElem? w_73)) (hw _ (List.mem_of_getElem? w_74)) (nfS (z := (⟨"java/lang/String", "equals", "(Ljava/lang/Object;)Z"⟩ : MethodName)) (hw _ (List.mem_of_getElem? w_76))) (hw _ (List.mem_of_getElem? w_76)) (hw _ (List.mem_of_getElem? w_75)) (hw _ (List.mem_of_getElem? w_6)) (hw _ (List.mem_of_getElem? w_77)) (by decide) (c_equals l Z a0 hw hE cc fm a b cs a2 b2 cs2  h0 W71.old G S0 S2 hne) E_a (by rw [hml]; rfl) (lenOf pd_13 rfl) rfl (hb hby d_prog_4_3_13) (Nat.le_of_ble_eq_true rfl) (Nat.le_of_ble_eq_true rfl) rfl rfl (Nat.le_of_ble_eq_true rfl) (Nat.le_of_ble_eq_true rfl) rfl fun T73 W73 => ?_
    refine g_goto (pc' := 45) W73.here hx (hb hby d_prog_4_3_16) rfl ?_
    refine w_retN (t := .boolean) W73 hx hh hlk hret (by simp) (hb hby d_prog_4_3_45) (Nat.le_of_ble_eq_true rfl) (Nat.le_of_ble_eq_true rfl) ?_
    exact ⟨congrArg (fun z => some (Value.int z)) (by rw [sameH, if_pos hc8_72]; split <;> rfl), rfl⟩
  · refine g_ifY (pc' := 19) W71.here hx (hb hby d_prog_4_3_8) rfl (flt hc8_72).2.1 ?_
    obtain ⟨gn, hgn, eg⟩ : ∃ k : Nat, k < cs.length ∧ lastIx cs cs.length = k.toInt32 := by rcases own_lastr cs cs.length (Nat.le_refl _) hlen with q | q; exact absurd q hc8_72; exact q
    refine g_iloadN (pc' := 20) W71.here hx (hb hby d_prog_4_3_19) rfl rfl ?_
    refine g_aloadN (pc' := 21) W71.here hx (hb hby d_prog_4_3_20) rfl rfl rfl ?_
    refine g_bipush (58 : Int32) (pc' := 23) W71.here hx (hb hby d_prog_4_3_21) rfl rfl ?_
    refine w_virtualp (pc' := 26) (st := [(.int (lastIx cs cs.length))]) (y := (⟨"java/lang/String", "lastIndexOf", "(I)I"⟩ : MethodName)) (z := (⟨"java/lang/String", "lastIndexOf", "(I)I"⟩ : MethodName)) (a := a2) W71 hx [(.int (58 : Int32))] (hw _ (List.mem_of_getElem? w_36)) (hw _ (List.mem_of_getElem? w_37)) (nfS (z := (⟨"java/lang/String", "lastIndexOf", "(I)I"⟩ : MethodName)) (hw _ (List.mem_of_getElem? w_39))) (hw _ (List.mem_of_getElem? w_39)) (hw _ (List.mem_of_getElem? w_38)) (hw _ (List.mem_of_getElem? w_6)) (hw _ (List.mem_of_getElem? w_40)) (by decide) (c_last1 l Z a0 hw hE cc fm a2 b2 cs2  h0 W71.old G S2 ) E_a2 (by rw [hml]; rfl) (lenOf pd_12 rfl) rfl (hb hby d_prog_4_3_23) (Nat.le_of_ble_eq_true rfl) (Nat.le_of_ble_eq_true rfl) rfl rfl (Nat.le_of_ble_eq_true rfl) (Nat.le_of_ble_eq_true rfl) rfl fun T74 W74 => ?_
    by_cases hc26_75 : (lastIx cs cs.length) = (lastIx cs2 cs2.length)
    · refine g_icmpN (pc' := 29) W74.here hx (hb hby d_prog_4_3_26) rfl (teq hc26_75).2 ?_
      have hg2 : gn ≤ cs2.length := by rcases own_lastr cs2 cs2.length (Nat.le_refl _) hlen2 with q | ⟨k, q1, q2⟩; rw [← hc26_75] at q; exact absurd q hc8_72; rw [← hc26_75, eg] at q2; have := (own_n32 (by omega) (by omega)).mp q2; omega
      refine g_aloadN (pc' := 30) W74.here hx (hb hby d_prog_4_3_29) rfl rfl rfl ?_
      refine g_iconst (0 : Int32) (pc' := 31) W74.here hx (hb hby d_prog_4_3_30) rfl rfl ?_
      refine g_aloadN (pc' := 32) W74.here hx (hb hby d_prog_4_3_31) rfl rfl rfl ?_
      refine g_iconst (0 : Int32) (pc' := 33) W74.here hx (hb hby d_prog_4_3_32) rfl rfl ?_
      refine g_iloadN (pc' := 34) W74.here hx (hb hby d_prog_4_3_33) rfl rfl ?_
      refine g_name (w := .int gn.toInt32) (by rw [eg]) ?_
      refine w_virtualp (pc' := 37) (st := []) (y := (⟨"java/lang/String", "regionMatches", "(ILjava/lang/String;II)Z"⟩ : MethodName)) (z := (⟨"java/lang/String", "regionMatches", "(ILjava/lang/String;II)Z"⟩ : MethodName)) (a := a) W74 hx [(.int (0 : Int32)), (.ref a2), (.int (0 : Int32)), (.int gn.toInt32)] (hw _ (List.mem_of_getElem? w_92)) (hw _ (List.mem_of_getElem? w_93)) (nfS (z := (⟨"java/lang/String", "regionMatches", "(ILjava/lang/String;II)Z"⟩ : MethodName)) (hw _ (List.mem_of_getElem? w_95))) (hw _ (List.mem_of_getElem? w_95)) (hw _ (List.mem_of_getElem? w_94)) (hw _ (List.mem_of_getElem? w_6)) (hw _ (List.mem_of_getElem? w_96)) (by decide) (c_region l Z a0 hw hE cc fm a b cs a2 b2 cs2 gn h0 W74.old G S0 S2 (by omega) (by omega) hg2) E_a (by rw [hml]; rfl) (lenOf pd_14 rfl) rfl (hb hby d_prog_4_3_34) (Nat.le_of_ble_eq_true rfl) (Nat.le_of_ble_eq_true rfl) rfl rfl (Nat.le_of_ble_eq_true rfl) (Nat.le_of_ble_eq_true rfl) rfl fun T76 W76 => ?_
      by_cases hms : misG cs cs2 gn 0 < 0
      · refine g_ifN (pc' := 40) W76.here hx (hb hby d_prog_4_3_37) rfl (feq (show ¬ ((if misG cs cs2 gn 0 < 0 then (1 : Int32) else 0) = (0 : Int32)) from (by rw [if_pos hms]; decide))).1 ?_
        refine g_iconst (1 : Int32) (pc' := 41) W76.here hx (hb hby d_prog_4_3_40) rfl rfl ?_
        refine g_goto (pc' := 45) W76.here hx (hb hby d_prog_4_3_41) rfl ?_
        refine w_retN (t := .boolean) W76 hx hh hlk hret (by simp) (hb hby d_prog_4_3_45) (Nat.le_of_ble_eq_true rfl) (Nat.le_of_ble_eq_true rfl) ?_
        exact ⟨congrArg (fun z => some (Value.int z)) (by rw [sameH, if_neg hc8_72, if_pos hc26_75, eg, i32_nat (by omega), if_pos hms]; rfl), rfl⟩
      · refine g_ifY (pc' := 44) W76.here hx (hb hby d_prog_4_3_37) rfl (teq (show (if misG cs cs2 gn 0 < 0 then (1 : Int32) else 0) = (0 : Int32) from (by rw [if_neg hms]))).1 ?_
        refine g_iconst (0 : Int32) (pc' := 45) W76.here hx (hb hby d_prog_4_3_44) rfl rfl ?_
        refine w_retN (t := .boolean) W76 hx hh hlk hret (by simp) (hb hby d_prog_4_3_45) (Nat.le_of_ble_eq_true rfl) (Nat.le_of_ble_eq_true rfl) ?_
        exact ⟨congrArg (fun z => some (Value.int z)) (by rw [sameH, if_neg hc8_72, if_pos hc26_75, eg, i32_nat (by omega), if_neg hms]; rfl), rfl⟩
    · refine g_icmpY (pc' := 44) W74.here hx (hb hby d_prog_4_3_26) rfl (feq hc26_75).2 ?_
      refine g_iconst (0 : Int32) (pc' := 45) W74.here hx (hb hby d_prog_4_3_44) rfl rfl ?_
      refine w_retN (t := .boolean) W74 hx hh hlk hret (by simp) (hb hby d_prog_4_3_45) (Nat.le_of_ble_eq_true rfl) (Nat.le_of_ble_eq_true rfl) ?_
      exact ⟨congrArg (fun z => some (Value.int z)) (by rw [sameH, if_neg hc8_72, if_neg hc26_75]; rfl), rfl⟩
def chF (x : Int32) : Int32 := if x &&& (3 : Int32) = 0 then 58 else nar .char ((x >>> ((2 : Int32) &&& 31)) &&& (255 : Int32)).toUInt32.toUInt16.toUInt32.toInt32
theorem own_chF (x : Int32) : 0 ≤ (chF x).toInt ∧ (chF x).toInt ≤ 255 := by
  unfold chF
  split
  · decide
  · have q := own_byte (x >>> ((2 : Int32) &&& 31))
    rw [own_nchar (own_c16 q)]; exact q
def mkL (n x y z : Int32) : List Int32 := if n = 0 then [] else if n = 1 then [x] else if n = 2 then [x, y] else [x, y, z]
theorem own_mkL {n x y z : Int32} {P : Int32 → Prop} (hx : P x) (hy : P y) (hz : P z) : (mkL n x y z).length ≤ 3 ∧ ∀ c ∈ mkL n x y z, P c := by
  unfold mkL
  split
  · exact ⟨by simp, own_all0⟩
  · split
    · exact ⟨by simp, own_allS hx own_all0⟩
    · split
      · exact ⟨by simp, own_allS hx (own_allS hy own_all0)⟩
      · exact ⟨by simp, own_allS hx (own_allS hy (own_allS hz own_all0))⟩
def lcB (n x : Int32) : Int32 := if n < 1 then -1 else if x = 58 then 0 else -1
def lcA (n x y : Int32) : Int32 := if n < 2 then lcB n x else if y = 58 then 1 else lcB n x
def lcF (n x y z : Int32) : Int32 := if n < 3 then lcA n x y else if z = 58 then 2 else lcA n x y
set_option maxRecDepth 65536 in
set_option maxHeartbeats 40000000 in
theorem c_ch (l : Launch) (Z : State) (a0 : Array Value) (hw : ∀ d ∈ tables_1, d.before a0 Z = true) (hE : EW Z a0 consts_1) (u : Int32) (h0 : Heap) (O : Ext Z.heap h0)  :
    Con l Z consts_1 (⟨"com/example/grapple/grapple/internal/OwnerIdsSameHolderPinLaw", "ch", "(I)C"⟩ : MethodName) method_2_code 1 (Option.some Jvm.ClassFile.FieldType.char) ({ frames := 0, cells := 0, slots := 0, locals := 0 } : Room) #[(.int u)] h0 [] (pureQ (some (.int (chF u))) h0) := by
  refine Con.of (a0 := a0) #[.val (.int u)] (plainFor_of_name pn_5) hE O all0 (fun m => by first | (simp [entryFrame, mkF, argsToLocals, Value.category]; done) | rfl) ?_
  intro p e s m below meth c T0 hx hby hml hnm hret hlk hh W0
  refine g_iloadN (pc' := 1) W0.here hx (hb hby d_method_2_0) rfl rfl ?_
  refine g_iconst (3 : Int32) (pc' := 2) W0.here hx (hb hby d_method_2_1) rfl rfl ?_
  refine g_iand (pc' := 3) W0.here hx (hb hby d_method_2_2) rfl ?_
  by_cases hc3_77 : (u &&& (3 : Int32)) = (0 : Int32)
  · refine g_ifN (pc' := 6) W0.here hx (hb hby d_method_2_3) rfl (teq hc3_77).2 ?_
    refine g_bipush (58 : Int32) (pc' := 8) W0.here hx (hb hby d_method_2_6) rfl rfl ?_
    refine g_goto (pc' := 19) W0.here hx (hb hby d_method_2_8) rfl ?_
    refine w_retN (t := .char) W0 hx hh hlk hret (by simp) (hb hby d_method_2_19) (Nat.le_of_ble_eq_true rfl) (Nat.le_of_ble_eq_true rfl) ?_
    exact ⟨congrArg (fun z => some (Value.int z)) (by rw [chF, if_pos hc3_77]; rfl), rfl⟩
  · refine g_ifY (pc' := 11) W0.here hx (hb hby d_method_2_3) rfl (feq hc3_77).2 ?_
    refine g_iloadN (pc' := 12) W0.here hx (hb hby d_method_2_11) rfl rfl ?_
    refine g_iconst (2 : Int32) (pc' := 13) W0.here hx (hb hby d_method_2_12) rfl rfl ?_
    refine g_ishr (pc' := 14) W0.here hx (hb hby d_method_2_13) rfl ?_
    refine g_sipush (255 : Int32) (pc' := 17) W0.here hx (hb hby d_method_2_14) rfl rfl ?_
    refine g_iand (pc' := 18) W0.here hx (hb hby d_method_2_17) rfl ?_
    refine g_i2c (pc' := 19) W0.here hx (hb hby d_method_2_18) rfl ?_
    refine w_retN (t := .char) W0 hx hh hlk hret (by simp) (hb hby d_method_2_19) (Nat.le_of_ble_eq_true rfl) (Nat.le_of_ble_eq_true rfl) ?_
    exact ⟨congrArg (fun z => some (Value.int z)) (by rw [chF, if_neg hc3_77]), rfl⟩
set_option maxRecDepth 65536 in
set_option maxHeartbeats 40000000 in
theorem c_make (l : Launch) (Z : State) (a0 : Array Value) (hw : ∀ d ∈ tables_1, d.before a0 Z = true) (hE : EW Z a0 consts_1) (n x1 x2 x3 : Int32) (h0 : Heap) (O : Ext Z.heap h0) (l_x1 : 0 ≤ x1.toInt ∧ x1.toInt ≤ 255) (l_x2 : 0 ≤ x2.toInt ∧ x2.toInt ≤ 255) (l_x3 : 0 ≤ x3.toInt ∧ x3.toInt ≤ 255)  :
    Con l Z consts_1 (⟨"com/example/grapple/grapple/internal/OwnerIdsSameHolderPinLaw", "make", "(ICCC)[C"⟩ : MethodName) method_3_code 4 (Option.some (Jvm.ClassFile.FieldType.array Jvm.ClassFile.FieldType.char)) ({ frames := 0, cells := 1, slots := 3, locals := 0 } : Room) #[(.int n), (.int x1), (.int x2), (.int x3)] h0 [] (fun v h => ∃ ca : Nat, v = some (.ref ca) ∧ h0.size ≤ ca ∧ Ary Z h ca .char ((mkL n x1 x2 x3).map Value.int)) := by
  refine Con.of (a0 := a0) #[.val (.int n), .val (.int x1), .val (.int x2), .val (.int x3)] (plainFor_of_name pn_5) hE O all0 (fun m => by first | (simp [entryFrame, mkF, argsToLocals, Value.category]; done) | rfl) ?_
  intro p e s m below meth c T0 hx hby hml hnm hret hlk hh W0
  refine g_iloadN (pc' := 1) W0.here hx (hb hby d_method_3_0) rfl rfl ?_
  by_cases hc1_78 : n = (0 : Int32)
  · refine g_ifN (pc' := 4) W0.here hx (hb hby d_method_3_1) rfl (teq hc1_78).2 ?_
    refine g_iconst (0 : Int32) (pc' := 5) W0.here hx (hb hby d_method_3_4) rfl rfl ?_
    refine w_newarr (pc' := 7) (cap := 0) W0 hx (hw _ (List.mem_of_getElem? w_10)) (hb hby d_method_3_5) (by decide) (Nat.le_refl _) (Nat.le_of_ble_eq_true rfl) (Nat.le_of_ble_eq_true rfl) (Nat.le_of_ble_eq_true rfl) rfl rfl fun T79 h79 b79 g79 W79 K79 V79 => ?_
    have z_K79 : h0.size ≤ h79.size := K79.1
    have lt_b79 : b79 < h79.size := W79.lt (List.mem_cons_self ..)
    have V79 : Ary Z h79 b79 .char [] := V79
    refine w_retA W79 hx hh hlk hret rfl rfl (hb hby d_method_3_7) (Nat.le_of_ble_eq_true rfl) (Nat.le_of_ble_eq_true rfl) ?_
    exact ⟨_, rfl, by omega, by rw [mkL, if_pos hc1_78]; exact V79⟩
  · refine g_ifY (pc' := 8) W0.here hx (hb hby d_method_3_1) rfl (feq hc1_78).2 ?_
    refine g_iloadN (pc' := 9) W0.here hx (hb hby d_method_3_8) rfl rfl ?_
    refine g_iconst (1 : Int32) (pc' := 10) W0.here hx (hb hby d_method_3_9) rfl rfl ?_
    by_cases hc10_80 : n = (1 : Int32)
    · refine g_icmpN (pc' := 13) W0.here hx (hb hby d_method_3_10) rfl (teq hc10_80).2 ?_
      refine g_iconst (1 : Int32) (pc' := 14) W0.here hx (hb hby d_method_3_13) rfl rfl ?_
      refine w_newarr (pc' := 16) (cap := 1) W0 hx (hw _ (List.mem_of_getElem? w_10)) (hb hby d_method_3_14) (by decide) (Nat.le_refl _) (Nat.le_of_ble_eq_true rfl) (Nat.le_of_ble_eq_true rfl) (Nat.le_of_ble_eq_true rfl) rfl rfl fun T81 h81 b81 g81 W81 K81 V81 => ?_
      have z_K81 : h0.size ≤ h81.size := K81.1
      have lt_b81 : b81 < h81.size := W81.lt (List.mem_cons_self ..)
      have V81 : Ary Z h81 b81 .char [(.int (0 : Int32))] := V81
      refine g_dup (pc' := 17) W81.here hx (hb hby d_method_3_16) rfl rfl ?_
      refine g_iconst (0 : Int32) (pc' := 18) W81.here hx (hb hby d_method_3_17) rfl rfl ?_
      refine g_iloadN (pc' := 19) W81.here hx (hb hby d_method_3_18) rfl rfl ?_
      refine w_castore (pc' := 20) (x' := x1) W81 hx V81 (by decide) (Nat.lt_of_lt_of_le (Nat.lt_succ_self _) (Nat.le_of_ble_eq_true rfl)) (List.mem_of_getElem? (i := 0) rfl) (own_nchar (own_c16 l_x1)) (hb hby d_method_3_19) rfl fun T82 h82 W82 K82 V82 => ?_
      have z_K82 : h81.size ≤ h82.size := K82.1
      have V82 : Ary Z h82 b81 .char [(.int x1)] := V82
      refine w_retA W82 hx hh hlk hret rfl rfl (hb hby d_method_3_20) (Nat.le_of_ble_eq_true rfl) (Nat.le_of_ble_eq_true rfl) ?_
      exact ⟨_, rfl, by omega, by rw [mkL, if_neg hc1_78, if_pos hc10_80]; exact V82⟩
    · refine g_icmpY (pc' := 21) W0.here hx (hb hby d_method_3_10) rfl (feq hc10_80).2 ?_
      refine g_iloadN (pc' := 22) W0.here hx (hb hby d_method_3_21) rfl rfl ?_
      refine g_iconst (2 : Int32) (pc' := 23) W0.here hx (hb hby d_method_3_22) rfl rfl ?_
      by_cases hc23_83 : n = (2 : Int32)
      · refine g_icmpN (pc' := 26) W0.here hx (hb hby d_method_3_23) rfl (teq hc23_83).2 ?_
        refine g_iconst (2 : Int32) (pc' := 27) W0.here hx (hb hby d_method_3_26) rfl rfl ?_
        refine w_newarr (pc' := 29) (cap := 2) W0 hx (hw _ (List.mem_of_getElem? w_10)) (hb hby d_method_3_27) (by decide) (Nat.le_refl _) (Nat.le_of_ble_eq_true rfl) (Nat.le_of_ble_eq_true rfl) (Nat.le_of_ble_eq_true rfl) rfl rfl fun T84 h84 b84 g84 W84 K84 V84 => ?_
        have z_K84 : h0.size ≤ h84.size := K84.1
        have lt_b84 : b84 < h84.size := W84.lt (List.mem_cons_self ..)
        have V84 : Ary Z h84 b84 .char [(.int (0 : Int32)), (.int (0 : Int32))] := V84
        refine g_dup (pc' := 30) W84.here hx (hb hby d_method_3_29) rfl rfl ?_
        refine g_iconst (0 : Int32) (pc' := 31) W84.here hx (hb hby d_method_3_30) rfl rfl ?_
        refine g_iloadN (pc' := 32) W84.here hx (hb hby d_method_3_31) rfl rfl ?_
        refine w_castore (pc' := 33) (x' := x1) W84 hx V84 (by decide) (Nat.lt_of_lt_of_le (Nat.lt_succ_self _) (Nat.le_of_ble_eq_true rfl)) (List.mem_of_getElem? (i := 0) rfl) (own_nchar (own_c16 l_x1)) (hb hby d_method_3_32) rfl fun T85 h85 W85 K85 V85 => ?_
        have z_K85 : h84.size ≤ h85.size := K85.1
        have V85 : Ary Z h85 b84 .char [(.int x1), (.int (0 : Int32))] := V85
        refine g_dup (pc' := 34) W85.here hx (hb hby d_method_3_33) rfl rfl ?_
        refine g_iconst (1 : Int32) (pc' := 35) W85.here hx (hb hby d_method_3_34) rfl rfl ?_
        refine g_iloadN (pc' := 36) W85.here hx (hb hby d_method_3_35) rfl rfl ?_
        refine w_castore (pc' := 37) (x' := x2) W85 hx V85 (by decide) (Nat.lt_of_lt_of_le (Nat.lt_succ_self _) (Nat.le_of_ble_eq_true rfl)) (List.mem_of_getElem? (i := 0) rfl) (own_nchar (own_c16 l_x2)) (hb hby d_method_3_36) rfl fun T86 h86 W86 K86 V86 => ?_
        have z_K86 : h85.size ≤ h86.size := K86.1
        have V86 : Ary Z h86 b84 .char [(.int x1), (.int x2)] := V86
        refine w_retA W86 hx hh hlk hret rfl rfl (hb hby d_method_3_37) (Nat.le_of_ble_eq_true rfl) (Nat.le_of_ble_eq_true rfl) ?_
        exact ⟨_, rfl, by omega, by rw [mkL, if_neg hc1_78, if_neg hc10_80, if_pos hc23_83]; exact V86⟩
      · refine g_icmpY (pc' := 38) W0.here hx (hb hby d_method_3_23) rfl (feq hc23_83).2 ?_
        refine g_iconst (3 : Int32) (pc' := 39) W0.here hx (hb hby d_method_3_38) rfl rfl ?_
        refine w_newarr (pc' := 41) (cap := 3) W0 hx (hw _ (List.mem_of_getElem? w_10)) (hb hby d_method_3_39) (by decide) (Nat.le_refl _) (Nat.le_of_ble_eq_true rfl) (Nat.le_of_ble_eq_true rfl) (Nat.le_of_ble_eq_true rfl) rfl rfl fun T87 h87 b87 g87 W87 K87 V87 => ?_
        have z_K87 : h0.size ≤ h87.size := K87.1
        have lt_b87 : b87 < h87.size := W87.lt (List.mem_cons_self ..)
        have V87 : Ary Z h87 b87 .char [(.int (0 : Int32)), (.int (0 : Int32)), (.int (0 : Int32))] := V87
        refine g_dup (pc' := 42) W87.here hx (hb hby d_method_3_41) rfl rfl ?_
        refine g_iconst (0 : Int32) (pc' := 43) W87.here hx (hb hby d_method_3_42) rfl rfl ?_
        refine g_iloadN (pc' := 44) W87.here hx (hb hby d_method_3_43) rfl rfl ?_
        refine w_castore (pc' := 45) (x' := x1) W87 hx V87 (by decide) (Nat.lt_of_lt_of_le (Nat.lt_succ_self _) (Nat.le_of_ble_eq_true rfl)) (List.mem_of_getElem? (i := 0) rfl) (own_nchar (own_c16 l_x1)) (hb hby d_method_3_44) rfl fun T88 h88 W88 K88 V88 => ?_
        have z_K88 : h87.size ≤ h88.size := K88.1
        have V88 : Ary Z h88 b87 .char [(.int x1), (.int (0 : Int32)), (.int (0 : Int32))] := V88
        refine g_dup (pc' := 46) W88.here hx (hb hby d_method_3_45) rfl rfl ?_
        refine g_iconst (1 : Int32) (pc' := 47) W88.here hx (hb hby d_method_3_46) rfl rfl ?_
        refine g_iloadN (pc' := 48) W88.here hx (hb hby d_method_3_47) rfl rfl ?_
        refine w_castore (pc' := 49) (x' := x2) W88 hx V88 (by decide) (Nat.lt_of_lt_of_le (Nat.lt_succ_self _) (Nat.le_of_ble_eq_true rfl)) (List.mem_of_getElem? (i := 0) rfl) (own_nchar (own_c16 l_x2)) (hb hby d_method_3_48) rfl fun T89 h89 W89 K89 V89 => ?_
        have z_K89 : h88.size ≤ h89.size := K89.1
        have V89 : Ary Z h89 b87 .char [(.int x1), (.int x2), (.int (0 : Int32))] := V89
        refine g_dup (pc' := 50) W89.here hx (hb hby d_method_3_49) rfl rfl ?_
        refine g_iconst (2 : Int32) (pc' := 51) W89.here hx (hb hby d_method_3_50) rfl rfl ?_
        refine g_iloadN (pc' := 52) W89.here hx (hb hby d_method_3_51) rfl rfl ?_
        refine w_castore (pc' := 53) (x' := x3) W89 hx V89 (by decide) (Nat.lt_of_lt_of_le (Nat.lt_succ_self _) (Nat.le_of_ble_eq_true rfl)) (List.mem_of_getElem? (i := 0) rfl) (own_nchar (own_c16 l_x3)) (hb hby d_method_3_52) rfl fun T90 h90 W90 K90 V90 => ?_
        have z_K90 : h89.size ≤ h90.size := K90.1
        have V90 : Ary Z h90 b87 .char [(.int x1), (.int x2), (.int x3)] := V90
        refine w_retA W90 hx hh hlk hret rfl rfl (hb hby d_method_3_53) (Nat.le_of_ble_eq_true rfl) (Nat.le_of_ble_eq_true rfl) ?_
        exact ⟨_, rfl, by omega, by rw [mkL, if_neg hc1_78, if_neg hc10_80, if_neg hc23_83]; exact V90⟩
set_option maxRecDepth 65536 in
set_option maxHeartbeats 40000000 in
theorem c_lastColon (l : Launch) (Z : State) (a0 : Array Value) (hw : ∀ d ∈ tables_1, d.before a0 Z = true) (hE : EW Z a0 consts_1) (n x1 x2 x3 : Int32) (h0 : Heap) (O : Ext Z.heap h0)  :
    Con l Z consts_1 (⟨"com/example/grapple/grapple/internal/OwnerIdsSameHolderPinLaw", "lastColon", "(ICCC)I"⟩ : MethodName) method_4_code 4 (Option.some Jvm.ClassFile.FieldType.int) ({ frames := 0, cells := 0, slots := 0, locals := 0 } : Room) #[(.int n), (.int x1), (.int x2), (.int x3)] h0 [] (pureQ (some (.int (lcF n x1 x2 x3))) h0) := by
  refine Con.of (a0 := a0) #[.val (.int n), .val (.int x1), .val (.int x2), .val (.int x3)] (plainFor_of_name pn_5) hE O all0 (fun m => by first | (simp [entryFrame, mkF, argsToLocals, Value.category]; done) | rfl) ?_
  intro p e s m below meth c T0 hx hby hml hnm hret hlk hh W0
  refine g_iloadN (pc' := 1) W0.here hx (hb hby d_method_4_0) rfl rfl ?_
  refine g_iconst (3 : Int32) (pc' := 2) W0.here hx (hb hby d_method_4_1) rfl rfl ?_
  by_cases hc2_91 : n < (3 : Int32)
  · refine g_icmpY (pc' := 13) W0.here hx (hb hby d_method_4_2) rfl (tlt hc2_91).1 ?_
    refine g_iloadN (pc' := 14) W0.here hx (hb hby d_method_4_13) rfl rfl ?_
    refine g_iconst (2 : Int32) (pc' := 15) W0.here hx (hb hby d_method_4_14) rfl rfl ?_
    by_cases hc15_92 : n < (2 : Int32)
    · refine g_icmpY (pc' := 26) W0.here hx (hb hby d_method_4_15) rfl (tlt hc15_92).1 ?_
      refine g_iloadN (pc' := 27) W0.here hx (hb hby d_method_4_26) rfl rfl ?_
      refine g_iconst (1 : Int32) (pc' := 28) W0.here hx (hb hby d_method_4_27) rfl rfl ?_
      by_cases hc28_93 : n < (1 : Int32)
      · refine g_icmpY (pc' := 39) W0.here hx (hb hby d_method_4_28) rfl (tlt hc28_93).1 ?_
        refine g_iconst (-1 : Int32) (pc' := 40) W0.here hx (hb hby d_method_4_39) rfl rfl ?_
        refine w_retI W0 hx hh hlk hret (hb hby d_method_4_40) (Nat.le_of_ble_eq_true rfl) (Nat.le_of_ble_eq_true rfl) ?_
        exact ⟨congrArg (fun z => some (Value.int z)) (by rw [lcF, if_pos hc2_91, lcA, if_pos hc15_92, lcB, if_pos hc28_93]), rfl⟩
      · refine g_icmpN (pc' := 31) W0.here hx (hb hby d_method_4_28) rfl (flt hc28_93).1 ?_
        refine g_iloadN (pc' := 32) W0.here hx (hb hby d_method_4_31) rfl rfl ?_
        refine g_bipush (58 : Int32) (pc' := 34) W0.here hx (hb hby d_method_4_32) rfl rfl ?_
        by_cases hc34_94 : x1 = (58 : Int32)
        · refine g_icmpN (pc' := 37) W0.here hx (hb hby d_method_4_34) rfl (teq hc34_94).2 ?_
          refine g_iconst (0 : Int32) (pc' := 38) W0.here hx (hb hby d_method_4_37) rfl rfl ?_
          refine w_retI W0 hx hh hlk hret (hb hby d_method_4_38) (Nat.le_of_ble_eq_true rfl) (Nat.le_of_ble_eq_true rfl) ?_
          exact ⟨congrArg (fun z => some (Value.int z)) (by rw [lcF, if_pos hc2_91, lcA, if_pos hc15_92, lcB, if_neg hc28_93, if_pos hc34_94]), rfl⟩
        · refine g_icmpY (pc' := 39) W0.here hx (hb hby d_method_4_34) rfl (feq hc34_94).2 ?_
          refine g_iconst (-1 : Int32) (pc' := 40) W0.here hx (hb hby d_method_4_39) rfl rfl ?_
          refine w_retI W0 hx hh hlk hret (hb hby d_method_4_40) (Nat.le_of_ble_eq_true rfl) (Nat.le_of_ble_eq_true rfl) ?_
          exact ⟨congrArg (fun z => some (Value.int z)) (by rw [lcF, if_pos hc2_91, lcA, if_pos hc15_92, lcB, if_neg hc28_93, if_neg hc34_94]), rfl⟩
    · refine g_icmpN (pc' := 18) W0.here hx (hb hby d_method_4_15) rfl (flt hc15_92).1 ?_
      refine g_iloadN (pc' := 19) W0.here hx (hb hby d_method_4_18) rfl rfl ?_
      refine g_bipush (58 : Int32) (pc' := 21) W0.here hx (hb hby d_method_4_19) rfl rfl ?_
      by_cases hc21_95 : x2 = (58 : Int32)
      · refine g_icmpN (pc' := 24) W0.here hx (hb hby d_method_4_21) rfl (teq hc21_95).2 ?_
        refine g_iconst (1 : Int32) (pc' := 25) W0.here hx (hb hby d_method_4_24) rfl rfl ?_
        refine w_retI W0 hx hh hlk hret (hb hby d_method_4_25) (Nat.le_of_ble_eq_true rfl) (Nat.le_of_ble_eq_true rfl) ?_
        exact ⟨congrArg (fun z => some (Value.int z)) (by rw [lcF, if_pos hc2_91, lcA, if_neg hc15_92, if_pos hc21_95]), rfl⟩
      · refine g_icmpY (pc' := 26) W0.here hx (hb hby d_method_4_21) rfl (feq hc21_95).2 ?_
        refine g_iloadN (pc' := 27) W0.here hx (hb hby d_method_4_26) rfl rfl ?_
        refine g_iconst (1 : Int32) (pc' := 28) W0.here hx (hb hby d_method_4_27) rfl rfl ?_
        by_cases hc28_96 : n < (1 : Int32)
        · refine g_icmpY (pc' := 39) W0.here hx (hb hby d_method_4_28) rfl (tlt hc28_96).1 ?_
          refine g_iconst (-1 : Int32) (pc' := 40) W0.here hx (hb hby d_method_4_39) rfl rfl ?_
          refine w_retI W0 hx hh hlk hret (hb hby d_method_4_40) (Nat.le_of_ble_eq_true rfl) (Nat.le_of_ble_eq_true rfl) ?_
          exact ⟨congrArg (fun z => some (Value.int z)) (by rw [lcF, if_pos hc2_91, lcA, if_neg hc15_92, if_neg hc21_95, lcB, if_pos hc28_96]), rfl⟩
        · refine g_icmpN (pc' := 31) W0.here hx (hb hby d_method_4_28) rfl (flt hc28_96).1 ?_
          refine g_iloadN (pc' := 32) W0.here hx (hb hby d_method_4_31) rfl rfl ?_
          refine g_bipush (58 : Int32) (pc' := 34) W0.here hx (hb hby d_method_4_32) rfl rfl ?_
          by_cases hc34_97 : x1 = (58 : Int32)
          · refine g_icmpN (pc' := 37) W0.here hx (hb hby d_method_4_34) rfl (teq hc34_97).2 ?_
            refine g_iconst (0 : Int32) (pc' := 38) W0.here hx (hb hby d_method_4_37) rfl rfl ?_
            refine w_retI W0 hx hh hlk hret (hb hby d_method_4_38) (Nat.le_of_ble_eq_true rfl) (Nat.le_of_ble_eq_true rfl) ?_
            exact ⟨congrArg (fun z => some (Value.int z)) (by rw [lcF, if_pos hc2_91, lcA, if_neg hc15_92, if_neg hc21_95, lcB, if_neg hc28_96, if_pos hc34_97]), rfl⟩
          · refine g_icmpY (pc' := 39) W0.here hx (hb hby d_method_4_34) rfl (feq hc34_97).2 ?_
            refine g_iconst (-1 : Int32) (pc' := 40) W0.here hx (hb hby d_method_4_39) rfl rfl ?_
            refine w_retI W0 hx hh hlk hret (hb hby d_method_4_40) (Nat.le_of_ble_eq_true rfl) (Nat.le_of_ble_eq_true rfl) ?_
            exact ⟨congrArg (fun z => some (Value.int z)) (by rw [lcF, if_pos hc2_91, lcA, if_neg hc15_92, if_neg hc21_95, lcB, if_neg hc28_96, if_neg hc34_97]), rfl⟩
  · refine g_icmpN (pc' := 5) W0.here hx (hb hby d_method_4_2) rfl (flt hc2_91).1 ?_
    refine g_iloadN (pc' := 6) W0.here hx (hb hby d_method_4_5) rfl rfl ?_
    refine g_bipush (58 : Int32) (pc' := 8) W0.here hx (hb hby d_method_4_6) rfl rfl ?_
    by_cases hc8_98 : x3 = (58 : Int32)
    · refine g_icmpN (pc' := 11) W0.here hx (hb hby d_method_4_8) rfl (teq hc8_98).2 ?_
      refine g_iconst (2 : Int32) (pc' := 12) W0.here hx (hb hby d_method_4_11) rfl rfl ?_
      refine w_retI W0 hx hh hlk hret (hb hby d_method_4_12) (Nat.le_of_ble_eq_true rfl) (Nat.le_of_ble_eq_true rfl) ?_
      exact ⟨congrArg (fun z => some (Value.int z)) (by rw [lcF, if_neg hc2_91, if_pos hc8_98]), rfl⟩
    · refine g_icmpY (pc' := 13) W0.here hx (hb hby d_method_4_8) rfl (feq hc8_98).2 ?_
      refine g_iloadN (pc' := 14) W0.here hx (hb hby d_method_4_13) rfl rfl ?_
      refine g_iconst (2 : Int32) (pc' := 15) W0.here hx (hb hby d_method_4_14) rfl rfl ?_
      by_cases hc15_99 : n < (2 : Int32)
      · refine g_icmpY (pc' := 26) W0.here hx (hb hby d_method_4_15) rfl (tlt hc15_99).1 ?_
        refine g_iloadN (pc' := 27) W0.here hx (hb hby d_method_4_26) rfl rfl ?_
        refine g_iconst (1 : Int32) (pc' := 28) W0.here hx (hb hby d_method_4_27) rfl rfl ?_
        by_cases hc28_100 : n < (1 : Int32)
        · refine g_icmpY (pc' := 39) W0.here hx (hb hby d_method_4_28) rfl (tlt hc28_100).1 ?_
          refine g_iconst (-1 : Int32) (pc' := 40) W0.here hx (hb hby d_method_4_39) rfl rfl ?_
          refine w_retI W0 hx hh hlk hret (hb hby d_method_4_40) (Nat.le_of_ble_eq_true rfl) (Nat.le_of_ble_eq_true rfl) ?_
          exact ⟨congrArg (fun z => some (Value.int z)) (by rw [lcF, if_neg hc2_91, if_neg hc8_98, lcA, if_pos hc15_99, lcB, if_pos hc28_100]), rfl⟩
        · refine g_icmpN (pc' := 31) W0.here hx (hb hby d_method_4_28) rfl (flt hc28_100).1 ?_
          refine g_iloadN (pc' := 32) W0.here hx (hb hby d_method_4_31) rfl rfl ?_
          refine g_bipush (58 : Int32) (pc' := 34) W0.here hx (hb hby d_method_4_32) rfl rfl ?_
          by_cases hc34_101 : x1 = (58 : Int32)
          · refine g_icmpN (pc' := 37) W0.here hx (hb hby d_method_4_34) rfl (teq hc34_101).2 ?_
            refine g_iconst (0 : Int32) (pc' := 38) W0.here hx (hb hby d_method_4_37) rfl rfl ?_
            refine w_retI W0 hx hh hlk hret (hb hby d_method_4_38) (Nat.le_of_ble_eq_true rfl) (Nat.le_of_ble_eq_true rfl) ?_
            exact ⟨congrArg (fun z => some (Value.int z)) (by rw [lcF, if_neg hc2_91, if_neg hc8_98, lcA, if_pos hc15_99, lcB, if_neg hc28_100, if_pos hc34_101]), rfl⟩
          · refine g_icmpY (pc' := 39) W0.here hx (hb hby d_method_4_34) rfl (feq hc34_101).2 ?_
            refine g_iconst (-1 : Int32) (pc' := 40) W0.here hx (hb hby d_method_4_39) rfl rfl ?_
            refine w_retI W0 hx hh hlk hret (hb hby d_method_4_40) (Nat.le_of_ble_eq_true rfl) (Nat.le_of_ble_eq_true rfl) ?_
            exact ⟨congrArg (fun z => some (Value.int z)) (by rw [lcF, if_neg hc2_91, if_neg hc8_98, lcA, if_pos hc15_99, lcB, if_neg hc28_100, if_neg hc34_101]), rfl⟩
      · refine g_icmpN (pc' := 18) W0.here hx (hb hby d_method_4_15) rfl (flt hc15_99).1 ?_
        refine g_iloadN (pc' := 19) W0.here hx (hb hby d_method_4_18) rfl rfl ?_
        refine g_bipush (58 : Int32) (pc' := 21) W0.here hx (hb hby d_method_4_19) rfl rfl ?_
        by_cases hc21_102 : x2 = (58 : Int32)
        · refine g_icmpN (pc' := 24) W0.here hx (hb hby d_method_4_21) rfl (teq hc21_102).2 ?_
          refine g_iconst (1 : Int32) (pc' := 25) W0.here hx (hb hby d_method_4_24) rfl rfl ?_
          refine w_retI W0 hx hh hlk hret (hb hby d_method_4_25) (Nat.le_of_ble_eq_true rfl) (Nat.le_of_ble_eq_true rfl) ?_
          exact ⟨congrArg (fun z => some (Value.int z)) (by rw [lcF, if_neg hc2_91, if_neg hc8_98, lcA, if_neg hc15_99, if_pos hc21_102]), rfl⟩
        · refine g_icmpY (pc' := 26) W0.here hx (hb hby d_method_4_21) rfl (feq hc21_102).2 ?_
          refine g_iloadN (pc' := 27) W0.here hx (hb hby d_method_4_26) rfl rfl ?_
          refine g_iconst (1 : Int32) (pc' := 28) W0.here hx (hb hby d_method_4_27) rfl rfl ?_
          by_cases hc28_103 : n < (1 : Int32)
          · refine g_icmpY (pc' := 39) W0.here hx (hb hby d_method_4_28) rfl (tlt hc28_103).1 ?_
            refine g_iconst (-1 : Int32) (pc' := 40) W0.here hx (hb hby d_method_4_39) rfl rfl ?_
            refine w_retI W0 hx hh hlk hret (hb hby d_method_4_40) (Nat.le_of_ble_eq_true rfl) (Nat.le_of_ble_eq_true rfl) ?_
            exact ⟨congrArg (fun z => some (Value.int z)) (by rw [lcF, if_neg hc2_91, if_neg hc8_98, lcA, if_neg hc15_99, if_neg hc21_102, lcB, if_pos hc28_103]), rfl⟩
          · refine g_icmpN (pc' := 31) W0.here hx (hb hby d_method_4_28) rfl (flt hc28_103).1 ?_
            refine g_iloadN (pc' := 32) W0.here hx (hb hby d_method_4_31) rfl rfl ?_
            refine g_bipush (58 : Int32) (pc' := 34) W0.here hx (hb hby d_method_4_32) rfl rfl ?_
            by_cases hc34_104 : x1 = (58 : Int32)
            · refine g_icmpN (pc' := 37) W0.here hx (hb hby d_method_4_34) rfl (teq hc34_104).2 ?_
              refine g_iconst (0 : Int32) (pc' := 38) W0.here hx (hb hby d_method_4_37) rfl rfl ?_
              refine w_retI W0 hx hh hlk hret (hb hby d_method_4_38) (Nat.le_of_ble_eq_true rfl) (Nat.le_of_ble_eq_true rfl) ?_
              exact ⟨congrArg (fun z => some (Value.int z)) (by rw [lcF, if_neg hc2_91, if_neg hc8_98, lcA, if_neg hc15_99, if_neg hc21_102, lcB, if_neg hc28_103, if_pos hc34_104]), rfl⟩
            · refine g_icmpY (pc' := 39) W0.here hx (hb hby d_method_4_34) rfl (feq hc34_104).2 ?_
              refine g_iconst (-1 : Int32) (pc' := 40) W0.here hx (hb hby d_method_4_39) rfl rfl ?_
              refine w_retI W0 hx hh hlk hret (hb hby d_method_4_40) (Nat.le_of_ble_eq_true rfl) (Nat.le_of_ble_eq_true rfl) ?_
              exact ⟨congrArg (fun z => some (Value.int z)) (by rw [lcF, if_neg hc2_91, if_neg hc8_98, lcA, if_neg hc15_99, if_neg hc21_102, lcB, if_neg hc28_103, if_neg hc34_104]), rfl⟩
def eK3 (la o2 q2 : Int32) : Int32 := if la < 3 then 1 else if o2 = q2 then 1 else 0
def eK2 (la o1 o2 q1 q2 : Int32) : Int32 := if la < 2 then eK3 la o2 q2 else if o1 = q1 then eK3 la o2 q2 else 0
def eG2 (gg o1 q1 : Int32) : Int32 := if gg < 2 then 1 else if o1 = q1 then 1 else 0
def expF (la lb o0 o1 o2 q0 q1 q2 : Int32) : Int32 :=
  if lcF la o0 o1 o2 < 0 then (if la = lb then (if la < 1 then eK2 la o1 o2 q1 q2 else if o0 = q0 then eK2 la o1 o2 q1 q2 else 0) else 0)
  else if lcF la o0 o1 o2 = lcF lb q0 q1 q2 then (if lcF la o0 o1 o2 < 1 then eG2 (lcF la o0 o1 o2) o1 q1 else if o0 = q0 then eG2 (lcF la o0 o1 o2) o1 q1 else 0) else 0
theorem own_and3 (x : Int32) : x &&& (3 : Int32) = 0 ∨ x &&& (3 : Int32) = 1 ∨ x &&& (3 : Int32) = 2 ∨ x &&& (3 : Int32) = 3 := by
  have q := c_mask x 3 2 (by decide) (by decide)
  have e0 : (0 : Int32).toInt = 0 := rfl
  have e1 : (1 : Int32).toInt = 1 := rfl
  have e2 : (2 : Int32).toInt = 2 := rfl
  have e3 : (3 : Int32).toInt = 3 := rfl
  simp only [← Int32.toInt_inj, e0, e1, e2, e3]
  omega
theorem own_m0 (a b c : Int32) : mkL 0 a b c = [] := rfl
theorem own_m1 (a b c : Int32) : mkL 1 a b c = [a] := rfl
theorem own_m2 (a b c : Int32) : mkL 2 a b c = [a, b] := rfl
theorem own_m3 (a b c : Int32) : mkL 3 a b c = [a, b, c] := rfl
theorem own_l0 (a b c : Int32) : lcF 0 a b c = -1 := rfl
theorem own_l1 (a b c : Int32) : lcF 1 a b c = if a = 58 then 0 else -1 := rfl
theorem own_l2 (a b c : Int32) : lcF 2 a b c = if b = 58 then 1 else if a = 58 then 0 else -1 := rfl
theorem own_l3 (a b c : Int32) : lcF 3 a b c = if c = 58 then 2 else if b = 58 then 1 else if a = 58 then 0 else -1 := rfl
theorem own_lix {la : Int32} (h1 : la = 0 ∨ la = 1 ∨ la = 2 ∨ la = 3) (a b c : Int32) : lastIx (mkL la a b c) (mkL la a b c).length = lcF la a b c := by
  rcases h1 with rfl | rfl | rfl | rfl
  · rfl
  · rw [own_m1, own_l1]; simp only [List.length_cons, List.length_nil, lastIx]; simp; rfl
  · rw [own_m2, own_l2]; simp only [List.length_cons, List.length_nil, lastIx]; simp; rfl
  · rw [own_m3, own_l3]; simp only [List.length_cons, List.length_nil, lastIx]; simp; rfl
theorem own_eqL {la lb : Int32} (h1 : la = 0 ∨ la = 1 ∨ la = 2 ∨ la = 3) (h2 : lb = 0 ∨ lb = 1 ∨ lb = 2 ∨ lb = 3) (o0 o1 o2 q0 q1 q2 : Int32) : (if mkL la o0 o1 o2 = mkL lb q0 q1 q2 then (1 : Int32) else 0) = (if la = lb then (if la < 1 then eK2 la o1 o2 q1 q2 else if o0 = q0 then eK2 la o1 o2 q1 q2 else 0) else 0) := by
  rcases h1 with rfl | rfl | rfl | rfl <;> rcases h2 with rfl | rfl | rfl | rfl <;> simp only [own_m0, own_m1, own_m2, own_m3] <;> by_cases e0 : o0 = q0 <;> by_cases e1 : o1 = q1 <;> by_cases e2 : o2 = q2 <;> simp +decide [eK2, eK3, e0, e1, e2]
theorem own_misL {la lb : Int32} (h1 : la = 0 ∨ la = 1 ∨ la = 2 ∨ la = 3) (h2 : lb = 0 ∨ lb = 1 ∨ lb = 2 ∨ lb = 3) (o0 o1 o2 q0 q1 q2 : Int32) (hg : ¬ lcF la o0 o1 o2 < 0) (he : lcF la o0 o1 o2 = lcF lb q0 q1 q2) :
    (if misG (mkL la o0 o1 o2) (mkL lb q0 q1 q2) (lcF la o0 o1 o2).toNatClampNeg 0 < 0 then (1 : Int32) else 0) = (if lcF la o0 o1 o2 < 1 then eG2 (lcF la o0 o1 o2) o1 q1 else if o0 = q0 then eG2 (lcF la o0 o1 o2) o1 q1 else 0) := by
  have key : lcF la o0 o1 o2 = 0 ∨ (lcF la o0 o1 o2 = 1 ∧ (la = 2 ∨ la = 3) ∧ (lb = 2 ∨ lb = 3)) ∨ (lcF la o0 o1 o2 = 2 ∧ la = 3 ∧ lb = 3) := by
    rcases h1 with rfl | rfl | rfl | rfl <;> rcases h2 with rfl | rfl | rfl | rfl <;> simp only [own_l0, own_l1, own_l2, own_l3] at hg he ⊢ <;> (repeat' split) <;> simp_all +decide
    all_goals (revert he; (repeat' split) <;> simp +decide)
  rcases key with k | ⟨k, ka, kb⟩ | ⟨k, rfl, rfl⟩
  · rw [k]; rfl
  · rw [k]
    have e : (1 : Int32).toNatClampNeg = 1 := rfl
    rcases ka with rfl | rfl <;> rcases kb with rfl | rfl <;> by_cases e0 : o0 = q0 <;> simp +decide [own_m2, own_m3, e, misG, eG2, e0]
  · rw [k]
    have e : (2 : Int32).toNatClampNeg = 2 := rfl
    by_cases e0 : o0 = q0 <;> by_cases e1 : o1 = q1 <;> simp +decide [own_m3, e, misG, eG2, e0, e1]
theorem own_final {la lb : Int32} (h1 : la = 0 ∨ la = 1 ∨ la = 2 ∨ la = 3) (h2 : lb = 0 ∨ lb = 1 ∨ lb = 2 ∨ lb = 3) (o0 o1 o2 q0 q1 q2 : Int32) : sameH (mkL la o0 o1 o2) (mkL lb q0 q1 q2) = expF la lb o0 o1 o2 q0 q1 q2 := by
  unfold sameH expF
  rw [own_lix h1, own_lix h2]
  split
  · exact own_eqL h1 h2 ..
  · rename_i hg
    split
    · rename_i he; exact own_misL h1 h2 _ _ _ _ _ _ hg he
    · rfl
set_option maxRecDepth 65536 in
set_option maxHeartbeats 40000000 in
theorem c_law (l : Launch) (Z : State) (a0 : Array Value) (hw : ∀ d ∈ tables_1, d.before a0 Z = true) (hE : EW Z a0 consts_1) (cc : Int32) (fm : Value) (p0 p1 p2 p3 : Int32) (h0 : Heap) (O : Ext Z.heap h0) (G : SEnv Z cc fm)  :
    ConL tables_1 l Z consts_1 x code maxLocals ret room_1 #[(.int p0), (.int p1), (.int p2), (.int p3)] h0 [] (fun v _ => v = some (.int 1)) := by
  refine Con.of (a0 := a0) #[.val (.int p0), .val (.int p1), .val (.int p2), .val (.int p3), .unset, .unset, .unset, .unset, .unset, .unset, .unset, .unset, .unset, .unset, .unset, .unset] (plainFor_of_name pn_5) hE O all0 (fun m => by first | (simp [entryFrame, mkF, argsToLocals, Value.category, maxLocals]; done) | rfl) ?_
  intro p e s m below meth c T0 hx hby hml hnm hret hlk hh W0
  refine g_iloadN (pc' := 1) W0.here hx (hb hby at_0) rfl rfl ?_
  refine g_iconst (3 : Int32) (pc' := 2) W0.here hx (hb hby at_1) rfl rfl ?_
  refine g_iand (pc' := 3) W0.here hx (hb hby at_2) rfl ?_
  obtain ⟨la, hla⟩ : ∃ zz_ : Int32, zz_ = (p0 &&& (3 : Int32)) := ⟨_, rfl⟩
  refine g_name (congrArg Value.int hla) ?_
  have la4 : la = 0 ∨ la = 1 ∨ la = 2 ∨ la = 3 := by rw [hla]; exact own_and3 _
  refine g_istore (pc' := 5) (Ls' := #[.val (.int p0), .val (.int p1), .val (.int p2), .val (.int p3), .val (.int la), .unset, .unset, .unset, .unset, .unset, .unset, .unset, .unset, .unset, .unset, .unset]) W0.here hx (hb hby at_3) rfl rfl ?_
  refine g_iloadN (pc' := 6) W0.here hx (hb hby at_5) rfl rfl ?_
  refine g_iconst (2 : Int32) (pc' := 7) W0.here hx (hb hby at_6) rfl rfl ?_
  refine g_ishr (pc' := 8) W0.here hx (hb hby at_7) rfl ?_
  refine g_iconst (3 : Int32) (pc' := 9) W0.here hx (hb hby at_8) rfl rfl ?_
  refine g_iand (pc' := 10) W0.here hx (hb hby at_9) rfl ?_
  obtain ⟨lb, hlb⟩ : ∃ zz_ : Int32, zz_ = (((p0 >>> ((2 : Int32) &&& 31))) &&& (3 : Int32)) := ⟨_, rfl⟩
  refine g_name (congrArg Value.int hlb) ?_
  have lb4 : lb = 0 ∨ lb = 1 ∨ lb = 2 ∨ lb = 3 := by rw [hlb]; exact own_and3 _
  refine g_istore (pc' := 12) (Ls' := #[.val (.int p0), .val (.int p1), .val (.int p2), .val (.int p3), .val (.int la), .val (.int lb), .unset, .unset, .unset, .unset, .unset, .unset, .unset, .unset, .unset, .unset]) W0.here hx (hb hby at_10) rfl rfl ?_
  refine g_iloadN (pc' := 13) W0.here hx (hb hby at_12) rfl rfl ?_
  refine w_callSp (pc' := 16) (st := []) (y := (⟨"com/example/grapple/grapple/internal/OwnerIdsSameHolderPinLaw", "ch", "(I)C"⟩ : MethodName)) W0 hx [(.int p1)] (hw _ (List.mem_of_getElem? w_0)) (hw _ (List.mem_of_getElem? w_1)) (hw _ (List.mem_of_getElem? w_2)) (hw _ (List.mem_of_getElem? w_3)) (by decide) (c_ch l Z a0 hw hE p1 h0 W0.old) (by rw [hml]; rfl) (lenOf pd_15 rfl) rfl (hb hby at_13) (Nat.le_of_ble_eq_true rfl) (Nat.le_of_ble_eq_true rfl) rfl rfl (Nat.le_of_ble_eq_true rfl) (Nat.le_of_ble_eq_true rfl) rfl fun T105 W105 => ?_
  obtain ⟨o0, ho0⟩ : ∃ zz_ : Int32, zz_ = (chF p1) := ⟨_, rfl⟩
  refine g_name (congrArg Value.int ho0) ?_
  have l_o0 : 0 ≤ o0.toInt ∧ o0.toInt ≤ 255 := by rw [ho0]; exact own_chF _
  refine g_istore (pc' := 18) (Ls' := #[.val (.int p0), .val (.int p1), .val (.int p2), .val (.int p3), .val (.int la), .val (.int lb), .val (.int o0), .unset, .unset, .unset, .unset, .unset, .unset, .unset, .unset, .unset]) W105.here hx (hb hby at_16) rfl rfl ?_
  refine g_iloadN (pc' := 19) W105.here hx (hb hby at_18) rfl rfl ?_
  refine g_bipush (10 : Int32) (pc' := 21) W105.here hx (hb hby at_19) rfl rfl ?_
  refine g_ishr (pc' := 22) W105.here hx (hb hby at_21) rfl ?_
  refine w_callSp (pc' := 25) (st := []) (y := (⟨"com/example/grapple/grapple/internal/OwnerIdsSameHolderPinLaw", "ch", "(I)C"⟩ : MethodName)) W105 hx [(.int ((p1 >>> ((10 : Int32) &&& 31))))] (hw _ (List.mem_of_getElem? w_0)) (hw _ (List.mem_of_getElem? w_1)) (hw _ (List.mem_of_getElem? w_2)) (hw _ (List.mem_of_getElem? w_3)) (by decide) (c_ch l Z a0 hw hE ((p1 >>> ((10 : Int32) &&& 31))) h0 W105.old) (by rw [hml]; rfl) (lenOf pd_15 rfl) rfl (hb hby at_22) (Nat.le_of_ble_eq_true rfl) (Nat.le_of_ble_eq_true rfl) rfl rfl (Nat.le_of_ble_eq_true rfl) (Nat.le_of_ble_eq_true rfl) rfl fun T106 W106 => ?_
  obtain ⟨o1, ho1⟩ : ∃ zz_ : Int32, zz_ = (chF ((p1 >>> ((10 : Int32) &&& 31)))) := ⟨_, rfl⟩
  refine g_name (congrArg Value.int ho1) ?_
  have l_o1 : 0 ≤ o1.toInt ∧ o1.toInt ≤ 255 := by rw [ho1]; exact own_chF _
  refine g_istore (pc' := 27) (Ls' := #[.val (.int p0), .val (.int p1), .val (.int p2), .val (.int p3), .val (.int la), .val (.int lb), .val (.int o0), .val (.int o1), .unset, .unset, .unset, .unset, .unset, .unset, .unset, .unset]) W106.here hx (hb hby at_25) rfl rfl ?_
  refine g_iloadN (pc' := 28) W106.here hx (hb hby at_27) rfl rfl ?_
  refine g_bipush (20 : Int32) (pc' := 30) W106.here hx (hb hby at_28) rfl rfl ?_
  refine g_ishr (pc' := 31) W106.here hx (hb hby at_30) rfl ?_
  refine w_callSp (pc' := 34) (st := []) (y := (⟨"com/example/grapple/grapple/internal/OwnerIdsSameHolderPinLaw", "ch", "(I)C"⟩ : MethodName)) W106 hx [(.int ((p1 >>> ((20 : Int32) &&& 31))))] (hw _ (List.mem_of_getElem? w_0)) (hw _ (List.mem_of_getElem? w_1)) (hw _ (List.mem_of_getElem? w_2)) (hw _ (List.mem_of_getElem? w_3)) (by decide) (c_ch l Z a0 hw hE ((p1 >>> ((20 : Int32) &&& 31))) h0 W106.old) (by rw [hml]; rfl) (lenOf pd_15 rfl) rfl (hb hby at_31) (Nat.le_of_ble_eq_true rfl) (Nat.le_of_ble_eq_true rfl) rfl rfl (Nat.le_of_ble_eq_true rfl) (Nat.le_of_ble_eq_true rfl) rfl fun T107 W107 => ?_
  obtain ⟨o2, ho2⟩ : ∃ zz_ : Int32, zz_ = (chF ((p1 >>> ((20 : Int32) &&& 31)))) := ⟨_, rfl⟩
  refine g_name (congrArg Value.int ho2) ?_
  have l_o2 : 0 ≤ o2.toInt ∧ o2.toInt ≤ 255 := by rw [ho2]; exact own_chF _
  refine g_istore (pc' := 36) (Ls' := #[.val (.int p0), .val (.int p1), .val (.int p2), .val (.int p3), .val (.int la), .val (.int lb), .val (.int o0), .val (.int o1), .val (.int o2), .unset, .unset, .unset, .unset, .unset, .unset, .unset]) W107.here hx (hb hby at_34) rfl rfl ?_
  have J51 : ∀ q0 : Int32, (0 ≤ q0.toInt ∧ q0.toInt ≤ 255) → ∀ T108 : State, Wk p l e room_1 s m #[(.int p0), (.int p1), (.int p2), (.int p3)] below meth c Z consts_1 "com/example/grapple/grapple/internal/OwnerIdsSameHolderPinLaw" [] [] T108 h0 0 0 → Gets p.tables e below (Post s Z consts_1 room_1 h0 [] (fun v _ => v = some (.int 1))) T108 (mkF m 51 #[.val (.int p0), .val (.int p1), .val (.int p2), .val (.int p3), .val (.int la), .val (.int lb), .val (.int o0), .val (.int o1), .val (.int o2), .unset, .unset, .unset, .unset, .unset, .unset, .unset] [(.int q0)]) := by
    intro q0 l_q0 T108 W108
    refine g_istore (pc' := 53) (Ls' := #[.val (.int p0), .val (.int p1), .val (.int p2), .val (.int p3), .val (.int la), .val (.int lb), .val (.int o0), .val (.int o1), .val (.int o2), .val (.int q0), .unset, .unset, .unset, .unset, .unset, .unset]) W108.here hx (hb hby at_51) rfl rfl ?_
    have J71 : ∀ q1 : Int32, (0 ≤ q1.toInt ∧ q1.toInt ≤ 255) → ∀ T109 : State, Wk p l e room_1 s m #[(.int p0), (.int p1), (.int p2), (.int p3)] below meth c Z consts_1 "com/example/grapple/grapple/internal/OwnerIdsSameHolderPinLaw" [] [] T109 h0 0 0 → Gets p.tables e below (Post s Z consts_1 room_1 h0 [] (fun v _ => v = some (.int 1))) T109 (mkF m 71 #[.val (.int p0), .val (.int p1), .val (.int p2), .val (.int p3), .val (.int la), .val (.int lb), .val (.int o0), .val (.int o1), .val (.int o2), .val (.int q0), .unset, .unset, .unset, .unset, .unset, .unset] [(.int q1)]) := by
      intro q1 l_q1 T109 W109
      refine g_istore (pc' := 73) (Ls' := #[.val (.int p0), .val (.int p1), .val (.int p2), .val (.int p3), .val (.int la), .val (.int lb), .val (.int o0), .val (.int o1), .val (.int o2), .val (.int q0), .val (.int q1), .unset, .unset, .unset, .unset, .unset]) W109.here hx (hb hby at_71) rfl rfl ?_
      have J91 : ∀ q2 : Int32, (0 ≤ q2.toInt ∧ q2.toInt ≤ 255) → ∀ T110 : State, Wk p l e room_1 s m #[(.int p0), (.int p1), (.int p2), (.int p3)] below meth c Z consts_1 "com/example/grapple/grapple/internal/OwnerIdsSameHolderPinLaw" [] [] T110 h0 0 0 → Gets p.tables e below (Post s Z consts_1 room_1 h0 [] (fun v _ => v = some (.int 1))) T110 (mkF m 91 #[.val (.int p0), .val (.int p1), .val (.int p2), .val (.int p3), .val (.int la), .val (.int lb), .val (.int o0), .val (.int o1), .val (.int o2), .val (.int q0), .val (.int q1), .unset, .unset, .unset, .unset, .unset] [(.int q2)]) := by
        intro q2 l_q2 T110 W110
        refine g_istore (pc' := 93) (Ls' := #[.val (.int p0), .val (.int p1), .val (.int p2), .val (.int p3), .val (.int la), .val (.int lb), .val (.int o0), .val (.int o1), .val (.int o2), .val (.int q0), .val (.int q1), .val (.int q2), .unset, .unset, .unset, .unset]) W110.here hx (hb hby at_91) rfl rfl ?_
        refine w_new (pc' := 96) W110 hx (hw _ (List.mem_of_getElem? w_4)) (hw _ (List.mem_of_getElem? w_5)) (hw _ (List.mem_of_getElem? w_6)) (hb hby at_93) (Nat.le_of_ble_eq_true rfl) (Nat.le_of_ble_eq_true rfl) rfl fun T111 h111 b111 g111 W111 K111 A111 D111 => ?_
        have z_K111 : h0.size ≤ h111.size := K111.1
        have lt_b111 : b111 < h111.size := W111.lt (List.mem_cons_self ..)
        have F111_value : Fld Z h111 b111 "java/lang/String" "value" "[B" .null := D111 (Or.inr (hw _ (List.mem_of_getElem? w_23))) (ty := (.array .byte)) (by decide)
        have F111_coder : Fld Z h111 b111 "java/lang/String" "coder" "B" (.int (0 : Int32)) := D111 (Or.inr (hw _ (List.mem_of_getElem? w_24))) (ty := .byte) (by decide)
        refine g_dup (pc' := 97) W111.here hx (hb hby at_96) rfl rfl ?_
        refine g_iload (pc' := 99) W111.here hx (hb hby at_97) rfl rfl ?_
        refine g_iload (pc' := 101) W111.here hx (hb hby at_99) rfl rfl ?_
        refine g_iload (pc' := 103) W111.here hx (hb hby at_101) rfl rfl ?_
        refine g_iload (pc' := 105) W111.here hx (hb hby at_103) rfl rfl ?_
        refine w_callS (pc' := 108) (st := [(.ref b111), (.ref b111)]) (y := (⟨"com/example/grapple/grapple/internal/OwnerIdsSameHolderPinLaw", "make", "(ICCC)[C"⟩ : MethodName)) W111 hx [(.int la), (.int o0), (.int o1), (.int o2)] (hw _ (List.mem_of_getElem? w_7)) (hw _ (List.mem_of_getElem? w_8)) (hw _ (List.mem_of_getElem? w_2)) (hw _ (List.mem_of_getElem? w_9)) (by decide) (c_make l Z a0 hw hE la o0 o1 o2 h111 W111.old l_o0 l_o1 l_o2) all0 (by rw [hml]; rfl) (lenOf pd_16 rfl) rfl (hb hby at_105) (Nat.le_of_ble_eq_true rfl) (Nat.le_of_ble_eq_true rfl) (Nat.le_of_ble_eq_true rfl) (Nat.le_of_ble_eq_true rfl) rfl fun v112 T112 h112 W112 K112 Q112 => ?_
        have z_K112 : h111.size ≤ h112.size := K112.1
        obtain ⟨ca113, rfl, gz113, V113⟩ := Q112
        have ne_b111_ca113 : b111 ≠ ca113 := by omega
        have hmk113 := own_mkL (n := la) (P := fun c => 0 ≤ c.toInt ∧ c.toInt ≤ 255) l_o0 l_o1 l_o2
        have lt_ca113 : ca113 < h112.size := V113.lt
        have c114 := (A111.keep K112)
        have c115 := (F111_coder.keep K112 nin0)
        have c116 := (F111_value.keep K112 nin0)
        refine w_special (pc' := 111) (st := [(.ref b111)]) (y := (⟨"java/lang/String", "<init>", "([C)V"⟩ : MethodName)) (a := b111) W112 hx [(.ref ca113)] rfl (hw _ (List.mem_of_getElem? w_11)) (hw _ (List.mem_of_getElem? w_12)) (hw _ (List.mem_of_getElem? w_6)) (hw _ (List.mem_of_getElem? w_13)) (by decide) (c_strC l Z a0 hw hE cc fm b111 ca113 (mkL la o0 o1 o2) h112 W112.old G hmk113.1 hmk113.2 V113 (by have := O.1; omega) c114 _ _ c115 c116 ne_b111_ca113) (allS (List.mem_of_getElem? (i := 0) rfl) all0) (by rw [hml]; rfl) (lenOf pd_17 rfl) rfl (hb hby at_108) (Nat.le_of_ble_eq_true rfl) (Nat.le_of_ble_eq_true rfl) (Nat.le_of_ble_eq_true rfl) (Nat.le_of_ble_eq_true rfl) rfl fun v117 T117 h117 W117 K117 Q117 => ?_
        have z_K117 : h112.size ≤ h117.size := K117.1
        obtain ⟨rfl, sb118, S118⟩ := Q117
        have ES118 := S118.1
        have lt_sb118 : sb118 < h117.size := S118.ltb
        refine g_astore (pc' := 113) (Ls' := #[.val (.int p0), .val (.int p1), .val (.int p2), .val (.int p3), .val (.int la), .val (.int lb), .val (.int o0), .val (.int o1), .val (.int o2), .val (.int q0), .val (.int q1), .val (.int q2), .val (.ref b111), .unset, .unset, .unset]) W117.here hx (hb hby at_111) rfl rfl rfl ?_
        refine w_new (pc' := 116) W117 hx (hw _ (List.mem_of_getElem? w_4)) (hw _ (List.mem_of_getElem? w_5)) (hw _ (List.mem_of_getElem? w_6)) (hb hby at_113) (Nat.le_of_ble_eq_true rfl) (Nat.le_of_ble_eq_true rfl) rfl fun T119 h119 b119 g119 W119 K119 A119 D119 => ?_
        have z_K119 : h117.size ≤ h119.size := K119.1
        have ne_b111_b119 : b111 ≠ b119 := by omega
        have ne_ca113_b119 : ca113 ≠ b119 := by omega
        have ne_sb118_b119 : sb118 ≠ b119 := by omega
        have lt_b119 : b119 < h119.size := W119.lt (List.mem_cons_self ..)
        have F119_value : Fld Z h119 b119 "java/lang/String" "value" "[B" .null := D119 (Or.inr (hw _ (List.mem_of_getElem? w_23))) (ty := (.array .byte)) (by decide)
        have F119_coder : Fld Z h119 b119 "java/lang/String" "coder" "B" (.int (0 : Int32)) := D119 (Or.inr (hw _ (List.mem_of_getElem? w_24))) (ty := .byte) (by decide)
        refine g_dup (pc' := 117) W119.here hx (hb hby at_116) rfl rfl ?_
        refine g_iload (pc' := 119) W119.here hx (hb hby at_117) rfl rfl ?_
        refine g_iload (pc' := 121) W119.here hx (hb hby at_119) rfl rfl ?_
        refine g_iload (pc' := 123) W119.here hx (hb hby at_121) rfl rfl ?_
        refine g_iload (pc' := 125) W119.here hx (hb hby at_123) rfl rfl ?_
        refine w_callS (pc' := 128) (st := [(.ref b119), (.ref b119)]) (y := (⟨"com/example/grapple/grapple/internal/OwnerIdsSameHolderPinLaw", "make", "(ICCC)[C"⟩ : MethodName)) W119 hx [(.int lb), (.int q0), (.int q1), (.int q2)] (hw _ (List.mem_of_getElem? w_7)) (hw _ (List.mem_of_getElem? w_8)) (hw _ (List.mem_of_getElem? w_2)) (hw _ (List.mem_of_getElem? w_9)) (by decide) (c_make l Z a0 hw hE lb q0 q1 q2 h119 W119.old l_q0 l_q1 l_q2) all0 (by rw [hml]; rfl) (lenOf pd_16 rfl) rfl (hb hby at_125) (Nat.le_of_ble_eq_true rfl) (Nat.le_of_ble_eq_true rfl) (Nat.le_of_ble_eq_true rfl) (Nat.le_of_ble_eq_true rfl) rfl fun v120 T120 h120 W120 K120 Q120 => ?_
        have z_K120 : h119.size ≤ h120.size := K120.1
        obtain ⟨ca121, rfl, gz121, V121⟩ := Q120
        have ne_b111_ca121 : b111 ≠ ca121 := by omega
        have ne_ca113_ca121 : ca113 ≠ ca121 := by omega
        have ne_sb118_ca121 : sb118 ≠ ca121 := by omega
        have ne_b119_ca121 : b119 ≠ ca121 := by omega
        have hmk121 := own_mkL (n := lb) (P := fun c => 0 ≤ c.toInt ∧ c.toInt ≤ 255) l_q0 l_q1 l_q2
        have lt_ca121 : ca121 < h120.size := V121.lt
        have c122 := (A119.keep K120)
        have c123 := (F119_coder.keep K120 nin0)
        have c124 := (F119_value.keep K120 nin0)
        refine w_special (pc' := 131) (st := [(.ref b119)]) (y := (⟨"java/lang/String", "<init>", "([C)V"⟩ : MethodName)) (a := b119) W120 hx [(.ref ca121)] rfl (hw _ (List.mem_of_getElem? w_11)) (hw _ (List.mem_of_getElem? w_12)) (hw _ (List.mem_of_getElem? w_6)) (hw _ (List.mem_of_getElem? w_13)) (by decide) (c_strC l Z a0 hw hE cc fm b119 ca121 (mkL lb q0 q1 q2) h120 W120.old G hmk121.1 hmk121.2 V121 (by have := O.1; omega) c122 _ _ c123 c124 ne_b119_ca121) (allS (List.mem_of_getElem? (i := 0) rfl) all0) (by rw [hml]; rfl) (lenOf pd_17 rfl) rfl (hb hby at_128) (Nat.le_of_ble_eq_true rfl) (Nat.le_of_ble_eq_true rfl) (Nat.le_of_ble_eq_true rfl) (Nat.le_of_ble_eq_true rfl) rfl fun v125 T125 h125 W125 K125 Q125 => ?_
        have z_K125 : h120.size ≤ h125.size := K125.1
        obtain ⟨rfl, sb126, S126⟩ := Q125
        have ES126 := S126.1
        have lt_sb126 : sb126 < h125.size := S126.ltb
        refine g_astore (pc' := 133) (Ls' := #[.val (.int p0), .val (.int p1), .val (.int p2), .val (.int p3), .val (.int la), .val (.int lb), .val (.int o0), .val (.int o1), .val (.int o2), .val (.int q0), .val (.int q1), .val (.int q2), .val (.ref b111), .val (.ref b119), .unset, .unset]) W125.here hx (hb hby at_131) rfl rfl rfl ?_
        refine g_iload (pc' := 135) W125.here hx (hb hby at_133) rfl rfl ?_
        refine g_iload (pc' := 137) W125.here hx (hb hby at_135) rfl rfl ?_
        refine g_iload (pc' := 139) W125.here hx (hb hby at_137) rfl rfl ?_
        refine g_iload (pc' := 141) W125.here hx (hb hby at_139) rfl rfl ?_
        refine w_callSp (pc' := 144) (st := []) (y := (⟨"com/example/grapple/grapple/internal/OwnerIdsSameHolderPinLaw", "lastColon", "(ICCC)I"⟩ : MethodName)) W125 hx [(.int la), (.int o0), (.int o1), (.int o2)] (hw _ (List.mem_of_getElem? w_29)) (hw _ (List.mem_of_getElem? w_30)) (hw _ (List.mem_of_getElem? w_2)) (hw _ (List.mem_of_getElem? w_31)) (by decide) (c_lastColon l Z a0 hw hE la o0 o1 o2 h125 W125.old) (by rw [hml]; rfl) (lenOf pd_18 rfl) rfl (hb hby at_141) (Nat.le_of_ble_eq_true rfl) (Nat.le_of_ble_eq_true rfl) rfl rfl (Nat.le_of_ble_eq_true rfl) (Nat.le_of_ble_eq_true rfl) rfl fun T127 W127 => ?_
        refine g_istore (pc' := 146) (Ls' := #[.val (.int p0), .val (.int p1), .val (.int p2), .val (.int p3), .val (.int la), .val (.int lb), .val (.int o0), .val (.int o1), .val (.int o2), .val (.int q0), .val (.int q1), .val (.int q2), .val (.ref b111), .val (.ref b119), .val (.int (lcF la o0 o1 o2)), .unset]) W127.here hx (hb hby at_144) rfl rfl ?_
        have J256 : ∀ be : Int32, be = expF la lb o0 o1 o2 q0 q1 q2 → ∀ T128 : State, Wk p l e room_1 s m #[(.int p0), (.int p1), (.int p2), (.int p3)] below meth c Z consts_1 "com/example/grapple/grapple/internal/OwnerIdsSameHolderPinLaw" [] [b119, b111] T128 h125 12 30 → Gets p.tables e below (Post s Z consts_1 room_1 h0 [] (fun v _ => v = some (.int 1))) T128 (mkF m 256 #[.val (.int p0), .val (.int p1), .val (.int p2), .val (.int p3), .val (.int la), .val (.int lb), .val (.int o0), .val (.int o1), .val (.int o2), .val (.int q0), .val (.int q1), .val (.int q2), .val (.ref b111), .val (.ref b119), .val (.int (lcF la o0 o1 o2)), .val (.int be)] []) := by
          intro be hbe T128 W128
          refine g_aload (pc' := 258) W128.here hx (hb hby at_256) rfl rfl rfl ?_
          refine g_aload (pc' := 260) W128.here hx (hb hby at_258) rfl rfl rfl ?_
          have c129 := (((S118.keep K119 nin0 nin0).keep K120 nin0 nin0).keep K125 (ninS ne_b111_b119 nin0) (ninS ne_sb118_b119 nin0))
          refine w_callSp (pc' := 263) (st := []) (y := (⟨"com/example/grapple/grapple/internal/OwnerIds", "sameHolder", "(Ljava/lang/String;Ljava/lang/String;)Z"⟩ : MethodName)) W128 hx [(.ref b111), (.ref b119)] (hw _ (List.mem_of_getElem? w_32)) (hw _ (List.mem_of_getElem? w_33)) (hw _ (List.mem_of_getElem? w_34)) (hw _ (List.mem_of_getElem? w_35)) (by decide) (c_same l Z a0 hw hE cc fm b111 sb118 (mkL la o0 o1 o2) b119 sb126 (mkL lb q0 q1 q2) h125 W128.old G c129 S126 ne_b111_b119 hmk113.1) (by rw [hml]; rfl) (lenOf pd_19 rfl) rfl (hb hby at_260) (Nat.le_of_ble_eq_true rfl) (Nat.le_of_ble_eq_true rfl) rfl rfl (Nat.le_of_ble_eq_true rfl) (Nat.le_of_ble_eq_true rfl) rfl fun T130 W130 => ?_
          refine g_iload (pc' := 265) W130.here hx (hb hby at_263) rfl rfl ?_
          refine g_icmpN (pc' := 268) W130.here hx (hb hby at_265) rfl (teq (show (sameH (mkL la o0 o1 o2) (mkL lb q0 q1 q2)) = be from (by rw [hbe]; exact own_final la4 lb4 _ _ _ _ _ _))).2 ?_
          refine g_iconst (1 : Int32) (pc' := 269) W130.here hx (hb hby at_268) rfl rfl ?_
          refine g_goto (pc' := 273) W130.here hx (hb hby at_269) rfl ?_
          refine w_retN (t := .boolean) W130 hx hh hlk hret (by simp) (hb hby at_273) (Nat.le_of_ble_eq_true rfl) (Nat.le_of_ble_eq_true rfl) ?_
          exact rfl
        refine g_iload (pc' := 148) W127.here hx (hb hby at_146) rfl rfl ?_
        by_cases hc148_131 : (lcF la o0 o1 o2) < (0 : Int32)
        · refine g_ifN (pc' := 151) W127.here hx (hb hby at_148) rfl (tlt hc148_131).2.1 ?_
          refine g_iload (pc' := 153) W127.here hx (hb hby at_151) rfl rfl ?_
          refine g_iload (pc' := 155) W127.here hx (hb hby at_153) rfl rfl ?_
          by_cases hc155_132 : la = lb
          · refine g_icmpN (pc' := 158) W127.here hx (hb hby at_155) rfl (teq hc155_132).2 ?_
            refine g_iload (pc' := 160) W127.here hx (hb hby at_158) rfl rfl ?_
            refine g_iconst (1 : Int32) (pc' := 161) W127.here hx (hb hby at_160) rfl rfl ?_
            by_cases hc161_133 : la < (1 : Int32)
            · refine g_icmpY (pc' := 171) W127.here hx (hb hby at_161) rfl (tlt hc161_133).1 ?_
              refine g_iload (pc' := 173) W127.here hx (hb hby at_171) rfl rfl ?_
              refine g_iconst (2 : Int32) (pc' := 174) W127.here hx (hb hby at_173) rfl rfl ?_
              by_cases hc174_134 : la < (2 : Int32)
              · refine g_icmpY (pc' := 184) W127.here hx (hb hby at_174) rfl (tlt hc174_134).1 ?_
                refine g_iload (pc' := 186) W127.here hx (hb hby at_184) rfl rfl ?_
                refine g_iconst (3 : Int32) (pc' := 187) W127.here hx (hb hby at_186) rfl rfl ?_
                by_cases hc187_135 : la < (3 : Int32)
                · refine g_icmpY (pc' := 197) W127.here hx (hb hby at_187) rfl (tlt hc187_135).1 ?_
                  refine g_iconst (1 : Int32) (pc' := 198) W127.here hx (hb hby at_197) rfl rfl ?_
                  refine g_goto (pc' := 202) W127.here hx (hb hby at_198) rfl ?_
                  refine g_istore (pc' := 204) (Ls' := #[.val (.int p0), .val (.int p1), .val (.int p2), .val (.int p3), .val (.int la), .val (.int lb), .val (.int o0), .val (.int o1), .val (.int o2), .val (.int q0), .val (.int q1), .val (.int q2), .val (.ref b111), .val (.ref b119), .val (.int (lcF la o0 o1 o2)), .val (.int (1 : Int32))]) W127.here hx (hb hby at_202) rfl rfl ?_
                  refine g_goto (pc' := 256) W127.here hx (hb hby at_204) rfl ?_
                  exact J256 _ (by rw [expF, if_pos hc148_131, if_pos hc155_132, if_pos hc161_133, eK2, if_pos hc174_134, eK3, if_pos hc187_135]) _ W127
                · refine g_icmpN (pc' := 190) W127.here hx (hb hby at_187) rfl (flt hc187_135).1 ?_
                  refine g_iload (pc' := 192) W127.here hx (hb hby at_190) rfl rfl ?_
                  refine g_iload (pc' := 194) W127.here hx (hb hby at_192) rfl rfl ?_
                  by_cases hc194_136 : o2 = q2
                  · refine g_icmpN (pc' := 197) W127.here hx (hb hby at_194) rfl (teq hc194_136).2 ?_
                    refine g_iconst (1 : Int32) (pc' := 198) W127.here hx (hb hby at_197) rfl rfl ?_
                    refine g_goto (pc' := 202) W127.here hx (hb hby at_198) rfl ?_
                    refine g_istore (pc' := 204) (Ls' := #[.val (.int p0), .val (.int p1), .val (.int p2), .val (.int p3), .val (.int la), .val (.int lb), .val (.int o0), .val (.int o1), .val (.int o2), .val (.int q0), .val (.int q1), .val (.int q2), .val (.ref b111), .val (.ref b119), .val (.int (lcF la o0 o1 o2)), .val (.int (1 : Int32))]) W127.here hx (hb hby at_202) rfl rfl ?_
                    refine g_goto (pc' := 256) W127.here hx (hb hby at_204) rfl ?_
                    exact J256 _ (by rw [expF, if_pos hc148_131, if_pos hc155_132, if_pos hc161_133, eK2, if_pos hc174_134, eK3, if_neg hc187_135, if_pos hc194_136]) _ W127
                  · refine g_icmpY (pc' := 201) W127.here hx (hb hby at_194) rfl (feq hc194_136).2 ?_
                    refine g_iconst (0 : Int32) (pc' := 202) W127.here hx (hb hby at_201) rfl rfl ?_
                    refine g_istore (pc' := 204) (Ls' := #[.val (.int p0), .val (.int p1), .val (.int p2), .val (.int p3), .val (.int la), .val (.int lb), .val (.int o0), .val (.int o1), .val (.int o2), .val (.int q0), .val (.int q1), .val (.int q2), .val (.ref b111), .val (.ref b119), .val (.int (lcF la o0 o1 o2)), .val (.int (0 : Int32))]) W127.here hx (hb hby at_202) rfl rfl ?_
                    refine g_goto (pc' := 256) W127.here hx (hb hby at_204) rfl ?_
                    exact J256 _ (by rw [expF, if_pos hc148_131, if_pos hc155_132, if_pos hc161_133, eK2, if_pos hc174_134, eK3, if_neg hc187_135, if_neg hc194_136]) _ W127
              · refine g_icmpN (pc' := 177) W127.here hx (hb hby at_174) rfl (flt hc174_134).1 ?_
                refine g_iload (pc' := 179) W127.here hx (hb hby at_177) rfl rfl ?_
                refine g_iload (pc' := 181) W127.here hx (hb hby at_179) rfl rfl ?_
                by_cases hc181_137 : o1 = q1
                · refine g_icmpN (pc' := 184) W127.here hx (hb hby at_181) rfl (teq hc181_137).2 ?_
                  refine g_iload (pc' := 186) W127.here hx (hb hby at_184) rfl rfl ?_
                  refine g_iconst (3 : Int32) (pc' := 187) W127.here hx (hb hby at_186) rfl rfl ?_
                  by_cases hc187_138 : la < (3 : Int32)
                  · refine g_icmpY (pc' := 197) W127.here hx (hb hby at_187) rfl (tlt hc187_138).1 ?_
                    refine g_iconst (1 : Int32) (pc' := 198) W127.here hx (hb hby at_197) rfl rfl ?_
                    refine g_goto (pc' := 202) W127.here hx (hb hby at_198) rfl ?_
                    refine g_istore (pc' := 204) (Ls' := #[.val (.int p0), .val (.int p1), .val (.int p2), .val (.int p3), .val (.int la), .val (.int lb), .val (.int o0), .val (.int o1), .val (.int o2), .val (.int q0), .val (.int q1), .val (.int q2), .val (.ref b111), .val (.ref b119), .val (.int (lcF la o0 o1 o2)), .val (.int (1 : Int32))]) W127.here hx (hb hby at_202) rfl rfl ?_
                    refine g_goto (pc' := 256) W127.here hx (hb hby at_204) rfl ?_
                    exact J256 _ (by rw [expF, if_pos hc148_131, if_pos hc155_132, if_pos hc161_133, eK2, if_neg hc174_134, if_pos hc181_137, eK3, if_pos hc187_138]) _ W127
                  · refine g_icmpN (pc' := 190) W127.here hx (hb hby at_187) rfl (flt hc187_138).1 ?_
                    refine g_iload (pc' := 192) W127.here hx (hb hby at_190) rfl rfl ?_
                    refine g_iload (pc' := 194) W127.here hx (hb hby at_192) rfl rfl ?_
                    by_cases hc194_139 : o2 = q2
                    · refine g_icmpN (pc' := 197) W127.here hx (hb hby at_194) rfl (teq hc194_139).2 ?_
                      refine g_iconst (1 : Int32) (pc' := 198) W127.here hx (hb hby at_197) rfl rfl ?_
                      refine g_goto (pc' := 202) W127.here hx (hb hby at_198) rfl ?_
                      refine g_istore (pc' := 204) (Ls' := #[.val (.int p0), .val (.int p1), .val (.int p2), .val (.int p3), .val (.int la), .val (.int lb), .val (.int o0), .val (.int o1), .val (.int o2), .val (.int q0), .val (.int q1), .val (.int q2), .val (.ref b111), .val (.ref b119), .val (.int (lcF la o0 o1 o2)), .val (.int (1 : Int32))]) W127.here hx (hb hby at_202) rfl rfl ?_
                      refine g_goto (pc' := 256) W127.here hx (hb hby at_204) rfl ?_
                      exact J256 _ (by rw [expF, if_pos hc148_131, if_pos hc155_132, if_pos hc161_133, eK2, if_neg hc174_134, if_pos hc181_137, eK3, if_neg hc187_138, if_pos hc194_139]) _ W127
                    · refine g_icmpY (pc' := 201) W127.here hx (hb hby at_194) rfl (feq hc194_139).2 ?_
                      refine g_iconst (0 : Int32) (pc' := 202) W127.here hx (hb hby at_201) rfl rfl ?_
                      refine g_istore (pc' := 204) (Ls' := #[.val (.int p0), .val (.int p1), .val (.int p2), .val (.int p3), .val (.int la), .val (.int lb), .val (.int o0), .val (.int o1), .val (.int o2), .val (.int q0), .val (.int q1), .val (.int q2), .val (.ref b111), .val (.ref b119), .val (.int (lcF la o0 o1 o2)), .val (.int (0 : Int32))]) W127.here hx (hb hby at_202) rfl rfl ?_
                      refine g_goto (pc' := 256) W127.here hx (hb hby at_204) rfl ?_
                      exact J256 _ (by rw [expF, if_pos hc148_131, if_pos hc155_132, if_pos hc161_133, eK2, if_neg hc174_134, if_pos hc181_137, eK3, if_neg hc187_138, if_neg hc194_139]) _ W127
                · refine g_icmpY (pc' := 201) W127.here hx (hb hby at_181) rfl (feq hc181_137).2 ?_
                  refine g_iconst (0 : Int32) (pc' := 202) W127.here hx (hb hby at_201) rfl rfl ?_
                  refine g_istore (pc' := 204) (Ls' := #[.val (.int p0), .val (.int p1), .val (.int p2), .val (.int p3), .val (.int la), .val (.int lb), .val (.int o0), .val (.int o1), .val (.int o2), .val (.int q0), .val (.int q1), .val (.int q2), .val (.ref b111), .val (.ref b119), .val (.int (lcF la o0 o1 o2)), .val (.int (0 : Int32))]) W127.here hx (hb hby at_202) rfl rfl ?_
                  refine g_goto (pc' := 256) W127.here hx (hb hby at_204) rfl ?_
                  exact J256 _ (by rw [expF, if_pos hc148_131, if_pos hc155_132, if_pos hc161_133, eK2, if_neg hc174_134, if_neg hc181_137]) _ W127
            · refine g_icmpN (pc' := 164) W127.here hx (hb hby at_161) rfl (flt hc161_133).1 ?_
              refine g_iload (pc' := 166) W127.here hx (hb hby at_164) rfl rfl ?_
              refine g_iload (pc' := 168) W127.here hx (hb hby at_166) rfl rfl ?_
              by_cases hc168_140 : o0 = q0
              · refine g_icmpN (pc' := 171) W127.here hx (hb hby at_168) rfl (teq hc168_140).2 ?_
                refine g_iload (pc' := 173) W127.here hx (hb hby at_171) rfl rfl ?_
                refine g_iconst (2 : Int32) (pc' := 174) W127.here hx (hb hby at_173) rfl rfl ?_
                by_cases hc174_141 : la < (2 : Int32)
                · refine g_icmpY (pc' := 184) W127.here hx (hb hby at_174) rfl (tlt hc174_141).1 ?_
                  refine g_iload (pc' := 186) W127.here hx (hb hby at_184) rfl rfl ?_
                  refine g_iconst (3 : Int32) (pc' := 187) W127.here hx (hb hby at_186) rfl rfl ?_
                  by_cases hc187_142 : la < (3 : Int32)
                  · refine g_icmpY (pc' := 197) W127.here hx (hb hby at_187) rfl (tlt hc187_142).1 ?_
                    refine g_iconst (1 : Int32) (pc' := 198) W127.here hx (hb hby at_197) rfl rfl ?_
                    refine g_goto (pc' := 202) W127.here hx (hb hby at_198) rfl ?_
                    refine g_istore (pc' := 204) (Ls' := #[.val (.int p0), .val (.int p1), .val (.int p2), .val (.int p3), .val (.int la), .val (.int lb), .val (.int o0), .val (.int o1), .val (.int o2), .val (.int q0), .val (.int q1), .val (.int q2), .val (.ref b111), .val (.ref b119), .val (.int (lcF la o0 o1 o2)), .val (.int (1 : Int32))]) W127.here hx (hb hby at_202) rfl rfl ?_
                    refine g_goto (pc' := 256) W127.here hx (hb hby at_204) rfl ?_
                    exact J256 _ (by rw [expF, if_pos hc148_131, if_pos hc155_132, if_neg hc161_133, if_pos hc168_140, eK2, if_pos hc174_141, eK3, if_pos hc187_142]) _ W127
                  · refine g_icmpN (pc' := 190) W127.here hx (hb hby at_187) rfl (flt hc187_142).1 ?_
                    refine g_iload (pc' := 192) W127.here hx (hb hby at_190) rfl rfl ?_
                    refine g_iload (pc' := 194) W127.here hx (hb hby at_192) rfl rfl ?_
                    by_cases hc194_143 : o2 = q2
                    · refine g_icmpN (pc' := 197) W127.here hx (hb hby at_194) rfl (teq hc194_143).2 ?_
                      refine g_iconst (1 : Int32) (pc' := 198) W127.here hx (hb hby at_197) rfl rfl ?_
                      refine g_goto (pc' := 202) W127.here hx (hb hby at_198) rfl ?_
                      refine g_istore (pc' := 204) (Ls' := #[.val (.int p0), .val (.int p1), .val (.int p2), .val (.int p3), .val (.int la), .val (.int lb), .val (.int o0), .val (.int o1), .val (.int o2), .val (.int q0), .val (.int q1), .val (.int q2), .val (.ref b111), .val (.ref b119), .val (.int (lcF la o0 o1 o2)), .val (.int (1 : Int32))]) W127.here hx (hb hby at_202) rfl rfl ?_
                      refine g_goto (pc' := 256) W127.here hx (hb hby at_204) rfl ?_
                      exact J256 _ (by rw [expF, if_pos hc148_131, if_pos hc155_132, if_neg hc161_133, if_pos hc168_140, eK2, if_pos hc174_141, eK3, if_neg hc187_142, if_pos hc194_143]) _ W127
                    · refine g_icmpY (pc' := 201) W127.here hx (hb hby at_194) rfl (feq hc194_143).2 ?_
                      refine g_iconst (0 : Int32) (pc' := 202) W127.here hx (hb hby at_201) rfl rfl ?_
                      refine g_istore (pc' := 204) (Ls' := #[.val (.int p0), .val (.int p1), .val (.int p2), .val (.int p3), .val (.int la), .val (.int lb), .val (.int o0), .val (.int o1), .val (.int o2), .val (.int q0), .val (.int q1), .val (.int q2), .val (.ref b111), .val (.ref b119), .val (.int (lcF la o0 o1 o2)), .val (.int (0 : Int32))]) W127.here hx (hb hby at_202) rfl rfl ?_
                      refine g_goto (pc' := 256) W127.here hx (hb hby at_204) rfl ?_
                      exact J256 _ (by rw [expF, if_pos hc148_131, if_pos hc155_132, if_neg hc161_133, if_pos hc168_140, eK2, if_pos hc174_141, eK3, if_neg hc187_142, if_neg hc194_143]) _ W127
                · refine g_icmpN (pc' := 177) W127.here hx (hb hby at_174) rfl (flt hc174_141).1 ?_
                  refine g_iload (pc' := 179) W127.here hx (hb hby at_177) rfl rfl ?_
                  refine g_iload (pc' := 181) W127.here hx (hb hby at_179) rfl rfl ?_
                  by_cases hc181_144 : o1 = q1
                  · refine g_icmpN (pc' := 184) W127.here hx (hb hby at_181) rfl (teq hc181_144).2 ?_
                    refine g_iload (pc' := 186) W127.here hx (hb hby at_184) rfl rfl ?_
                    refine g_iconst (3 : Int32) (pc' := 187) W127.here hx (hb hby at_186) rfl rfl ?_
                    by_cases hc187_145 : la < (3 : Int32)
                    · refine g_icmpY (pc' := 197) W127.here hx (hb hby at_187) rfl (tlt hc187_145).1 ?_
                      refine g_iconst (1 : Int32) (pc' := 198) W127.here hx (hb hby at_197) rfl rfl ?_
                      refine g_goto (pc' := 202) W127.here hx (hb hby at_198) rfl ?_
                      refine g_istore (pc' := 204) (Ls' := #[.val (.int p0), .val (.int p1), .val (.int p2), .val (.int p3), .val (.int la), .val (.int lb), .val (.int o0), .val (.int o1), .val (.int o2), .val (.int q0), .val (.int q1), .val (.int q2), .val (.ref b111), .val (.ref b119), .val (.int (lcF la o0 o1 o2)), .val (.int (1 : Int32))]) W127.here hx (hb hby at_202) rfl rfl ?_
                      refine g_goto (pc' := 256) W127.here hx (hb hby at_204) rfl ?_
                      exact J256 _ (by rw [expF, if_pos hc148_131, if_pos hc155_132, if_neg hc161_133, if_pos hc168_140, eK2, if_neg hc174_141, if_pos hc181_144, eK3, if_pos hc187_145]) _ W127
                    · refine g_icmpN (pc' := 190) W127.here hx (hb hby at_187) rfl (flt hc187_145).1 ?_
                      refine g_iload (pc' := 192) W127.here hx (hb hby at_190) rfl rfl ?_
                      refine g_iload (pc' := 194) W127.here hx (hb hby at_192) rfl rfl ?_
                      by_cases hc194_146 : o2 = q2
                      · refine g_icmpN (pc' := 197) W127.here hx (hb hby at_194) rfl (teq hc194_146).2 ?_
                        refine g_iconst (1 : Int32) (pc' := 198) W127.here hx (hb hby at_197) rfl rfl ?_
                        refine g_goto (pc' := 202) W127.here hx (hb hby at_198) rfl ?_
                        refine g_istore (pc' := 204) (Ls' := #[.val (.int p0), .val (.int p1), .val (.int p2), .val (.int p3), .val (.int la), .val (.int lb), .val (.int o0), .val (.int o1), .val (.int o2), .val (.int q0), .val (.int q1), .val (.int q2), .val (.ref b111), .val (.ref b119), .val (.int (lcF la o0 o1 o2)), .val (.int (1 : Int32))]) W127.here hx (hb hby at_202) rfl rfl ?_
                        refine g_goto (pc' := 256) W127.here hx (hb hby at_204) rfl ?_
                        exact J256 _ (by rw [expF, if_pos hc148_131, if_pos hc155_132, if_neg hc161_133, if_pos hc168_140, eK2, if_neg hc174_141, if_pos hc181_144, eK3, if_neg hc187_145, if_pos hc194_146]) _ W127
                      · refine g_icmpY (pc' := 201) W127.here hx (hb hby at_194) rfl (feq hc194_146).2 ?_
                        refine g_iconst (0 : Int32) (pc' := 202) W127.here hx (hb hby at_201) rfl rfl ?_
                        refine g_istore (pc' := 204) (Ls' := #[.val (.int p0), .val (.int p1), .val (.int p2), .val (.int p3), .val (.int la), .val (.int lb), .val (.int o0), .val (.int o1), .val (.int o2), .val (.int q0), .val (.int q1), .val (.int q2), .val (.ref b111), .val (.ref b119), .val (.int (lcF la o0 o1 o2)), .val (.int (0 : Int32))]) W127.here hx (hb hby at_202) rfl rfl ?_
                        refine g_goto (pc' := 256) W127.here hx (hb hby at_204) rfl ?_
                        exact J256 _ (by rw [expF, if_pos hc148_131, if_pos hc155_132, if_neg hc161_133, if_pos hc168_140, eK2, if_neg hc174_141, if_pos hc181_144, eK3, if_neg hc187_145, if_neg hc194_146]) _ W127
                  · refine g_icmpY (pc' := 201) W127.here hx (hb hby at_181) rfl (feq hc181_144).2 ?_
                    refine g_iconst (0 : Int32) (pc' := 202) W127.here hx (hb hby at_201) rfl rfl ?_
                    refine g_istore (pc' := 204) (Ls' := #[.val (.int p0), .val (.int p1), .val (.int p2), .val (.int p3), .val (.int la), .val (.int lb), .val (.int o0), .val (.int o1), .val (.int o2), .val (.int q0), .val (.int q1), .val (.int q2), .val (.ref b111), .val (.ref b119), .val (.int (lcF la o0 o1 o2)), .val (.int (0 : Int32))]) W127.here hx (hb hby at_202) rfl rfl ?_
                    refine g_goto (pc' := 256) W127.here hx (hb hby at_204) rfl ?_
                    exact J256 _ (by rw [expF, if_pos hc148_131, if_pos hc155_132, if_neg hc161_133, if_pos hc168_140, eK2, if_neg hc174_141, if_neg hc181_144]) _ W127
              · refine g_icmpY (pc' := 201) W127.here hx (hb hby at_168) rfl (feq hc168_140).2 ?_
                refine g_iconst (0 : Int32) (pc' := 202) W127.here hx (hb hby at_201) rfl rfl ?_
                refine g_istore (pc' := 204) (Ls' := #[.val (.int p0), .val (.int p1), .val (.int p2), .val (.int p3), .val (.int la), .val (.int lb), .val (.int o0), .val (.int o1), .val (.int o2), .val (.int q0), .val (.int q1), .val (.int q2), .val (.ref b111), .val (.ref b119), .val (.int (lcF la o0 o1 o2)), .val (.int (0 : Int32))]) W127.here hx (hb hby at_202) rfl rfl ?_
                refine g_goto (pc' := 256) W127.here hx (hb hby at_204) rfl ?_
                exact J256 _ (by rw [expF, if_pos hc148_131, if_pos hc155_132, if_neg hc161_133, if_neg hc168_140]) _ W127
          · refine g_icmpY (pc' := 201) W127.here hx (hb hby at_155) rfl (feq hc155_132).2 ?_
            refine g_iconst (0 : Int32) (pc' := 202) W127.here hx (hb hby at_201) rfl rfl ?_
            refine g_istore (pc' := 204) (Ls' := #[.val (.int p0), .val (.int p1), .val (.int p2), .val (.int p3), .val (.int la), .val (.int lb), .val (.int o0), .val (.int o1), .val (.int o2), .val (.int q0), .val (.int q1), .val (.int q2), .val (.ref b111), .val (.ref b119), .val (.int (lcF la o0 o1 o2)), .val (.int (0 : Int32))]) W127.here hx (hb hby at_202) rfl rfl ?_
            refine g_goto (pc' := 256) W127.here hx (hb hby at_204) rfl ?_
            exact J256 _ (by rw [expF, if_pos hc148_131, if_neg hc155_132]) _ W127
        · refine g_ifY (pc' := 207) W127.here hx (hb hby at_148) rfl (flt hc148_131).2.1 ?_
          refine g_iload (pc' := 209) W127.here hx (hb hby at_207) rfl rfl ?_
          refine g_iload (pc' := 211) W127.here hx (hb hby at_209) rfl rfl ?_
          refine g_iload (pc' := 213) W127.here hx (hb hby at_211) rfl rfl ?_
          refine g_iload (pc' := 215) W127.here hx (hb hby at_213) rfl rfl ?_
          refine g_iload (pc' := 217) W127.here hx (hb hby at_215) rfl rfl ?_
          refine w_callSp (pc' := 220) (st := [(.int (lcF la o0 o1 o2))]) (y := (⟨"com/example/grapple/grapple/internal/OwnerIdsSameHolderPinLaw", "lastColon", "(ICCC)I"⟩ : MethodName)) W127 hx [(.int lb), (.int q0), (.int q1), (.int q2)] (hw _ (List.mem_of_getElem? w_29)) (hw _ (List.mem_of_getElem? w_30)) (hw _ (List.mem_of_getElem? w_2)) (hw _ (List.mem_of_getElem? w_31)) (by decide) (c_lastColon l Z a0 hw hE lb q0 q1 q2 h125 W127.old) (by rw [hml]; rfl) (lenOf pd_18 rfl) rfl (hb hby at_217) (Nat.le_of_ble_eq_true rfl) (Nat.le_of_ble_eq_true rfl) rfl rfl (Nat.le_of_ble_eq_true rfl) (Nat.le_of_ble_eq_true rfl) rfl fun T147 W147 => ?_
          by_cases hc220_148 : (lcF la o0 o1 o2) = (lcF lb q0 q1 q2)
          · refine g_icmpN (pc' := 223) W147.here hx (hb hby at_220) rfl (teq hc220_148).2 ?_
            refine g_iload (pc' := 225) W147.here hx (hb hby at_223) rfl rfl ?_
            refine g_iconst (1 : Int32) (pc' := 226) W147.here hx (hb hby at_225) rfl rfl ?_
            by_cases hc226_149 : (lcF la o0 o1 o2) < (1 : Int32)
            · refine g_icmpY (pc' := 236) W147.here hx (hb hby at_226) rfl (tlt hc226_149).1 ?_
              refine g_iload (pc' := 238) W147.here hx (hb hby at_236) rfl rfl ?_
              refine g_iconst (2 : Int32) (pc' := 239) W147.here hx (hb hby at_238) rfl rfl ?_
              by_cases hc239_150 : (lcF la o0 o1 o2) < (2 : Int32)
              · refine g_icmpY (pc' := 249) W147.here hx (hb hby at_239) rfl (tlt hc239_150).1 ?_
                refine g_iconst (1 : Int32) (pc' := 250) W147.here hx (hb hby at_249) rfl rfl ?_
                refine g_goto (pc' := 254) W147.here hx (hb hby at_250) rfl ?_
                refine g_istore (pc' := 256) (Ls' := #[.val (.int p0), .val (.int p1), .val (.int p2), .val (.int p3), .val (.int la), .val (.int lb), .val (.int o0), .val (.int o1), .val (.int o2), .val (.int q0), .val (.int q1), .val (.int q2), .val (.ref b111), .val (.ref b119), .val (.int (lcF la o0 o1 o2)), .val (.int (1 : Int32))]) W147.here hx (hb hby at_254) rfl rfl ?_
                exact J256 _ (by rw [expF, if_neg hc148_131, if_pos hc220_148, if_pos hc226_149, eG2, if_pos hc239_150]) _ W147
              · refine g_icmpN (pc' := 242) W147.here hx (hb hby at_239) rfl (flt hc239_150).1 ?_
                refine g_iload (pc' := 244) W147.here hx (hb hby at_242) rfl rfl ?_
                refine g_iload (pc' := 246) W147.here hx (hb hby at_244) rfl rfl ?_
                by_cases hc246_151 : o1 = q1
                · refine g_icmpN (pc' := 249) W147.here hx (hb hby at_246) rfl (teq hc246_151).2 ?_
                  refine g_iconst (1 : Int32) (pc' := 250) W147.here hx (hb hby at_249) rfl rfl ?_
                  refine g_goto (pc' := 254) W147.here hx (hb hby at_250) rfl ?_
                  refine g_istore (pc' := 256) (Ls' := #[.val (.int p0), .val (.int p1), .val (.int p2), .val (.int p3), .val (.int la), .val (.int lb), .val (.int o0), .val (.int o1), .val (.int o2), .val (.int q0), .val (.int q1), .val (.int q2), .val (.ref b111), .val (.ref b119), .val (.int (lcF la o0 o1 o2)), .val (.int (1 : Int32))]) W147.here hx (hb hby at_254) rfl rfl ?_
                  exact J256 _ (by rw [expF, if_neg hc148_131, if_pos hc220_148, if_pos hc226_149, eG2, if_neg hc239_150, if_pos hc246_151]) _ W147
                · refine g_icmpY (pc' := 253) W147.here hx (hb hby at_246) rfl (feq hc246_151).2 ?_
                  refine g_iconst (0 : Int32) (pc' := 254) W147.here hx (hb hby at_253) rfl rfl ?_
                  refine g_istore (pc' := 256) (Ls' := #[.val (.int p0), .val (.int p1), .val (.int p2), .val (.int p3), .val (.int la), .val (.int lb), .val (.int o0), .val (.int o1), .val (.int o2), .val (.int q0), .val (.int q1), .val (.int q2), .val (.ref b111), .val (.ref b119), .val (.int (lcF la o0 o1 o2)), .val (.int (0 : Int32))]) W147.here hx (hb hby at_254) rfl rfl ?_
                  exact J256 _ (by rw [expF, if_neg hc148_131, if_pos hc220_148, if_pos hc226_149, eG2, if_neg hc239_150, if_neg hc246_151]) _ W147
            · refine g_icmpN (pc' := 229) W147.here hx (hb hby at_226) rfl (flt hc226_149).1 ?_
              refine g_iload (pc' := 231) W147.here hx (hb hby at_229) rfl rfl ?_
              refine g_iload (pc' := 233) W147.here hx (hb hby at_231) rfl rfl ?_
              by_cases hc233_152 : o0 = q0
              · refine g_icmpN (pc' := 236) W147.here hx (hb hby at_233) rfl (teq hc233_152).2 ?_
                refine g_iload (pc' := 238) W147.here hx (hb hby at_236) rfl rfl ?_
                refine g_iconst (2 : Int32) (pc' := 239) W147.here hx (hb hby at_238) rfl rfl ?_
                by_cases hc239_153 : (lcF la o0 o1 o2) < (2 : Int32)
                · refine g_icmpY (pc' := 249) W147.here hx (hb hby at_239) rfl (tlt hc239_153).1 ?_
                  refine g_iconst (1 : Int32) (pc' := 250) W147.here hx (hb hby at_249) rfl rfl ?_
                  refine g_goto (pc' := 254) W147.here hx (hb hby at_250) rfl ?_
                  refine g_istore (pc' := 256) (Ls' := #[.val (.int p0), .val (.int p1), .val (.int p2), .val (.int p3), .val (.int la), .val (.int lb), .val (.int o0), .val (.int o1), .val (.int o2), .val (.int q0), .val (.int q1), .val (.int q2), .val (.ref b111), .val (.ref b119), .val (.int (lcF la o0 o1 o2)), .val (.int (1 : Int32))]) W147.here hx (hb hby at_254) rfl rfl ?_
                  exact J256 _ (by rw [expF, if_neg hc148_131, if_pos hc220_148, if_neg hc226_149, if_pos hc233_152, eG2, if_pos hc239_153]) _ W147
                · refine g_icmpN (pc' := 242) W147.here hx (hb hby at_239) rfl (flt hc239_153).1 ?_
                  refine g_iload (pc' := 244) W147.here hx (hb hby at_242) rfl rfl ?_
                  refine g_iload (pc' := 246) W147.here hx (hb hby at_244) rfl rfl ?_
                  by_cases hc246_154 : o1 = q1
                  · refine g_icmpN (pc' := 249) W147.here hx (hb hby at_246) rfl (teq hc246_154).2 ?_
                    refine g_iconst (1 : Int32) (pc' := 250) W147.here hx (hb hby at_249) rfl rfl ?_
                    refine g_goto (pc' := 254) W147.here hx (hb hby at_250) rfl ?_
                    refine g_istore (pc' := 256) (Ls' := #[.val (.int p0), .val (.int p1), .val (.int p2), .val (.int p3), .val (.int la), .val (.int lb), .val (.int o0), .val (.int o1), .val (.int o2), .val (.int q0), .val (.int q1), .val (.int q2), .val (.ref b111), .val (.ref b119), .val (.int (lcF la o0 o1 o2)), .val (.int (1 : Int32))]) W147.here hx (hb hby at_254) rfl rfl ?_
                    exact J256 _ (by rw [expF, if_neg hc148_131, if_pos hc220_148, if_neg hc226_149, if_pos hc233_152, eG2, if_neg hc239_153, if_pos hc246_154]) _ W147
                  · refine g_icmpY (pc' := 253) W147.here hx (hb hby at_246) rfl (feq hc246_154).2 ?_
                    refine g_iconst (0 : Int32) (pc' := 254) W147.here hx (hb hby at_253) rfl rfl ?_
                    refine g_istore (pc' := 256) (Ls' := #[.val (.int p0), .val (.int p1), .val (.int p2), .val (.int p3), .val (.int la), .val (.int lb), .val (.int o0), .val (.int o1), .val (.int o2), .val (.int q0), .val (.int q1), .val (.int q2), .val (.ref b111), .val (.ref b119), .val (.int (lcF la o0 o1 o2)), .val (.int (0 : Int32))]) W147.here hx (hb hby at_254) rfl rfl ?_
                    exact J256 _ (by rw [expF, if_neg hc148_131, if_pos hc220_148, if_neg hc226_149, if_pos hc233_152, eG2, if_neg hc239_153, if_neg hc246_154]) _ W147
              · refine g_icmpY (pc' := 253) W147.here hx (hb hby at_233) rfl (feq hc233_152).2 ?_
                refine g_iconst (0 : Int32) (pc' := 254) W147.here hx (hb hby at_253) rfl rfl ?_
                refine g_istore (pc' := 256) (Ls' := #[.val (.int p0), .val (.int p1), .val (.int p2), .val (.int p3), .val (.int la), .val (.int lb), .val (.int o0), .val (.int o1), .val (.int o2), .val (.int q0), .val (.int q1), .val (.int q2), .val (.ref b111), .val (.ref b119), .val (.int (lcF la o0 o1 o2)), .val (.int (0 : Int32))]) W147.here hx (hb hby at_254) rfl rfl ?_
                exact J256 _ (by rw [expF, if_neg hc148_131, if_pos hc220_148, if_neg hc226_149, if_neg hc233_152]) _ W147
          · refine g_icmpY (pc' := 253) W147.here hx (hb hby at_220) rfl (feq hc220_148).2 ?_
            refine g_iconst (0 : Int32) (pc' := 254) W147.here hx (hb hby at_253) rfl rfl ?_
            refine g_istore (pc' := 256) (Ls' := #[.val (.int p0), .val (.int p1), .val (.int p2), .val (.int p3), .val (.int la), .val (.int lb), .val (.int o0), .val (.int o1), .val (.int o2), .val (.int q0), .val (.int q1), .val (.int q2), .val (.ref b111), .val (.ref b119), .val (.int (lcF la o0 o1 o2)), .val (.int (0 : Int32))]) W147.here hx (hb hby at_254) rfl rfl ?_
            exact J256 _ (by rw [expF, if_neg hc148_131, if_neg hc220_148]) _ W147
      refine g_iloadN (pc' := 74) W109.here hx (hb hby at_73) rfl rfl ?_
      refine g_iconst (4 : Int32) (pc' := 75) W109.here hx (hb hby at_74) rfl rfl ?_
      refine g_iand (pc' := 76) W109.here hx (hb hby at_75) rfl ?_
      by_cases hc76_155 : (p3 &&& (4 : Int32)) = (0 : Int32)
      · refine g_ifY (pc' := 84) W109.here hx (hb hby at_76) rfl (teq hc76_155).1 ?_
        refine g_iloadN (pc' := 85) W109.here hx (hb hby at_84) rfl rfl ?_
        refine g_bipush (20 : Int32) (pc' := 87) W109.here hx (hb hby at_85) rfl rfl ?_
        refine g_ishr (pc' := 88) W109.here hx (hb hby at_87) rfl ?_
        refine w_callSp (pc' := 91) (st := []) (y := (⟨"com/example/grapple/grapple/internal/OwnerIdsSameHolderPinLaw", "ch", "(I)C"⟩ : MethodName)) W109 hx [(.int ((p2 >>> ((20 : Int32) &&& 31))))] (hw _ (List.mem_of_getElem? w_0)) (hw _ (List.mem_of_getElem? w_1)) (hw _ (List.mem_of_getElem? w_2)) (hw _ (List.mem_of_getElem? w_3)) (by decide) (c_ch l Z a0 hw hE ((p2 >>> ((20 : Int32) &&& 31))) h0 W109.old) (by rw [hml]; rfl) (lenOf pd_15 rfl) rfl (hb hby at_88) (Nat.le_of_ble_eq_true rfl) (Nat.le_of_ble_eq_true rfl) rfl rfl (Nat.le_of_ble_eq_true rfl) (Nat.le_of_ble_eq_true rfl) rfl fun T156 W156 => ?_
        exact J91 _ (own_chF _) _ W156
      · refine g_ifN (pc' := 79) W109.here hx (hb hby at_76) rfl (feq hc76_155).1 ?_
        refine g_iload (pc' := 81) W109.here hx (hb hby at_79) rfl rfl ?_
        refine g_goto (pc' := 91) W109.here hx (hb hby at_81) rfl ?_
        exact J91 _ l_o2 _ W109
    refine g_iloadN (pc' := 54) W108.here hx (hb hby at_53) rfl rfl ?_
    refine g_iconst (2 : Int32) (pc' := 55) W108.here hx (hb hby at_54) rfl rfl ?_
    refine g_iand (pc' := 56) W108.here hx (hb hby at_55) rfl ?_
    by_cases hc56_157 : (p3 &&& (2 : Int32)) = (0 : Int32)
    · refine g_ifY (pc' := 64) W108.here hx (hb hby at_56) rfl (teq hc56_157).1 ?_
      refine g_iloadN (pc' := 65) W108.here hx (hb hby at_64) rfl rfl ?_
      refine g_bipush (10 : Int32) (pc' := 67) W108.here hx (hb hby at_65) rfl rfl ?_
      refine g_ishr (pc' := 68) W108.here hx (hb hby at_67) rfl ?_
      refine w_callSp (pc' := 71) (st := []) (y := (⟨"com/example/grapple/grapple/internal/OwnerIdsSameHolderPinLaw", "ch", "(I)C"⟩ : MethodName)) W108 hx [(.int ((p2 >>> ((10 : Int32) &&& 31))))] (hw _ (List.mem_of_getElem? w_0)) (hw _ (List.mem_of_getElem? w_1)) (hw _ (List.mem_of_getElem? w_2)) (hw _ (List.mem_of_getElem? w_3)) (by decide) (c_ch l Z a0 hw hE ((p2 >>> ((10 : Int32) &&& 31))) h0 W108.old) (by rw [hml]; rfl) (lenOf pd_15 rfl) rfl (hb hby at_68) (Nat.le_of_ble_eq_true rfl) (Nat.le_of_ble_eq_true rfl) rfl rfl (Nat.le_of_ble_eq_true rfl) (Nat.le_of_ble_eq_true rfl) rfl fun T158 W158 => ?_
      exact J71 _ (own_chF _) _ W158
    · refine g_ifN (pc' := 59) W108.here hx (hb hby at_56) rfl (feq hc56_157).1 ?_
      refine g_iload (pc' := 61) W108.here hx (hb hby at_59) rfl rfl ?_
      refine g_goto (pc' := 71) W108.here hx (hb hby at_61) rfl ?_
      exact J71 _ l_o1 _ W108
  refine g_iloadN (pc' := 37) W107.here hx (hb hby at_36) rfl rfl ?_
  refine g_iconst (1 : Int32) (pc' := 38) W107.here hx (hb hby at_37) rfl rfl ?_
  refine g_iand (pc' := 39) W107.here hx (hb hby at_38) rfl ?_
  by_cases hc39_159 : (p3 &&& (1 : Int32)) = (0 : Int32)
  · refine g_ifY (pc' := 47) W107.here hx (hb hby at_39) rfl (teq hc39_159).1 ?_
    refine g_iloadN (pc' := 48) W107.here hx (hb hby at_47) rfl rfl ?_
    refine w_callSp (pc' := 51) (st := []) (y := (⟨"com/example/grapple/grapple/internal/OwnerIdsSameHolderPinLaw", "ch", "(I)C"⟩ : MethodName)) W107 hx [(.int p2)] (hw _ (List.mem_of_getElem? w_0)) (hw _ (List.mem_of_getElem? w_1)) (hw _ (List.mem_of_getElem? w_2)) (hw _ (List.mem_of_getElem? w_3)) (by decide) (c_ch l Z a0 hw hE p2 h0 W107.old) (by rw [hml]; rfl) (lenOf pd_15 rfl) rfl (hb hby at_48) (Nat.le_of_ble_eq_true rfl) (Nat.le_of_ble_eq_true rfl) rfl rfl (Nat.le_of_ble_eq_true rfl) (Nat.le_of_ble_eq_true rfl) rfl fun T160 W160 => ?_
    exact J51 _ (own_chF _) _ W160
  · refine g_ifN (pc' := 42) W107.here hx (hb hby at_39) rfl (feq hc39_159).1 ?_
    refine g_iload (pc' := 44) W107.here hx (hb hby at_42) rfl rfl ?_
    refine g_goto (pc' := 51) W107.here hx (hb hby at_44) rfl ?_
    exact J51 _ l_o0 _ W107
set_option maxRecDepth 65536 in
set_option maxHeartbeats 40000000 in
theorem comes_1 {Post : Tables → Env → Array Value → State → Outcome → State → Prop} (hpost : ∀ tb e args s v u, (limb_1_1.after args s (.returned v) u = true ∧ limb_1_2.after args s (.returned v) u = true ∧ True) → ReturnedEndW s (.returned v) u (Jvm.fieldLocs frame_1_writes args s ++ Jvm.arrayLocs frame_1_arrays args s ++ Jvm.staticLocs frame_1_statics s) 24 1152 → Post tb e args s (.returned v) u) :
    ArmFor flags0 classFile x code maxLocals ret World_1 tables_1 room_1 Calls_1 rest_1 Pre_1 Post := by
  intro l hfl _ _ p e ha hc hk s m args below hf hA hF happ hP
  obtain ⟨hcalls, hrest, hpre⟩ := hP
  obtain ⟨-, -, -, hnamed, -, -, -, hat⟩ := (Spec.applies_iff hf).mp happ
  obtain ⟨hg, hn⟩ := and_e (Cond.before_iff.mp (show (Jvm.Cond.and given_1 narrow_1).before args s = true from hpre))
  obtain ⟨hg0, hg⟩ := and_e hg
  obtain ⟨w0, w1, w2, w3, rfl⟩ : ∃ w0 w1 w2 w3 : Value, args = #[w0, w1, w2, w3] := by
    have hs : args.size = 4 := by simpa [Cond.value, given_1] using hg0
    obtain ⟨L⟩ := args
    match L, hs with
    | [w0, w1, w2, w3], _ => exact ⟨w0, w1, w2, w3, rfl⟩
  have hw := fun d (hd : d ∈ tables_1) => atoms_spec (ws := Jvm.Cond.code x code maxLocals ret :: tables_1) hat d (List.mem_cons_of_mem _ hd)
  have hfit : Fit s := fun {y c} hc i hi => by
    obtain ⟨ha, rfl⟩ := Array.getElem?_eq_some_iff.mp hc
    have q := List.all_eq_true.mp ((Array.all_eq_true_iff_forall_mem.mp hF) _ (Array.getElem_mem ha)) i (List.mem_range.mpr hi)
    simpa [Array.getElem?_eq_getElem hi] using q
  obtain ⟨hg1, hg⟩ := and_e hg
  obtain ⟨p0, ep0⟩ := is_v hg1
  obtain rfl : w0 = (.int p0) := Option.some.inj ep0
  obtain ⟨hg2, hg⟩ := and_e hg
  obtain ⟨p1, ep1⟩ := is_v hg2
  obtain rfl : w1 = (.int p1) := Option.some.inj ep1
  obtain ⟨hg3, hg⟩ := and_e hg
  obtain ⟨p2, ep2⟩ := is_v hg3
  obtain rfl : w2 = (.int p2) := Option.some.inj ep2
  have hg4 := hg
  obtain ⟨p3, ep3⟩ := is_v hg4
  obtain rfl : w3 = (.int p3) := Option.some.inj ep3
  have n1 := hn
  have hsets := (atoms_of jdkStatics_1 (show (jdkStatics_1.foldr Cond.and restOwn_1).before _ s = true by rw [← rest_1_c_eq]; exact hrest)).1
  have hheld : ∀ p ∈ consts_1, Jvm.Lit.constHeld s p.1 p.2 := hcalls.1
  obtain ⟨cc, ecc⟩ := is_v (Cond.before_iff.mp (hsets _ (List.mem_of_getElem? (i := 1) rfl)))
  have hcc : ¬ cc = 0 := fun q => by
    have q1 := not_v (Cond.before_iff.mp (hsets _ (List.mem_of_getElem? (i := 2) rfl)))
    exact absurd q (gotF (Cond.eq_ints ecc (Term.int_eval 0)) q1)
  obtain ⟨fm, efm, hfm⟩ := isR_v (Cond.before_iff.mp (hsets _ (List.mem_of_getElem? (i := 8) rfl)))
  have hG : SEnv s cc fm := ⟨Sta.start ecc (Or.inl (hsets _ (List.mem_of_getElem? (i := 0) rfl))), hcc, Sta.start efm (Or.inl (hsets _ (List.mem_of_getElem? (i := 7) rfl))), hfm⟩
  have hEW : EW s _ consts_1 := (EW.cons (hw _ (List.mem_of_getElem? w_21)) (by decide) EW.nil)
  have hCH : CHv s consts_1 s.vm s.heap := CHv.start hEW hheld (a0 := _) (hsets _ (List.mem_of_getElem? (i := 2) rfl)) (hw _ (List.mem_of_getElem? w_22)) (hw _ (List.mem_of_getElem? w_5))
  obtain ⟨t, o, h1, h2, h3, v, L, rfl, ⟨rfl, N, -⟩, -, hq⟩ := c_law l s _ hw hEW cc fm p0 p1 p2 p3 s.heap ⟨Nat.le_refl _, fun _ _ q => q⟩ hG
    p e ha hc hk s m _ below hf ((Spec.applies_iff_loose hf).mp happ).1 ⟨rfl, State.Warmed39.refl s, rfl, hCH, fun _ q => nomatch q⟩ trivial
  refine ⟨t, _, h1, h2, h3, hpost _ _ _ _ _ _ ⟨Cond.after_iff.mpr rfl, Cond.after_iff.mpr (eq_i res_at (Term.int_eval (1)) rfl), trivial⟩ ⟨hq.1, hq.2.1, hq.2.2.1, (hq.2.2.2.sift fun y hy => Or.inr (N y hy)).mono (by decide) (by decide)⟩⟩
theorem main_1_1 : Claimed_1_1 := comes_1 fun _ _ _ _ _ _ h hF => ⟨h.1, hF⟩
theorem main_1_2 : Claimed_1_2 := comes_1 fun _ _ _ _ _ _ h hF => ⟨h.2.1, hF⟩
end Jvm.Pilot.@@N@@
namespace Jvm.Pilot.@@N@@
open Jvm Jvm.ClassFile Sem Op Lib Jvm.Free Jvm.Stand Jvm.Pilot.@@N@@.Jvm.D
/-! MADE BY PROGRAM (witnessworld.py) out of the Statement's table words and the real class files: 21 classes; the members and pool entries that the words name. The judged class is class 1, her method 4. -/
namespace start1
open Jvm.ClassFile
def u (s : String) : CpInfo := .utf8 (stringToUtf16 s)
/-- a pool by its gaps: so many unusable entries, then the entry; so many at the end -/
def gap : Nat → List CpInfo → List CpInfo
  | 0, r => r
  | n + 1, r => .unusable :: gap n r
def poolList (es : List (Nat × CpInfo)) (last : Nat) : List CpInfo := es.foldr (fun e r => gap e.1 (e.2 :: r)) (gap last [])
def pool (es : List (Nat × CpInfo)) (last : Nat) : Array CpInfo := ⟨poolList es last⟩
def fileOf (pool : Array CpInfo) (this : Nat) (attrs : Array Attribute := #[]) (ms : Array MethodInfo := #[]) (fl : Nat := 33) (sup : Nat := 0) (ifs : Array Nat := #[]) (fds : Array FieldInfo := #[]) : ClassFile where
  minorVersion := 0
  majorVersion := 65
  constantPool := pool
  accessFlags := fl
  thisClass := this
  superClass := sup
  interfaces := ifs
  fields := fds
  methods := ms
  attributes := attrs
def plain (name : String) (sup : Option ClassId) : Class where
  name := name
  kind := .ordinary
  loader := none
  accessFlags := 33
  super := sup
  interfaces := #[]
  cf := none
  fields := #[]
  methods := #[]
  instanceTypes := #[]
  staticTypes := #[]
  resolved := #[]
  callSites := []
  init := .initialized
  statics := none
  mirror := none

def pool0 : Array CpInfo := pool [(5, u "<init>"), (0, u "()V"), (1, .class_ 10), (1, u "java/lang/Object")] 113

def k0c0 : Code := { maxStack := 0, maxLocals := 1, code := object_method_1_code, exceptionTable := #[], attributes := #[] }
def k0m0 : Method := { name := "<init>", desc := "()V", sig := { parameters := [], returnType := none }, accessFlags := 1, code := some k0c0 }
/-- java/lang/Object -/
def k0 : Class := { plain "java/lang/Object" none with
  accessFlags := 33
  interfaces := #[]
  cf := some (fileOf pool0 8 #[] #[{ accessFlags := 1, nameIndex := 5, descriptorIndex := 6, attributes := #[] }] 33 0 #[] #[])
  fields := #[]
  methods := #[k0m0]
  instanceTypes := #[]
  staticTypes := #[]
  resolved := Array.replicate 124 none
  statics := none }

def pool1 : Array CpInfo := pool [(2, .class_ 4), (1, u "java/lang/Object"), (0, u "<init>"), (0, u "()V"), (0, .methodref 8 9), (0, .class_ 10), (0, .nameAndType 11 12), (0, u "com/example/grapple/grapple/internal/OwnerIdsSameHolderPinLaw"), (0, u "ch"), (0, u "(I)C"), (0, .class_ 14), (0, u "java/lang/String"), (0, .methodref 8 16), (0, .nameAndType 17 18), (0, u "make"), (0, u "(ICCC)[C"), (0, .methodref 13 20), (0, .nameAndType 5 21), (0, u "([C)V"), (0, .methodref 8 23), (0, .nameAndType 24 25), (0, u "lastColon"), (0, u "(ICCC)I"), (0, .methodref 27 28), (0, .class_ 29), (0, .nameAndType 30 31), (0, u "com/example/grapple/grapple/internal/OwnerIds"), (0, u "sameHolder"), (0, u "(Ljava/lang/String;Ljava/lang/String;)Z"), (3, u "law"), (0, u "(IIII)Z")] 2

def k1m0 : Method := { name := "<init>", desc := "()V", sig := { parameters := [], returnType := none }, accessFlags := 1, code := none }
def k1c1 : Code := { maxStack := 2, maxLocals := 1, code := method_2_code, exceptionTable := #[], attributes := #[] }
def k1m1 : Method := { name := "ch", desc := "(I)C", sig := { parameters := [.int], returnType := some .char }, accessFlags := 10, code := some k1c1 }
def k1c2 : Code := { maxStack := 4, maxLocals := 4, code := method_3_code, exceptionTable := #[], attributes := #[] }
def k1m2 : Method := { name := "make", desc := "(ICCC)[C", sig := { parameters := [.int, .char, .char, .char], returnType := some (.array .char) }, accessFlags := 10, code := some k1c2 }
def k1c3 : Code := { maxStack := 2, maxLocals := 4, code := method_4_code, exceptionTable := #[], attributes := #[] }
def k1m3 : Method := { name := "lastColon", desc := "(ICCC)I", sig := { parameters := [.int, .char, .char, .char], returnType := some .int }, accessFlags := 10, code := some k1c3 }
def k1c4 : Code := { maxStack := 6, maxLocals := 16, code := code, exceptionTable := #[], attributes := #[] }
def k1m4 : Method := { name := "law", desc := "(IIII)Z", sig := { parameters := [.int, .int, .int, .int], returnType := some .boolean }, accessFlags := 9, code := some k1c4 }
/-- com/example/grapple/grapple/internal/OwnerIdsSameHolderPinLaw -/
def k1 : Class := { plain "com/example/grapple/grapple/internal/OwnerIdsSameHolderPinLaw" (some 0) with
  accessFlags := 49
  interfaces := #[]
  cf := some (fileOf pool1 8 #[] #[{ accessFlags := 1, nameIndex := 5, descriptorIndex := 6, attributes := #[] }, { accessFlags := 10, nameIndex := 11, descriptorIndex := 12, attributes := #[] }, { accessFlags := 10, nameIndex := 17, descriptorIndex := 18, attributes := #[] }, { accessFlags := 10, nameIndex := 24, descriptorIndex := 25, attributes := #[] }, { accessFlags := 9, nameIndex := 35, descriptorIndex := 36, attributes := #[] }] 49 2 #[] #[])
  fields := #[]
  methods := #[k1m0, k1m1, k1m2, k1m3, k1m4]
  instanceTypes := #[]
  staticTypes := #[]
  resolved := Array.replicate 39 none
  statics := none }

def pool2 : Array CpInfo := pool [(1, .class_ 2), (0, u "java/io/Serializable"), (0, .class_ 4), (0, u "java/lang/Object")] 2

/-- java/io/Serializable -/
def k2 : Class := { plain "java/io/Serializable" (some 0) with
  accessFlags := 1537
  interfaces := #[]
  cf := some (fileOf pool2 1 #[] #[] 1537 3 #[] #[])
  fields := #[]
  methods := #[]
  instanceTypes := #[]
  staticTypes := #[]
  resolved := Array.replicate 7 none
  statics := none }

def pool3 : Array CpInfo := pool [(1, .class_ 2), (0, u "java/lang/Comparable"), (0, .class_ 4), (0, u "java/lang/Object")] 7

/-- java/lang/Comparable -/
def k3 : Class := { plain "java/lang/Comparable" (some 0) with
  accessFlags := 1537
  interfaces := #[]
  cf := some (fileOf pool3 1 #[] #[] 1537 3 #[] #[])
  fields := #[]
  methods := #[]
  instanceTypes := #[]
  staticTypes := #[]
  resolved := Array.replicate 12 none
  statics := none }

def pool4 : Array CpInfo := pool [(2, .class_ 4), (1, u "java/lang/CharSequence"), (42, .class_ 48), (0, u "java/lang/CharSequence$1CodePointIterator"), (10, .class_ 60), (0, u "java/lang/CharSequence$1CharIterator"), (5, .class_ 67), (0, u "java/lang/Object")] 63

/-- java/lang/CharSequence -/
def k4 : Class := { plain "java/lang/CharSequence" (some 0) with
  accessFlags := 1537
  interfaces := #[]
  cf := some (fileOf pool4 2 #[.nestMembers #[47, 59]] #[] 1537 66 #[] #[])
  fields := #[]
  methods := #[]
  instanceTypes := #[]
  staticTypes := #[]
  resolved := Array.replicate 131 none
  statics := none }

def pool5 : Array CpInfo := pool [(1, .class_ 2), (0, u "java/lang/constant/Constable"), (0, .class_ 4), (0, u "java/lang/Object")] 6

/-- java/lang/constant/Constable -/
def k5 : Class := { plain "java/lang/constant/Constable" (some 0) with
  accessFlags := 1537
  interfaces := #[]
  cf := some (fileOf pool5 1 #[] #[] 1537 3 #[] #[])
  fields := #[]
  methods := #[]
  instanceTypes := #[]
  staticTypes := #[]
  resolved := Array.replicate 11 none
  statics := none }

def pool6 : Array CpInfo := pool [(1, .class_ 2), (0, u "java/lang/constant/ConstantDesc"), (0, .class_ 4), (0, u "java/lang/Object")] 32

/-- java/lang/constant/ConstantDesc -/
def k6 : Class := { plain "java/lang/constant/ConstantDesc" (some 0) with
  accessFlags := 1537
  interfaces := #[]
  cf := some (fileOf pool6 1 #[] #[] 1537 3 #[] #[])
  fields := #[]
  methods := #[]
  instanceTypes := #[]
  staticTypes := #[]
  resolved := Array.replicate 37 none
  statics := none }

def pool7 : Array CpInfo := pool [(1, .methodref 2 3), (0, .class_ 4), (0, .nameAndType 5 6), (0, u "java/lang/Object"), (0, u "<init>"), (0, u "()V"), (0, .string 8), (0, u ""), (0, .fieldref 10 11), (0, .class_ 12), (0, .nameAndType 13 14), (0, u "java/lang/String"), (0, u "value"), (0, u "[B"), (0, .fieldref 10 16), (0, .nameAndType 17 18), (0, u "coder"), (0, u "B"), (2, u "hash"), (0, u "I"), (2, u "hashIsZero"), (0, u "Z"), (0, .methodref 10 28), (0, .nameAndType 5 29), (0, u "([CIILjava/lang/Void;)V"), (8, .fieldref 10 39), (0, .nameAndType 40 26), (0, u "COMPACT_STRINGS"), (1, .class_ 44), (1, u "java/lang/StringUTF16"), (0, u "compress"), (1, .methodref 42 48), (0, .nameAndType 49 50), (0, u "coderFromArrayLen"), (0, u "([BI)B"), (46, u "([BII)I"), (9, .class_ 109), (1, u "java/lang/StringLatin1"), (32, u "()Z"), (34, .methodref 42 178), (0, .nameAndType 45 179), (0, u "([CII)[B"), (154, u "()I"), (0, .methodref 10 336), (0, .nameAndType 17 337), (0, u "()B"), (38, u "([BI[BII)I"), (115, .methodref 10 493), (0, .nameAndType 494 142), (0, u "isLatin1"), (10, .methodref 10 506), (0, .nameAndType 507 334), (0, u "length"), (33, .methodref 107 542), (0, .nameAndType 543 544), (0, u "equals"), (0, u "([B[B)Z"), (14, .class_ 561), (1, u "jdk/internal/util/ArraysSupport"), (0, u "mismatch"), (10, u "(Ljava/lang/Object;)Z"), (1, .class_ 576), (0, u "java/lang/CharSequence"), (7, u "regionMatches"), (14, u "CASE_INSENSITIVE_ORDER"), (0, u "Ljava/util/Comparator;"), (6, .methodref 559 608), (0, .nameAndType 562 376), (3, u "(ILjava/lang/String;II)Z"), (23, u "(II)I"), (4, .methodref 10 642), (0, .nameAndType 643 636), (0, u "lastIndexOf"), (0, .methodref 107 645), (0, .nameAndType 643 97), (119, u "(I)I"), (244, u "([C)V"), (90, u "serialPersistentFields"), (0, u "[Ljava/io/ObjectStreamField;"), (0, .class_ 1104), (0, u "java/lang/String$CaseInsensitiveComparator"), (1, .class_ 1107), (0, u "java/io/Serializable"), (0, .class_ 1109), (0, u "java/lang/Comparable"), (0, .class_ 1111), (0, u "java/lang/constant/Constable"), (0, .class_ 1113), (0, u "java/lang/constant/ConstantDesc"), (2, u "serialVersionUID"), (0, u "J"), (3, u "REPL"), (0, u "C"), (2, u "LATIN1"), (1, u "UTF16")] 323

def k7m0 : Method := { name := "<init>", desc := "()V", sig := { parameters := [], returnType := none }, accessFlags := 1, code := none }
def k7c1 : Code := { maxStack := 5, maxLocals := 2, code := jdk_42_method_3_code, exceptionTable := #[], attributes := #[] }
def k7m1 : Method := { name := "<init>", desc := "([C)V", sig := { parameters := [(.array .char)], returnType := none }, accessFlags := 1, code := some k7c1 }
def k7c2 : Code := { maxStack := 2, maxLocals := 1, code := jdk_42_method_54_code, exceptionTable := #[], attributes := #[] }
def k7m2 : Method := { name := "length", desc := "()I", sig := { parameters := [], returnType := some .int }, accessFlags := 1, code := some k7c2 }
def k7c3 : Code := { maxStack := 2, maxLocals := 3, code := jdk_42_method_66_code, exceptionTable := #[], attributes := #[] }
def k7m3 : Method := { name := "equals", desc := "(Ljava/lang/Object;)Z", sig := { parameters := [(.object "java/lang/Object")], returnType := some .boolean }, accessFlags := 1, code := some k7c3 }
def k7c4 : Code := { maxStack := 6, maxLocals := 8, code := jdk_42_method_73_code, exceptionTable := #[], attributes := #[] }
def k7m4 : Method := { name := "regionMatches", desc := "(ILjava/lang/String;II)Z", sig := { parameters := [.int, (.object "java/lang/String"), .int, .int], returnType := some .boolean }, accessFlags := 1, code := some k7c4 }
def k7c5 : Code := { maxStack := 4, maxLocals := 2, code := jdk_42_method_82_code, exceptionTable := #[], attributes := #[] }
def k7m5 : Method := { name := "lastIndexOf", desc := "(I)I", sig := { parameters := [.int], returnType := some .int }, accessFlags := 1, code := some k7c5 }
def k7c6 : Code := { maxStack := 3, maxLocals := 3, code := jdk_42_method_83_code, exceptionTable := #[], attributes := #[] }
def k7m6 : Method := { name := "lastIndexOf", desc := "(II)I", sig := { parameters := [.int, .int], returnType := some .int }, accessFlags := 1, code := some k7c6 }
def k7c7 : Code := { maxStack := 4, maxLocals := 6, code := jdk_42_method_149_code, exceptionTable := #[], attributes := #[] }
def k7m7 : Method := { name := "<init>", desc := "([CIILjava/lang/Void;)V", sig := { parameters := [(.array .char), .int, .int, (.object "java/lang/Void")], returnType := none }, accessFlags := 2, code := some k7c7 }
def k7c8 : Code := { maxStack := 1, maxLocals := 1, code := jdk_42_method_152_code, exceptionTable := #[], attributes := #[] }
def k7m8 : Method := { name := "coder", desc := "()B", sig := { parameters := [], returnType := some .byte }, accessFlags := 0, code := some k7c8 }
def k7c9 : Code := { maxStack := 1, maxLocals := 1, code := jdk_42_method_154_code, exceptionTable := #[], attributes := #[] }
def k7m9 : Method := { name := "isLatin1", desc := "()Z", sig := { parameters := [], returnType := some .boolean }, accessFlags := 0, code := some k7c9 }
/-- java/lang/String -/
def k7 : Class := { plain "java/lang/String" (some 0) with
  accessFlags := 49
  interfaces := #[2, 3, 4, 5, 6]
  cf := some (fileOf pool7 10 #[.nestMembers #[1103]] #[{ accessFlags := 1, nameIndex := 5, descriptorIndex := 6, attributes := #[] }, { accessFlags := 1, nameIndex := 5, descriptorIndex := 1010, attributes := #[] }, { accessFlags := 1, nameIndex := 507, descriptorIndex := 334, attributes := #[] }, { accessFlags := 1, nameIndex := 543, descriptorIndex := 573, attributes := #[] }, { accessFlags := 1, nameIndex := 584, descriptorIndex := 612, attributes := #[] }, { accessFlags := 1, nameIndex := 643, descriptorIndex := 765, attributes := #[] }, { accessFlags := 1, nameIndex := 643, descriptorIndex := 636, attributes := #[] }, { accessFlags := 2, nameIndex := 5, descriptorIndex := 29, attributes := #[] }, { accessFlags := 0, nameIndex := 17, descriptorIndex := 337, attributes := #[] }, { accessFlags := 0, nameIndex := 494, descriptorIndex := 142, attributes := #[] }] 49 2 #[1106, 1108, 575, 1110, 1112] #[{ accessFlags := 18, nameIndex := 13, descriptorIndex := 14, attributes := #[] }, { accessFlags := 18, nameIndex := 17, descriptorIndex := 18, attributes := #[] }, { accessFlags := 2, nameIndex := 21, descriptorIndex := 22, attributes := #[] }, { accessFlags := 2, nameIndex := 25, descriptorIndex := 26, attributes := #[] }, { accessFlags := 26, nameIndex := 1116, descriptorIndex := 1117, attributes := #[] }, { accessFlags := 24, nameIndex := 40, descriptorIndex := 26, attributes := #[] }, { accessFlags := 26, nameIndex := 1101, descriptorIndex := 1102, attributes := #[] }, { accessFlags := 26, nameIndex := 1121, descriptorIndex := 1122, attributes := #[] }, { accessFlags := 25, nameIndex := 599, descriptorIndex := 600, attributes := #[] }, { accessFlags := 24, nameIndex := 1125, descriptorIndex := 18, attributes := #[] }, { accessFlags := 24, nameIndex := 1127, descriptorIndex := 18, attributes := #[] }])
  fields := #[{ name := "value", type := (.array .byte), accessFlags := 18, slot := 0, constantValue := 0 }, { name := "coder", type := .byte, accessFlags := 18, slot := 1, constantValue := 0 }, { name := "hash", type := .int, accessFlags := 2, slot := 2, constantValue := 0 }, { name := "hashIsZero", type := .boolean, accessFlags := 2, slot := 3, constantValue := 0 }, { name := "serialVersionUID", type := .long, accessFlags := 26, slot := 0, constantValue := 0 }, { name := "COMPACT_STRINGS", type := .boolean, accessFlags := 24, slot := 1, constantValue := 0 }, { name := "serialPersistentFields", type := (.array (.object "java/io/ObjectStreamField")), accessFlags := 26, slot := 2, constantValue := 0 }, { name := "REPL", type := .char, accessFlags := 26, slot := 3, constantValue := 0 }, { name := "CASE_INSENSITIVE_ORDER", type := (.object "java/util/Comparator"), accessFlags := 25, slot := 4, constantValue := 0 }, { name := "LATIN1", type := .byte, accessFlags := 24, slot := 5, constantValue := 0 }, { name := "UTF16", type := .byte, accessFlags := 24, slot := 6, constantValue := 0 }]
  methods := #[k7m0, k7m1, k7m2, k7m3, k7m4, k7m5, k7m6, k7m7, k7m8, k7m9]
  instanceTypes := #[(.array .byte), .byte, .int, .boolean]
  staticTypes := #[.long, .boolean, (.array (.object "java/io/ObjectStreamField")), .char, (.object "java/util/Comparator"), .byte, .byte]
  resolved := Array.replicate 1451 none
  statics := some 0 }

def pool8 : Array CpInfo := pool [(2, .class_ 4), (1, u "java/lang/Object"), (0, u "<init>"), (0, u "()V"), (11, .class_ 20), (1, u "com/example/grapple/grapple/internal/OwnerIds"), (0, u "clientId"), (0, u "Ljava/lang/String;"), (5, u "grants"), (0, u "Ljava/util/concurrent/atomic/AtomicLong;"), (17, .methodref 48 49), (0, .class_ 50), (0, .nameAndType 51 52), (0, u "java/lang/String"), (0, u "lastIndexOf"), (0, u "(I)I"), (0, .methodref 48 54), (0, .nameAndType 55 56), (0, u "equals"), (0, u "(Ljava/lang/Object;)Z"), (0, .methodref 48 58), (0, .nameAndType 59 60), (0, u "regionMatches"), (0, u "(ILjava/lang/String;II)Z"), (3, u "sameHolder"), (0, u "(Ljava/lang/String;Ljava/lang/String;)Z")] 18

def k8m0 : Method := { name := "<init>", desc := "()V", sig := { parameters := [], returnType := none }, accessFlags := 0, code := none }
def k8c1 : Code := { maxStack := 5, maxLocals := 3, code := prog_4_method_3_code, exceptionTable := #[], attributes := #[] }
def k8m1 : Method := { name := "sameHolder", desc := "(Ljava/lang/String;Ljava/lang/String;)Z", sig := { parameters := [(.object "java/lang/String"), (.object "java/lang/String")], returnType := some .boolean }, accessFlags := 8, code := some k8c1 }
/-- com/example/grapple/grapple/internal/OwnerIds -/
def k8 : Class := { plain "com/example/grapple/grapple/internal/OwnerIds" (some 0) with
  accessFlags := 48
  interfaces := #[]
  cf := some (fileOf pool8 18 #[] #[{ accessFlags := 0, nameIndex := 5, descriptorIndex := 6, attributes := #[] }, { accessFlags := 8, nameIndex := 64, descriptorIndex := 65, attributes := #[] }] 48 2 #[] #[{ accessFlags := 18, nameIndex := 21, descriptorIndex := 22, attributes := #[] }, { accessFlags := 18, nameIndex := 28, descriptorIndex := 29, attributes := #[] }])
  fields := #[{ name := "clientId", type := (.object "java/lang/String"), accessFlags := 18, slot := 0, constantValue := 0 }, { name := "grants", type := (.object "java/util/concurrent/atomic/AtomicLong"), accessFlags := 18, slot := 1, constantValue := 0 }]
  methods := #[k8m0, k8m1]
  instanceTypes := #[(.object "java/lang/String"), (.object "java/util/concurrent/atomic/AtomicLong")]
  staticTypes := #[]
  resolved := Array.replicate 84 none
  statics := none }

def pool9 : Array CpInfo := pool [(4, .class_ 6), (1, u "java/lang/Object"), (0, u "<init>"), (0, u "()V"), (5, .class_ 16), (1, u "java/lang/StringLatin1"), (21, .methodref 39 40), (0, .class_ 41), (0, .nameAndType 42 43), (0, u "java/lang/Math"), (0, u "min"), (0, u "(II)I"), (44, .methodref 14 89), (0, .nameAndType 90 91), (0, u "canEncode"), (0, u "(I)Z"), (29, u "$assertionsDisabled"), (0, u "Z"), (98, .class_ 223), (1, u "java/lang/StringLatin1$LinesSpliterator"), (37, u "([BII)I"), (19, u "equals"), (0, u "([B[B)Z"), (26, u "lastIndexOf"), (80, .class_ 391), (0, u "java/lang/StringLatin1$CharsSpliterator")] 3

def k9m0 : Method := { name := "<init>", desc := "()V", sig := { parameters := [], returnType := none }, accessFlags := 0, code := none }
def k9c1 : Code := { maxStack := 2, maxLocals := 1, code := jdk_43_method_4_code, exceptionTable := #[], attributes := #[] }
def k9m1 : Method := { name := "canEncode", desc := "(I)Z", sig := { parameters := [.int], returnType := some .boolean }, accessFlags := 9, code := some k9c1 }
def k9c2 : Code := { maxStack := 3, maxLocals := 3, code := jdk_43_method_13_code, exceptionTable := #[], attributes := #[] }
def k9m2 : Method := { name := "equals", desc := "([B[B)Z", sig := { parameters := [(.array .byte), (.array .byte)], returnType := some .boolean }, accessFlags := 9, code := some k9c2 }
def k9c3 : Code := { maxStack := 3, maxLocals := 4, code := jdk_43_method_27_code, exceptionTable := #[], attributes := #[] }
def k9m3 : Method := { name := "lastIndexOf", desc := "([BII)I", sig := { parameters := [(.array .byte), .int, .int], returnType := some .int }, accessFlags := 9, code := some k9c3 }
/-- java/lang/StringLatin1 -/
def k9 : Class := { plain "java/lang/StringLatin1" (some 0) with
  accessFlags := 48
  interfaces := #[]
  cf := some (fileOf pool9 14 #[.nestMembers #[390, 221]] #[{ accessFlags := 0, nameIndex := 7, descriptorIndex := 8, attributes := #[] }, { accessFlags := 9, nameIndex := 90, descriptorIndex := 91, attributes := #[] }, { accessFlags := 9, nameIndex := 281, descriptorIndex := 282, attributes := #[] }, { accessFlags := 9, nameIndex := 309, descriptorIndex := 261, attributes := #[] }] 48 4 #[] #[{ accessFlags := 4120, nameIndex := 121, descriptorIndex := 122, attributes := #[] }])
  fields := #[{ name := "$assertionsDisabled", type := .boolean, accessFlags := 4120, slot := 0, constantValue := 0 }]
  methods := #[k9m0, k9m1, k9m2, k9m3]
  instanceTypes := #[]
  staticTypes := #[.boolean]
  resolved := Array.replicate 395 none
  statics := none }

def pool10 : Array CpInfo := pool [(1, .class_ 2), (0, u "java/lang/Math"), (1, .class_ 6), (1, u "java/lang/Object"), (0, u "<init>"), (0, u "()V"), (89, .class_ 100), (1, u "java/lang/Math$RandomNumberGeneratorHolder"), (71, u "negativeZeroFloatBits"), (0, u "J"), (2, u "negativeZeroDoubleBits"), (24, u "min"), (43, u "$assertionsDisabled"), (0, u "Z"), (88, u "(II)I"), (2, u "twoToTheDoubleScaleDown"), (0, u "D"), (4, u "twoToTheDoubleScaleUp"), (9, u "E"), (3, u "PI"), (2, u "TAU"), (2, u "DEGREES_TO_RADIANS"), (0, u "RADIANS_TO_DEGREES")] 94

def k10m0 : Method := { name := "<init>", desc := "()V", sig := { parameters := [], returnType := none }, accessFlags := 2, code := none }
def k10c1 : Code := { maxStack := 2, maxLocals := 2, code := jdk_29_method_69_code, exceptionTable := #[], attributes := #[] }
def k10m1 : Method := { name := "min", desc := "(II)I", sig := { parameters := [.int, .int], returnType := some .int }, accessFlags := 9, code := some k10c1 }
/-- java/lang/Math -/
def k10 : Class := { plain "java/lang/Math" (some 0) with
  accessFlags := 49
  interfaces := #[]
  cf := some (fileOf pool10 1 #[.nestMembers #[98]] #[{ accessFlags := 2, nameIndex := 7, descriptorIndex := 8, attributes := #[] }, { accessFlags := 9, nameIndex := 201, descriptorIndex := 335, attributes := #[] }] 49 4 #[] #[{ accessFlags := 25, nameIndex := 354, descriptorIndex := 339, attributes := #[] }, { accessFlags := 25, nameIndex := 358, descriptorIndex := 339, attributes := #[] }, { accessFlags := 25, nameIndex := 361, descriptorIndex := 339, attributes := #[] }, { accessFlags := 26, nameIndex := 364, descriptorIndex := 339, attributes := #[] }, { accessFlags := 26, nameIndex := 365, descriptorIndex := 339, attributes := #[] }, { accessFlags := 26, nameIndex := 172, descriptorIndex := 173, attributes := #[] }, { accessFlags := 26, nameIndex := 176, descriptorIndex := 173, attributes := #[] }, { accessFlags := 8, nameIndex := 344, descriptorIndex := 339, attributes := #[] }, { accessFlags := 8, nameIndex := 338, descriptorIndex := 339, attributes := #[] }, { accessFlags := 4120, nameIndex := 245, descriptorIndex := 246, attributes := #[] }])
  fields := #[{ name := "E", type := .double, accessFlags := 25, slot := 0, constantValue := 0 }, { name := "PI", type := .double, accessFlags := 25, slot := 1, constantValue := 0 }, { name := "TAU", type := .double, accessFlags := 25, slot := 2, constantValue := 0 }, { name := "DEGREES_TO_RADIANS", type := .double, accessFlags := 26, slot := 3, constantValue := 0 }, { name := "RADIANS_TO_DEGREES", type := .double, accessFlags := 26, slot := 4, constantValue := 0 }, { name := "negativeZeroFloatBits", type := .long, accessFlags := 26, slot := 5, constantValue := 0 }, { name := "negativeZeroDoubleBits", type := .long, accessFlags := 26, slot := 6, constantValue := 0 }, { name := "twoToTheDoubleScaleUp", type := .double, accessFlags := 8, slot := 7, constantValue := 0 }, { name := "twoToTheDoubleScaleDown", type := .double, accessFlags := 8, slot := 8, constantValue := 0 }, { name := "$assertionsDisabled", type := .boolean, accessFlags := 4120, slot := 9, constantValue := 0 }]
  methods := #[k10m0, k10m1]
  instanceTypes := #[]
  staticTypes := #[.double, .double, .double, .double, .double, .long, .long, .double, .double, .boolean]
  resolved := Array.replicate 460 none
  statics := none }

def pool11 : Array CpInfo := pool [(6, .class_ 8), (1, u "java/lang/Object"), (0, u "<init>"), (0, u "()V"), (1, .class_ 14), (1, u "java/lang/StringUTF16"), (31, u "$assertionsDisabled"), (0, u "Z"), (13, u "HI_BYTE_SHIFT"), (0, u "I"), (2, u "LO_BYTE_SHIFT"), (49, .methodref 12 116), (0, .nameAndType 117 118), (0, u "compress"), (0, u "([CI[BII)I"), (3, u "([CII)[B"), (138, u "coderFromArrayLen"), (0, u "([BI)B"), (106, .class_ 371), (1, u "java/lang/StringUTF16$LinesSpliterator"), (58, u "MAX_LENGTH"), (196, .class_ 628), (0, u "java/lang/StringUTF16$CodePointsSpliterator"), (0, .class_ 630), (0, u "java/lang/StringUTF16$CharsSpliterator")] 4

def k11m0 : Method := { name := "<init>", desc := "()V", sig := { parameters := [], returnType := none }, accessFlags := 0, code := none }
def k11c1 : Code := { maxStack := 2, maxLocals := 2, code := jdk_52_method_15_code, exceptionTable := #[], attributes := #[] }
def k11m1 : Method := { name := "coderFromArrayLen", desc := "([BI)B", sig := { parameters := [(.array .byte), .int], returnType := some .byte }, accessFlags := 8, code := some k11c1 }
def k11c2 : Code := { maxStack := 5, maxLocals := 6, code := jdk_52_method_16_code, exceptionTable := #[], attributes := #[] }
def k11m2 : Method := { name := "compress", desc := "([CII)[B", sig := { parameters := [(.array .char), .int, .int], returnType := some (.array .byte) }, accessFlags := 9, code := some k11c2 }
def k11c3 : Code := { maxStack := 3, maxLocals := 7, code := jdk_52_method_21_code, exceptionTable := #[], attributes := #[] }
def k11m3 : Method := { name := "compress", desc := "([CI[BII)I", sig := { parameters := [(.array .char), .int, (.array .byte), .int, .int], returnType := some .int }, accessFlags := 9, code := some k11c3 }
/-- java/lang/StringUTF16 -/
def k11 : Class := { plain "java/lang/StringUTF16" (some 0) with
  accessFlags := 48
  interfaces := #[]
  cf := some (fileOf pool11 12 #[.nestMembers #[627, 629, 369]] #[{ accessFlags := 0, nameIndex := 9, descriptorIndex := 10, attributes := #[] }, { accessFlags := 8, nameIndex := 261, descriptorIndex := 262, attributes := #[] }, { accessFlags := 9, nameIndex := 117, descriptorIndex := 122, attributes := #[] }, { accessFlags := 9, nameIndex := 117, descriptorIndex := 118, attributes := #[] }] 48 6 #[] #[{ accessFlags := 26, nameIndex := 61, descriptorIndex := 62, attributes := #[] }, { accessFlags := 26, nameIndex := 65, descriptorIndex := 62, attributes := #[] }, { accessFlags := 24, nameIndex := 430, descriptorIndex := 62, attributes := #[] }, { accessFlags := 4120, nameIndex := 46, descriptorIndex := 47, attributes := #[] }])
  fields := #[{ name := "HI_BYTE_SHIFT", type := .int, accessFlags := 26, slot := 0, constantValue := 0 }, { name := "LO_BYTE_SHIFT", type := .int, accessFlags := 26, slot := 1, constantValue := 0 }, { name := "MAX_LENGTH", type := .int, accessFlags := 24, slot := 2, constantValue := 0 }, { name := "$assertionsDisabled", type := .boolean, accessFlags := 4120, slot := 3, constantValue := 0 }]
  methods := #[k11m0, k11m1, k11m2, k11m3]
  instanceTypes := #[]
  staticTypes := #[.int, .int, .int, .boolean]
  resolved := Array.replicate 635 none
  statics := none }

def pool12 : Array CpInfo := pool [(9, u "<init>"), (6, .class_ 18), (1, u "java/lang/Object"), (0, u "()V"), (1, .class_ 23), (1, u "jdk/internal/util/ArraysSupport"), (0, u "LOG2_ARRAY_LONG_INDEX_SCALE"), (0, u "I"), (2, u "U"), (0, u "Ljdk/internal/misc/Unsafe;"), (8, u "BIG_ENDIAN"), (0, u "Z"), (8, u "LOG2_BYTE_BIT_SIZE"), (4, u "LOG2_ARRAY_INT_INDEX_SCALE"), (54, u "JLA"), (0, u "Ljdk/internal/access/JavaLangAccess;"), (11, u "LOG2_ARRAY_BOOLEAN_INDEX_SCALE"), (9, u "LOG2_ARRAY_BYTE_INDEX_SCALE"), (5, u "LOG2_ARRAY_CHAR_INDEX_SCALE"), (5, u "LOG2_ARRAY_SHORT_INDEX_SCALE"), (5, u "mismatch"), (12, u "LOG2_ARRAY_FLOAT_INDEX_SCALE"), (24, u "LOG2_ARRAY_DOUBLE_INDEX_SCALE"), (89, u "T_BOOLEAN"), (2, u "T_CHAR"), (1, u "T_FLOAT"), (1, u "T_DOUBLE"), (1, u "T_BYTE"), (1, u "T_SHORT"), (1, u "T_INT"), (1, u "T_LONG"), (1, u "SOFT_MAX_ARRAY_LENGTH"), (42, u "([BI[BII)I")] 40

def k12m0 : Method := { name := "<init>", desc := "()V", sig := { parameters := [], returnType := none }, accessFlags := 2, code := none }
def k12c1 : Code := { maxStack := 8, maxLocals := 8, code := jdk_48_method_14_code, exceptionTable := #[], attributes := #[] }
def k12m1 : Method := { name := "mismatch", desc := "([BI[BII)I", sig := { parameters := [(.array .byte), .int, (.array .byte), .int, .int], returnType := some .int }, accessFlags := 9, code := some k12c1 }
/-- jdk/internal/util/ArraysSupport -/
def k12 : Class := { plain "jdk/internal/util/ArraysSupport" (some 0) with
  accessFlags := 33
  interfaces := #[]
  cf := some (fileOf pool12 21 #[] #[{ accessFlags := 2, nameIndex := 9, descriptorIndex := 19, attributes := #[] }, { accessFlags := 9, nameIndex := 149, descriptorIndex := 337, attributes := #[] }] 33 16 #[] #[{ accessFlags := 24, nameIndex := 28, descriptorIndex := 29, attributes := #[] }, { accessFlags := 26, nameIndex := 38, descriptorIndex := 39, attributes := #[] }, { accessFlags := 25, nameIndex := 121, descriptorIndex := 25, attributes := #[] }, { accessFlags := 25, nameIndex := 131, descriptorIndex := 25, attributes := #[] }, { accessFlags := 25, nameIndex := 137, descriptorIndex := 25, attributes := #[] }, { accessFlags := 25, nameIndex := 143, descriptorIndex := 25, attributes := #[] }, { accessFlags := 25, nameIndex := 53, descriptorIndex := 25, attributes := #[] }, { accessFlags := 25, nameIndex := 24, descriptorIndex := 25, attributes := #[] }, { accessFlags := 25, nameIndex := 162, descriptorIndex := 25, attributes := #[] }, { accessFlags := 25, nameIndex := 187, descriptorIndex := 25, attributes := #[] }, { accessFlags := 26, nameIndex := 48, descriptorIndex := 25, attributes := #[] }, { accessFlags := 25, nameIndex := 277, descriptorIndex := 25, attributes := #[] }, { accessFlags := 25, nameIndex := 280, descriptorIndex := 25, attributes := #[] }, { accessFlags := 25, nameIndex := 282, descriptorIndex := 25, attributes := #[] }, { accessFlags := 25, nameIndex := 284, descriptorIndex := 25, attributes := #[] }, { accessFlags := 25, nameIndex := 286, descriptorIndex := 25, attributes := #[] }, { accessFlags := 25, nameIndex := 288, descriptorIndex := 25, attributes := #[] }, { accessFlags := 25, nameIndex := 290, descriptorIndex := 25, attributes := #[] }, { accessFlags := 25, nameIndex := 292, descriptorIndex := 25, attributes := #[] }, { accessFlags := 26, nameIndex := 108, descriptorIndex := 109, attributes := #[] }, { accessFlags := 25, nameIndex := 294, descriptorIndex := 25, attributes := #[] }])
  fields := #[{ name := "U", type := (.object "jdk/internal/misc/Unsafe"), accessFlags := 24, slot := 0, constantValue := 0 }, { name := "BIG_ENDIAN", type := .boolean, accessFlags := 26, slot := 1, constantValue := 0 }, { name := "LOG2_ARRAY_BOOLEAN_INDEX_SCALE", type := .int, accessFlags := 25, slot := 2, constantValue := 0 }, { name := "LOG2_ARRAY_BYTE_INDEX_SCALE", type := .int, accessFlags := 25, slot := 3, constantValue := 0 }, { name := "LOG2_ARRAY_CHAR_INDEX_SCALE", type := .int, accessFlags := 25, slot := 4, constantValue := 0 }, { name := "LOG2_ARRAY_SHORT_INDEX_SCALE", type := .int, accessFlags := 25, slot := 5, constantValue := 0 }, { name := "LOG2_ARRAY_INT_INDEX_SCALE", type := .int, accessFlags := 25, slot := 6, constantValue := 0 }, { name := "LOG2_ARRAY_LONG_INDEX_SCALE", type := .int, accessFlags := 25, slot := 7, constantValue := 0 }, { name := "LOG2_ARRAY_FLOAT_INDEX_SCALE", type := .int, accessFlags := 25, slot := 8, constantValue := 0 }, { name := "LOG2_ARRAY_DOUBLE_INDEX_SCALE", type := .int, accessFlags := 25, slot := 9, constantValue := 0 }, { name := "LOG2_BYTE_BIT_SIZE", type := .int, accessFlags := 26, slot := 10, constantValue := 0 }, { name := "T_BOOLEAN", type := .int, accessFlags := 25, slot := 11, constantValue := 0 }, { name := "T_CHAR", type := .int, accessFlags := 25, slot := 12, constantValue := 0 }, { name := "T_FLOAT", type := .int, accessFlags := 25, slot := 13, constantValue := 0 }, { name := "T_DOUBLE", type := .int, accessFlags := 25, slot := 14, constantValue := 0 }, { name := "T_BYTE", type := .int, accessFlags := 25, slot := 15, constantValue := 0 }, { name := "T_SHORT", type := .int, accessFlags := 25, slot := 16, constantValue := 0 }, { name := "T_INT", type := .int, accessFlags := 25, slot := 17, constantValue := 0 }, { name := "T_LONG", type := .int, accessFlags := 25, slot := 18, constantValue := 0 }, { name := "JLA", type := (.object "jdk/internal/access/JavaLangAccess"), accessFlags := 26, slot := 19, constantValue := 0 }, { name := "SOFT_MAX_ARRAY_LENGTH", type := .int, accessFlags := 25, slot := 20, constantValue := 0 }]
  methods := #[k12m0, k12m1]
  instanceTypes := #[]
  staticTypes := #[(.object "jdk/internal/misc/Unsafe"), .boolean, .int, .int, .int, .int, .int, .int, .int, .int, .int, .int, .int, .int, .int, .int, .int, .int, .int, (.object "jdk/internal/access/JavaLangAccess"), .int]
  resolved := Array.replicate 378 none
  statics := none }

def pool13 : Array CpInfo := pool [(2, .class_ 4), (1, u "java/lang/Object"), (0, u "<init>"), (0, u "()V"), (17, .class_ 26), (1, u "jdk/internal/util/Preconditions"), (28, .class_ 56), (0, u "jdk/internal/util/Preconditions$4"), (57, .class_ 115), (0, u "jdk/internal/util/Preconditions$1"), (7, u "SIOOBE_FORMATTER"), (0, u "Ljava/util/function/BiFunction;"), (0, .class_ 126), (0, u "jdk/internal/util/Preconditions$2"), (3, u "AIOOBE_FORMATTER"), (0, .class_ 132), (0, u "jdk/internal/util/Preconditions$3"), (3, u "IOOBE_FORMATTER")] 57

def k13m0 : Method := { name := "<init>", desc := "()V", sig := { parameters := [], returnType := none }, accessFlags := 1, code := none }
/-- jdk/internal/util/Preconditions -/
def k13 : Class := { plain "jdk/internal/util/Preconditions" (some 0) with
  accessFlags := 33
  interfaces := #[]
  cf := some (fileOf pool13 24 #[.nestMembers #[55, 131, 125, 114]] #[{ accessFlags := 1, nameIndex := 5, descriptorIndex := 6, attributes := #[] }] 33 2 #[] #[{ accessFlags := 25, nameIndex := 123, descriptorIndex := 124, attributes := #[] }, { accessFlags := 25, nameIndex := 130, descriptorIndex := 124, attributes := #[] }, { accessFlags := 25, nameIndex := 136, descriptorIndex := 124, attributes := #[] }])
  fields := #[{ name := "SIOOBE_FORMATTER", type := (.object "java/util/function/BiFunction"), accessFlags := 25, slot := 0, constantValue := 0 }, { name := "AIOOBE_FORMATTER", type := (.object "java/util/function/BiFunction"), accessFlags := 25, slot := 1, constantValue := 0 }, { name := "IOOBE_FORMATTER", type := (.object "java/util/function/BiFunction"), accessFlags := 25, slot := 2, constantValue := 0 }]
  methods := #[k13m0]
  instanceTypes := #[]
  staticTypes := #[(.object "java/util/function/BiFunction"), (.object "java/util/function/BiFunction"), (.object "java/util/function/BiFunction")]
  resolved := Array.replicate 194 none
  statics := some 1 }

def pool14 : Array CpInfo := pool [(1, u "java/lang/Cloneable"), (0, .class_ 1), (0, u "java/lang/Object"), (0, .class_ 3)] 3

/-- java/lang/Cloneable -/
def k14 : Class := { plain "java/lang/Cloneable" (some 0) with
  accessFlags := 1537
  interfaces := #[]
  cf := some (fileOf pool14 2 #[] #[] 1537 4 #[] #[])
  fields := #[]
  methods := #[]
  instanceTypes := #[]
  staticTypes := #[]
  resolved := Array.replicate 8 none
  statics := none }

/-- the primitive byte -/
def k15 : Class := { plain "byte" none with kind := .primitive 'B', accessFlags := 0x411 }
/-- [B -/
def k16 : Class := { plain "[B" (some 0) with kind := .array 15 .byte, interfaces := #[14, 2], accessFlags := 1041 }

/-- the primitive char -/
def k17 : Class := { plain "char" none with kind := .primitive 'C', accessFlags := 0x411 }
/-- [C -/
def k18 : Class := { plain "[C" (some 0) with kind := .array 17 .char, interfaces := #[14, 2], accessFlags := 1041 }

/-- the primitive int -/
def k19 : Class := { plain "int" none with kind := .primitive 'I', accessFlags := 0x411 }
/-- [I -/
def k20 : Class := { plain "[I" (some 0) with kind := .array 19 .int, interfaces := #[14, 2], accessFlags := 1041 }

def heap : Heap := #[{ cls := 7, slots := #[.long 0, .int 1, .null, .int 0, .null, .int 0, .int 0], vm := .statics 7 },
  { cls := 13, slots := #[.null, .null, .null], vm := .statics 13 }]
def classes : Array Class := #[k0, k1, k2, k3, k4, k5, k6, k7, k8, k9, k10, k11, k12, k13, k14, k15, k16, k17, k18, k19, k20]
def interned : List (Array UInt16 × Addr) := []
def slotsUsed : Nat := 10
def theMethod : MethodId := ⟨1, 4⟩
def args0 : Array Value := #[.int 10, .int 65, .int 66, .int 7]
def aboutOver (below : List Frame) : State where
  vm := { classes := classes, interned := interned.toArray }
  heap := heap
  slotsUsed := slotsUsed
  threads := #[{ frames := .invoking theMethod args0 :: below }]
def below0 : List Frame := [.native { method := ⟨0, 0⟩, args := #[] }]
def about1 : State := aboutOver below0
def p0 : Program := .bare "" "" ""
def e0 : Env := launch0.env 0 0 0
theorem w_frames : about1.frames = Frame.invoking theMethod args0 :: below0 := rfl
set_option maxRecDepth 65536 in
theorem w_args : argsFit about1.vm theMethod args0 = true := by decide +kernel
set_option maxRecDepth 65536 in
theorem w_heap : heapFits about1 = true := by decide +kernel
set_option maxRecDepth 65536 in
theorem w_runnable : about1.curStatus? = some .runnable := by decide +kernel
set_option maxRecDepth 65536 in
theorem w_alone : about1.alone = true := by decide +kernel
set_option maxRecDepth 65536 in
theorem w_named : about1.methodNamed? x = some theMethod := by decide +kernel
set_option maxRecDepth 65536 in
theorem w_hears : about1.hears theMethod below0 = true := by decide +kernel
set_option maxRecDepth 65536 in
theorem w_ripe : about1.ripe theMethod args0 below0 = true := by decide +kernel
theorem w_running : about1.status = .running := rfl
set_option maxRecDepth 65536 in
theorem w_room : about1.hasRoom e0.platform room_1 = true :=
  launch0.hasRoom_least _ room_1 (by decide +kernel) (by decide +kernel) (by decide +kernel) (by decide +kernel) (by decide +kernel) (by decide +kernel)
theorem allAtoms_all (ts : List Jvm.Cond) (a : Array Jvm.Value) (st : Jvm.State) : (allAtoms ts).before a st = ts.all (fun c => c.before a st) := by
  induction ts with
  | nil => rfl
  | cons c t ih =>
    show (Jvm.Cond.and c (allAtoms t)).before a st = _
    rw [Jvm.Cond.before_and, ih, List.all_cons]
def words1 : List Jvm.Cond := Jvm.Cond.code x code maxLocals ret :: tables_1
/-- a 'code' word, met by the world's own term for the bytes: nothing is compared byte by byte -/
theorem code_word {y : MethodName} {bytes : ByteArray} {mx : Nat} {rt : Option FieldType} {a : Array Value} {s : State} {m : MethodId} {meth : Method} {c : Code} (h1 : s.methodNamed? y = some m) (h2 : s.vm.method? m = some meth) (h3 : meth.code = some c) (h4 : c.code = bytes)
    (h5 : (c.maxLocals == mx && c.exceptionTable.isEmpty && decide (c.maxStack ≤ mostOperands) && decide (meth.sig.returnType = rt) && !meth.locks && decide (parseMethodDescriptor y.desc = some meth.sig)) = true) : (Jvm.Cond.code y bytes mx rt).before a s = true := by
  simp only [Bool.and_eq_true, beq_iff_eq, Bool.not_eq_true', decide_eq_true_eq] at h5
  obtain ⟨⟨⟨⟨⟨g1, g2⟩, g3⟩, g4⟩, g5⟩, g6⟩ := h5
  simp [Cond.before, Cond.holds, Cond.value, h1, h2, h3, h4, g1, g2, g3, g4, g5, g6]
def isCode : Jvm.Cond → Bool
  | .code _ _ _ _ => true
  | _ => false
theorem all_split {L : List Jvm.Cond} {P : Jvm.Cond → Bool} (h1 : L.all (fun c => isCode c || P c) = true) (h2 : ∀ c ∈ L.filter isCode, P c = true) : L.all P = true := by
  refine List.all_eq_true.mpr fun c hc => ?_
  have h := List.all_eq_true.mp h1 c hc
  rcases Bool.eq_false_or_eq_true (isCode c) with hi | hi
  · exact h2 c (List.mem_filter.mpr ⟨hc, hi⟩)
  · simpa [hi] using h
set_option maxRecDepth 65536 in
theorem w_c0 : (Jvm.Cond.code x code maxLocals ret).before args0 about1 = true := code_word (m := ⟨1, 4⟩) (meth := k1m4) (c := k1c4) (by decide +kernel) rfl rfl rfl (by decide +kernel)
set_option maxRecDepth 65536 in
theorem w_c1 : (Jvm.Cond.code ({ cls := "com/example/grapple/grapple/internal/OwnerIdsSameHolderPinLaw", name := "ch", desc := "(I)C" } : Jvm.MethodName) method_2_code (1 : Nat) (Option.some Jvm.ClassFile.FieldType.char)).before args0 about1 = true := code_word (m := ⟨1, 1⟩) (meth := k1m1) (c := k1c1) (by decide +kernel) rfl rfl rfl (by decide +kernel)
set_option maxRecDepth 65536 in
theorem w_c2 : (Jvm.Cond.code ({ cls := "com/example/grapple/grapple/internal/OwnerIdsSameHolderPinLaw", name := "make", desc := "(ICCC)[C" } : Jvm.MethodName) method_3_code (4 : Nat) (Option.some (Jvm.ClassFile.FieldType.array Jvm.ClassFile.FieldType.char))).before args0 about1 = true := code_word (m := ⟨1, 2⟩) (meth := k1m2) (c := k1c2) (by decide +kernel) rfl rfl rfl (by decide +kernel)
set_option maxRecDepth 65536 in
theorem w_c3 : (Jvm.Cond.code ({ cls := "java/lang/String", name := "<init>", desc := "([C)V" } : Jvm.MethodName) jdk_42_method_3_code (2 : Nat) (Option.none : Option Jvm.ClassFile.FieldType)).before args0 about1 = true := code_word (m := ⟨7, 1⟩) (meth := k7m1) (c := k7c1) (by decide +kernel) rfl rfl rfl (by decide +kernel)
set_option maxRecDepth 65536 in
theorem w_c4 : (Jvm.Cond.code ({ cls := "java/lang/String", name := "<init>", desc := "([CIILjava/lang/Void;)V" } : Jvm.MethodName) jdk_42_method_149_code (6 : Nat) (Option.none : Option Jvm.ClassFile.FieldType)).before args0 about1 = true := code_word (m := ⟨7, 7⟩) (meth := k7m7) (c := k7c7) (by decide +kernel) rfl rfl rfl (by decide +kernel)
set_option maxRecDepth 65536 in
theorem w_c5 : (Jvm.Cond.code ({ cls := "java/lang/Object", name := "<init>", desc := "()V" } : Jvm.MethodName) object_method_1_code (1 : Nat) (Option.none : Option Jvm.ClassFile.FieldType)).before args0 about1 = true := code_word (m := ⟨0, 0⟩) (meth := k0m0) (c := k0c0) (by decide +kernel) rfl rfl rfl (by decide +kernel)
set_option maxRecDepth 65536 in
theorem w_c6 : (Jvm.Cond.code ({ cls := "com/example/grapple/grapple/internal/OwnerIdsSameHolderPinLaw", name := "lastColon", desc := "(ICCC)I" } : Jvm.MethodName) method_4_code (4 : Nat) (Option.some Jvm.ClassFile.FieldType.int)).before args0 about1 = true := code_word (m := ⟨1, 3⟩) (meth := k1m3) (c := k1c3) (by decide +kernel) rfl rfl rfl (by decide +kernel)
set_option maxRecDepth 65536 in
theorem w_c7 : (Jvm.Cond.code ({ cls := "com/example/grapple/grapple/internal/OwnerIds", name := "sameHolder", desc := "(Ljava/lang/String;Ljava/lang/String;)Z" } : Jvm.MethodName) prog_4_method_3_code (3 : Nat) (Option.some Jvm.ClassFile.FieldType.boolean)).before args0 about1 = true := code_word (m := ⟨8, 1⟩) (meth := k8m1) (c := k8c1) (by decide +kernel) rfl rfl rfl (by decide +kernel)
set_option maxRecDepth 65536 in
theorem w_c8 : (Jvm.Cond.code ({ cls := "java/lang/String", name := "lastIndexOf", desc := "(I)I" } : Jvm.MethodName) jdk_42_method_82_code (2 : Nat) (Option.some Jvm.ClassFile.FieldType.int)).before args0 about1 = true := code_word (m := ⟨7, 5⟩) (meth := k7m5) (c := k7c5) (by decide +kernel) rfl rfl rfl (by decide +kernel)
set_option maxRecDepth 65536 in
theorem w_c9 : (Jvm.Cond.code ({ cls := "java/lang/String", name := "length", desc := "()I" } : Jvm.MethodName) jdk_42_method_54_code (1 : Nat) (Option.some Jvm.ClassFile.FieldType.int)).before args0 about1 = true := code_word (m := ⟨7, 2⟩) (meth := k7m2) (c := k7c2) (by decide +kernel) rfl rfl rfl (by decide +kernel)
set_option maxRecDepth 65536 in
theorem w_c10 : (Jvm.Cond.code ({ cls := "java/lang/String", name := "coder", desc := "()B" } : Jvm.MethodName) jdk_42_method_152_code (1 : Nat) (Option.some Jvm.ClassFile.FieldType.byte)).before args0 about1 = true := code_word (m := ⟨7, 8⟩) (meth := k7m8) (c := k7c8) (by decide +kernel) rfl rfl rfl (by decide +kernel)
set_option maxRecDepth 65536 in
theorem w_c11 : (Jvm.Cond.code ({ cls := "java/lang/String", name := "lastIndexOf", desc := "(II)I" } : Jvm.MethodName) jdk_42_method_83_code (3 : Nat) (Option.some Jvm.ClassFile.FieldType.int)).before args0 about1 = true := code_word (m := ⟨7, 6⟩) (meth := k7m6) (c := k7c6) (by decide +kernel) rfl rfl rfl (by decide +kernel)
set_option maxRecDepth 65536 in
theorem w_c12 : (Jvm.Cond.code ({ cls := "java/lang/String", name := "isLatin1", desc := "()Z" } : Jvm.MethodName) jdk_42_method_154_code (1 : Nat) (Option.some Jvm.ClassFile.FieldType.boolean)).before args0 about1 = true := code_word (m := ⟨7, 9⟩) (meth := k7m9) (c := k7c9) (by decide +kernel) rfl rfl rfl (by decide +kernel)
set_option maxRecDepth 65536 in
theorem w_c13 : (Jvm.Cond.code ({ cls := "java/lang/StringLatin1", name := "lastIndexOf", desc := "([BII)I" } : Jvm.MethodName) jdk_43_method_27_code (4 : Nat) (Option.some Jvm.ClassFile.FieldType.int)).before args0 about1 = true := code_word (m := ⟨9, 3⟩) (meth := k9m3) (c := k9c3) (by decide +kernel) rfl rfl rfl (by decide +kernel)
set_option maxRecDepth 65536 in
theorem w_c14 : (Jvm.Cond.code ({ cls := "java/lang/StringLatin1", name := "canEncode", desc := "(I)Z" } : Jvm.MethodName) jdk_43_method_4_code (1 : Nat) (Option.some Jvm.ClassFile.FieldType.boolean)).before args0 about1 = true := code_word (m := ⟨9, 1⟩) (meth := k9m1) (c := k9c1) (by decide +kernel) rfl rfl rfl (by decide +kernel)
set_option maxRecDepth 65536 in
theorem w_c15 : (Jvm.Cond.code ({ cls := "java/lang/Math", name := "min", desc := "(II)I" } : Jvm.MethodName) jdk_29_method_69_code (2 : Nat) (Option.some Jvm.ClassFile.FieldType.int)).before args0 about1 = true := code_word (m := ⟨10, 1⟩) (meth := k10m1) (c := k10c1) (by decide +kernel) rfl rfl rfl (by decide +kernel)
set_option maxRecDepth 65536 in
theorem w_c16 : (Jvm.Cond.code ({ cls := "java/lang/String", name := "equals", desc := "(Ljava/lang/Object;)Z" } : Jvm.MethodName) jdk_42_method_66_code (3 : Nat) (Option.some Jvm.ClassFile.FieldType.boolean)).before args0 about1 = true := code_word (m := ⟨7, 3⟩) (meth := k7m3) (c := k7c3) (by decide +kernel) rfl rfl rfl (by decide +kernel)
set_option maxRecDepth 65536 in
theorem w_c17 : (Jvm.Cond.code ({ cls := "java/lang/StringLatin1", name := "equals", desc := "([B[B)Z" } : Jvm.MethodName) jdk_43_method_13_code (3 : Nat) (Option.some Jvm.ClassFile.FieldType.boolean)).before args0 about1 = true := code_word (m := ⟨9, 2⟩) (meth := k9m2) (c := k9c2) (by decide +kernel) rfl rfl rfl (by decide +kernel)
set_option maxRecDepth 65536 in
theorem w_c18 : (Jvm.Cond.code ({ cls := "java/lang/StringUTF16", name := "compress", desc := "([CII)[B" } : Jvm.MethodName) jdk_52_method_16_code (6 : Nat) (Option.some (Jvm.ClassFile.FieldType.array Jvm.ClassFile.FieldType.byte))).before args0 about1 = true := code_word (m := ⟨11, 2⟩) (meth := k11m2) (c := k11c2) (by decide +kernel) rfl rfl rfl (by decide +kernel)
set_option maxRecDepth 65536 in
theorem w_c19 : (Jvm.Cond.code ({ cls := "java/lang/StringUTF16", name := "compress", desc := "([CI[BII)I" } : Jvm.MethodName) jdk_52_method_21_code (7 : Nat) (Option.some Jvm.ClassFile.FieldType.int)).before args0 about1 = true := code_word (m := ⟨11, 3⟩) (meth := k11m3) (c := k11c3) (by decide +kernel) rfl rfl rfl (by decide +kernel)
set_option maxRecDepth 65536 in
theorem w_c20 : (Jvm.Cond.code ({ cls := "java/lang/StringUTF16", name := "coderFromArrayLen", desc := "([BI)B" } : Jvm.MethodName) jdk_52_method_15_code (2 : Nat) (Option.some Jvm.ClassFile.FieldType.byte)).before args0 about1 = true := code_word (m := ⟨11, 1⟩) (meth := k11m1) (c := k11c1) (by decide +kernel) rfl rfl rfl (by decide +kernel)
set_option maxRecDepth 65536 in
theorem w_c21 : (Jvm.Cond.code ({ cls := "java/lang/String", name := "regionMatches", desc := "(ILjava/lang/String;II)Z" } : Jvm.MethodName) jdk_42_method_73_code (8 : Nat) (Option.some Jvm.ClassFile.FieldType.boolean)).before args0 about1 = true := code_word (m := ⟨7, 4⟩) (meth := k7m4) (c := k7c4) (by decide +kernel) rfl rfl rfl (by decide +kernel)
set_option maxRecDepth 65536 in
theorem w_c22 : (Jvm.Cond.code ({ cls := "jdk/internal/util/ArraysSupport", name := "mismatch", desc := "([BI[BII)I" } : Jvm.MethodName) jdk_48_method_14_code (8 : Nat) (Option.some Jvm.ClassFile.FieldType.int)).before args0 about1 = true := code_word (m := ⟨12, 1⟩) (meth := k12m1) (c := k12c1) (by decide +kernel) rfl rfl rfl (by decide +kernel)
def codes1 : List Jvm.Cond := [Jvm.Cond.code x code maxLocals ret, Jvm.Cond.code ({ cls := "com/example/grapple/grapple/internal/OwnerIdsSameHolderPinLaw", name := "ch", desc := "(I)C" } : Jvm.MethodName) method_2_code (1 : Nat) (Option.some Jvm.ClassFile.FieldType.char), Jvm.Cond.code ({ cls := "com/example/grapple/grapple/internal/OwnerIdsSameHolderPinLaw", name := "make", desc := "(ICCC)[C" } : Jvm.MethodName) method_3_code (4 : Nat) (Option.some (Jvm.ClassFile.FieldType.array Jvm.ClassFile.FieldType.char)), Jvm.Cond.code ({ cls := "java/lang/String", name := "<init>", desc := "([C)V" } : Jvm.MethodName) jdk_42_method_3_code (2 : Nat) (Option.none : Option Jvm.ClassFile.FieldType), Jvm.Cond.code ({ cls := "java/lang/String", name := "<init>", desc := "([CIILjava/lang/Void;)V" } : Jvm.MethodName) jdk_42_method_149_code (6 : Nat) (Option.none : Option Jvm.ClassFile.FieldType), Jvm.Cond.code ({ cls := "java/lang/Object", name := "<init>", desc := "()V" } : Jvm.MethodName) object_method_1_code (1 : Nat) (Option.none : Option Jvm.ClassFile.FieldType), Jvm.Cond.code ({ cls := "com/example/grapple/grapple/internal/OwnerIdsSameHolderPinLaw", name := "lastColon", desc := "(ICCC)I" } : Jvm.MethodName) method_4_code (4 : Nat) (Option.some Jvm.ClassFile.FieldType.int), Jvm.Cond.code ({ cls := "com/example/grapple/grapple/internal/OwnerIds", name := "sameHolder", desc := "(Ljava/lang/String;Ljava/lang/String;)Z" } : Jvm.MethodName) prog_4_method_3_code (3 : Nat) (Option.some Jvm.ClassFile.FieldType.boolean), Jvm.Cond.code ({ cls := "java/lang/String", name := "lastIndexOf", desc := "(I)I" } : Jvm.MethodName) jdk_42_method_82_code (2 : Nat) (Option.some Jvm.ClassFile.FieldType.int), Jvm.Cond.code ({ cls := "java/lang/String", name := "length", desc := "()I" } : Jvm.MethodName) jdk_42_method_54_code (1 : Nat) (Option.some Jvm.ClassFile.FieldType.int), Jvm.Cond.code ({ cls := "java/lang/String", name := "coder", desc := "()B" } : Jvm.MethodName) jdk_42_method_152_code (1 : Nat) (Option.some Jvm.ClassFile.FieldType.byte), Jvm.Cond.code ({ cls := "java/lang/String", name := "lastIndexOf", desc := "(II)I" } : Jvm.MethodName) jdk_42_method_83_code (3 : Nat) (Option.some Jvm.ClassFile.FieldType.int), Jvm.Cond.code ({ cls := "java/lang/String", name := "isLatin1", desc := "()Z" } : Jvm.MethodName) jdk_42_method_154_code (1 : Nat) (Option.some Jvm.ClassFile.FieldType.boolean), Jvm.Cond.code ({ cls := "java/lang/StringLatin1", name := "lastIndexOf", desc := "([BII)I" } : Jvm.MethodName) jdk_43_method_27_code (4 : Nat) (Option.some Jvm.ClassFile.FieldType.int), Jvm.Cond.code ({ cls := "java/lang/StringLatin1", name := "canEncode", desc := "(I)Z" } : Jvm.MethodName) jdk_43_method_4_code (1 : Nat) (Option.some Jvm.ClassFile.FieldType.boolean), Jvm.Cond.code ({ cls := "java/lang/Math", name := "min", desc := "(II)I" } : Jvm.MethodName) jdk_29_method_69_code (2 : Nat) (Option.some Jvm.ClassFile.FieldType.int), Jvm.Cond.code ({ cls := "java/lang/String", name := "equals", desc := "(Ljava/lang/Object;)Z" } : Jvm.MethodName) jdk_42_method_66_code (3 : Nat) (Option.some Jvm.ClassFile.FieldType.boolean), Jvm.Cond.code ({ cls := "java/lang/StringLatin1", name := "equals", desc := "([B[B)Z" } : Jvm.MethodName) jdk_43_method_13_code (3 : Nat) (Option.some Jvm.ClassFile.FieldType.boolean), Jvm.Cond.code ({ cls := "java/lang/StringUTF16", name := "compress", desc := "([CII)[B" } : Jvm.MethodName) jdk_52_method_16_code (6 : Nat) (Option.some (Jvm.ClassFile.FieldType.array Jvm.ClassFile.FieldType.byte)), Jvm.Cond.code ({ cls := "java/lang/StringUTF16", name := "compress", desc := "([CI[BII)I" } : Jvm.MethodName) jdk_52_method_21_code (7 : Nat) (Option.some Jvm.ClassFile.FieldType.int), Jvm.Cond.code ({ cls := "java/lang/StringUTF16", name := "coderFromArrayLen", desc := "([BI)B" } : Jvm.MethodName) jdk_52_method_15_code (2 : Nat) (Option.some Jvm.ClassFile.FieldType.byte), Jvm.Cond.code ({ cls := "java/lang/String", name := "regionMatches", desc := "(ILjava/lang/String;II)Z" } : Jvm.MethodName) jdk_42_method_73_code (8 : Nat) (Option.some Jvm.ClassFile.FieldType.boolean), Jvm.Cond.code ({ cls := "jdk/internal/util/ArraysSupport", name := "mismatch", desc := "([BI[BII)I" } : Jvm.MethodName) jdk_48_method_14_code (8 : Nat) (Option.some Jvm.ClassFile.FieldType.int)]
set_option maxRecDepth 65536 in
theorem codes_eq : words1.filter isCode = codes1 := rfl
theorem w_codes : ∀ c ∈ words1.filter isCode, c.before args0 about1 = true := by
  rw [codes_eq]
  intro c hc
  simp only [codes1, List.mem_cons, List.not_mem_nil, or_false] at hc
  rcases hc with rfl | rfl | rfl | rfl | rfl | rfl | rfl | rfl | rfl | rfl | rfl | rfl | rfl | rfl | rfl | rfl | rfl | rfl | rfl | rfl | rfl | rfl | rfl
  · exact w_c0
  · exact w_c1
  · exact w_c2
  · exact w_c3
  · exact w_c4
  · exact w_c5
  · exact w_c6
  · exact w_c7
  · exact w_c8
  · exact w_c9
  · exact w_c10
  · exact w_c11
  · exact w_c12
  · exact w_c13
  · exact w_c14
  · exact w_c15
  · exact w_c16
  · exact w_c17
  · exact w_c18
  · exact w_c19
  · exact w_c20
  · exact w_c21
  · exact w_c22
set_option maxRecDepth 65536 in
theorem w_t1 : (words1.take 24).all (fun c => isCode c || c.before args0 about1) = true := by decide +kernel
set_option maxRecDepth 65536 in
theorem w_t2 : ((words1.drop 24).take 24).all (fun c => isCode c || c.before args0 about1) = true := by decide +kernel
set_option maxRecDepth 65536 in
theorem w_t3 : (((words1.drop 24).drop 24).take 24).all (fun c => isCode c || c.before args0 about1) = true := by decide +kernel
set_option maxRecDepth 65536 in
theorem w_t4 : ((((words1.drop 24).drop 24).drop 24).take 24).all (fun c => isCode c || c.before args0 about1) = true := by decide +kernel
set_option maxRecDepth 65536 in
theorem w_t5 : ((((words1.drop 24).drop 24).drop 24).drop 24).all (fun c => isCode c || c.before args0 about1) = true := by decide +kernel
theorem w_tables : (allAtoms (Jvm.Cond.code x code maxLocals ret :: tables_1)).before args0 about1 = true := by
  rw [allAtoms_all]
  show words1.all (fun c => c.before args0 about1) = true
  refine all_split ?_ w_codes
  rw [← List.take_append_drop 24 words1, List.all_append, w_t1, ← List.take_append_drop 24 (words1.drop 24), List.all_append, w_t2, ← List.take_append_drop 24 ((words1.drop 24).drop 24), List.all_append, w_t3, ← List.take_append_drop 24 (((words1.drop 24).drop 24).drop 24), List.all_append, w_t4, w_t5]
  rfl
set_option maxRecDepth 65536 in
theorem w_rest : rest_1_c.before args0 about1 = true := by decide +kernel
set_option maxRecDepth 65536 in
theorem w_case : (Jvm.Cond.and given_1 narrow_1).before args0 about1 = true := by decide +kernel
set_option maxRecDepth 65536 in
theorem w_consts : constsHeld consts_1 about1 := Jvm.Lit.constsHeldB_iff.mp (by decide +kernel)
theorem w_applies : (headSpec (Jvm.Cond.code x code maxLocals ret :: tables_1) room_1).applies x e0.platform about1 = true :=
  (Spec.applies_iff w_frames).mpr ⟨w_running, w_runnable, w_alone, w_named, w_hears, w_ripe, w_room, w_tables⟩
theorem atStart : AtStart classFile x code maxLocals ret World_1 tables_1 room_1 Calls_1 rest_1 Pre_1 launch0 p0 e0 about1 theMethod args0 below0 :=
  ⟨lists_1, trivial, launch0.admits_env _ _ _, launch0.least_env, fairChoices_fair.cas, fairChoices_fair.clock, w_frames, w_args, w_heap, w_applies, ⟨w_consts, trivial⟩, w_rest, w_case⟩
end start1
theorem witness_1 : WitnessClaimed_1 := ⟨start1.p0, start1.e0, start1.about1, start1.theMethod, start1.args0, start1.below0, start1.atStart⟩
end Jvm.Pilot.@@N@@
