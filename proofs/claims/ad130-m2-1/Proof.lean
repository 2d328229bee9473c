import JvmDerived
import JvmDerived.Pilot.@@N@@Statement
import JvmDerived.Pilot.@@N@@Code
set_option linter.unusedVariables false
set_option linter.unusedSimpArgs false
namespace Jvm.Pilot.@@N@@
open Jvm Jvm.ClassFile Sem Op Lib Jvm.Free Jvm.Stand Jvm.LawKit Jvm.RoadKit Bundle Jvm.Pilot.@@N@@.Jvm.D
section OwnBase
def Gets (tb : Tables) (e : Env) (below : List Frame) (P : Outcome → State → Prop) (T : State) (g : JFrame) : Prop := ∃ t o, Steps tb e below (T.setTop g) t ∧ t.status = .running ∧ Ended t below o ∧ P o t
theorem Gets.by {tb : Tables} {e : Env} {below : List Frame} {P : Outcome → State → Prop} {T T' : State} {g g' : JFrame} (h : Gets tb e below P T' g') (k : ∀ t, Steps tb e below (T'.setTop g') t → Steps tb e below (T.setTop g) t) : Gets tb e below P T g := by
  obtain ⟨t, o, h1, h2⟩ := h
  exact ⟨t, o, k t h1, h2⟩
theorem g_iloadN {tb : Tables} [Ours tb] {e : Env} {below : List Frame} {T : State} {m : MethodId} {c : Code} {P : Outcome → State → Prop} {pc pc' : Nat} {Ls : Array Slot} {st : List Value} {j : Fin 4} {v : Int32} (H : At T m c below) (hx : tb.exec = Jvm.exec) (hd : decode c.code pc = .ok (.iload_n j, 1)) (hl : Ls[j.val]? = some (.val (.int v))) (hp : pc + 1 = pc')
    (k : Gets tb e below P T (mkF m pc' Ls (.int v :: st))) : Gets tb e below P T (mkF m pc Ls (st)) := by
  subst hp; refine k.by fun t qq => ?_; exact XS.iloadN H hx rfl hd hl qq
theorem g_iload {tb : Tables} [Ours tb] {e : Env} {below : List Frame} {T : State} {m : MethodId} {c : Code} {P : Outcome → State → Prop} {pc pc' : Nat} {Ls : Array Slot} {st : List Value} {j : Nat} {v : Int32} (H : At T m c below) (hx : tb.exec = Jvm.exec) (hd : decode c.code pc = .ok (.iload j, 2)) (hl : Ls[j]? = some (.val (.int v))) (hp : pc + 2 = pc')
    (k : Gets tb e below P T (mkF m pc' Ls (.int v :: st))) : Gets tb e below P T (mkF m pc Ls (st)) := by
  subst hp; refine k.by fun t qq => ?_; exact XS.iload H hx rfl hd hl qq
theorem g_istoreN {tb : Tables} [Ours tb] {e : Env} {below : List Frame} {T : State} {m : MethodId} {c : Code} {P : Outcome → State → Prop} {pc pc' : Nat} {Ls : Array Slot} {st : List Value} {j : Fin 4} {v : Int32} {Ls' : Array Slot} (H : At T m c below) (hx : tb.exec = Jvm.exec) (hd : decode c.code pc = .ok (.istore_n j, 1)) (hl : storeLocals Ls j.val (.int v) = some Ls') (hp : pc + 1 = pc')
    (k : Gets tb e below P T (mkF m pc' Ls' (st))) : Gets tb e below P T (mkF m pc Ls (.int v :: st)) := by
  subst hp; refine k.by fun t qq => ?_; exact XS.istoreN H hx rfl hd rfl hl qq
theorem g_istore {tb : Tables} [Ours tb] {e : Env} {below : List Frame} {T : State} {m : MethodId} {c : Code} {P : Outcome → State → Prop} {pc pc' : Nat} {Ls : Array Slot} {st : List Value} {j : Nat} {v : Int32} {Ls' : Array Slot} (H : At T m c below) (hx : tb.exec = Jvm.exec) (hd : decode c.code pc = .ok (.istore j, 2)) (hl : storeLocals Ls j (.int v) = some Ls') (hp : pc + 2 = pc')
    (k : Gets tb e below P T (mkF m pc' Ls' (st))) : Gets tb e below P T (mkF m pc Ls (.int v :: st)) := by
  subst hp; refine k.by fun t qq => ?_; exact XS.istore H hx rfl hd rfl hl qq
theorem g_lloadN {tb : Tables} [Ours tb] {e : Env} {below : List Frame} {T : State} {m : MethodId} {c : Code} {P : Outcome → State → Prop} {pc pc' : Nat} {Ls : Array Slot} {st : List Value} {j : Fin 4} {v : Int64} (H : At T m c below) (hx : tb.exec = Jvm.exec) (hd : decode c.code pc = .ok (.lload_n j, 1)) (hl : Ls[j.val]? = some (.val (.long v))) (hp : pc + 1 = pc')
    (k : Gets tb e below P T (mkF m pc' Ls (.long v :: st))) : Gets tb e below P T (mkF m pc Ls (st)) := by
  subst hp; refine k.by fun t qq => ?_; exact XS.lloadN H hx rfl hd hl qq
theorem g_lload {tb : Tables} [Ours tb] {e : Env} {below : List Frame} {T : State} {m : MethodId} {c : Code} {P : Outcome → State → Prop} {pc pc' : Nat} {Ls : Array Slot} {st : List Value} {j : Nat} {v : Int64} (H : At T m c below) (hx : tb.exec = Jvm.exec) (hd : decode c.code pc = .ok (.lload j, 2)) (hl : Ls[j]? = some (.val (.long v))) (hp : pc + 2 = pc')
    (k : Gets tb e below P T (mkF m pc' Ls (.long v :: st))) : Gets tb e below P T (mkF m pc Ls (st)) := by
  subst hp; refine k.by fun t qq => ?_; exact XS.lload H hx rfl hd hl qq
theorem g_lstoreN {tb : Tables} [Ours tb] {e : Env} {below : List Frame} {T : State} {m : MethodId} {c : Code} {P : Outcome → State → Prop} {pc pc' : Nat} {Ls : Array Slot} {st : List Value} {j : Fin 4} {v : Int64} {Ls' : Array Slot} (H : At T m c below) (hx : tb.exec = Jvm.exec) (hd : decode c.code pc = .ok (.lstore_n j, 1)) (hl : storeLocals Ls j.val (.long v) = some Ls') (hp : pc + 1 = pc')
    (k : Gets tb e below P T (mkF m pc' Ls' (st))) : Gets tb e below P T (mkF m pc Ls (.long v :: st)) := by
  subst hp; refine k.by fun t qq => ?_; exact XS.lstoreN H hx rfl hd rfl hl qq
theorem g_lstore {tb : Tables} [Ours tb] {e : Env} {below : List Frame} {T : State} {m : MethodId} {c : Code} {P : Outcome → State → Prop} {pc pc' : Nat} {Ls : Array Slot} {st : List Value} {j : Nat} {v : Int64} {Ls' : Array Slot} (H : At T m c below) (hx : tb.exec = Jvm.exec) (hd : decode c.code pc = .ok (.lstore j, 2)) (hl : storeLocals Ls j (.long v) = some Ls') (hp : pc + 2 = pc')
    (k : Gets tb e below P T (mkF m pc' Ls' (st))) : Gets tb e below P T (mkF m pc Ls (.long v :: st)) := by
  subst hp; refine k.by fun t qq => ?_; exact XS.lstore H hx rfl hd rfl hl qq
theorem g_aloadN {tb : Tables} [Ours tb] {e : Env} {below : List Frame} {T : State} {m : MethodId} {c : Code} {P : Outcome → State → Prop} {pc pc' : Nat} {Ls : Array Slot} {st : List Value} {j : Fin 4} {v : Value} (H : At T m c below) (hx : tb.exec = Jvm.exec) (hd : decode c.code pc = .ok (.aload_n j, 1)) (hl : Ls[j.val]? = some (.val v)) (hv : v.isRef = true) (hp : pc + 1 = pc')
    (k : Gets tb e below P T (mkF m pc' Ls (v :: st))) : Gets tb e below P T (mkF m pc Ls (st)) := by
  subst hp; refine k.by fun t qq => ?_; exact XS.aloadN H hx rfl hd hl hv qq
theorem g_aload {tb : Tables} [Ours tb] {e : Env} {below : List Frame} {T : State} {m : MethodId} {c : Code} {P : Outcome → State → Prop} {pc pc' : Nat} {Ls : Array Slot} {st : List Value} {j : Nat} {v : Value} (H : At T m c below) (hx : tb.exec = Jvm.exec) (hd : decode c.code pc = .ok (.aload j, 2)) (hl : Ls[j]? = some (.val v)) (hv : v.isRef = true) (hp : pc + 2 = pc')
    (k : Gets tb e below P T (mkF m pc' Ls (v :: st))) : Gets tb e below P T (mkF m pc Ls (st)) := by
  subst hp; refine k.by fun t qq => ?_; exact XS.aload H hx rfl hd hl hv qq
theorem g_astoreN {tb : Tables} [Ours tb] {e : Env} {below : List Frame} {T : State} {m : MethodId} {c : Code} {P : Outcome → State → Prop} {pc pc' : Nat} {Ls : Array Slot} {st : List Value} {j : Fin 4} {v : Value} {Ls' : Array Slot} (H : At T m c below) (hx : tb.exec = Jvm.exec) (hd : decode c.code pc = .ok (.astore_n j, 1)) (hv : v.isRef = true) (hl : storeLocals Ls j.val v = some Ls') (hp : pc + 1 = pc')
    (k : Gets tb e below P T (mkF m pc' Ls' (st))) : Gets tb e below P T (mkF m pc Ls (v :: st)) := by
  subst hp; refine k.by fun t qq => ?_; exact XS.astoreN H hx rfl hd rfl hv hl qq
theorem g_astore {tb : Tables} [Ours tb] {e : Env} {below : List Frame} {T : State} {m : MethodId} {c : Code} {P : Outcome → State → Prop} {pc pc' : Nat} {Ls : Array Slot} {st : List Value} {j : Nat} {v : Value} {Ls' : Array Slot} (H : At T m c below) (hx : tb.exec = Jvm.exec) (hd : decode c.code pc = .ok (.astore j, 2)) (hv : v.isRef = true) (hl : storeLocals Ls j v = some Ls') (hp : pc + 2 = pc')
    (k : Gets tb e below P T (mkF m pc' Ls' (st))) : Gets tb e below P T (mkF m pc Ls (v :: st)) := by
  subst hp; refine k.by fun t qq => ?_; exact XS.astore H hx rfl hd rfl hv hl qq
theorem g_iconst {tb : Tables} [Ours tb] {e : Env} {below : List Frame} {T : State} {m : MethodId} {c : Code} {P : Outcome → State → Prop} {pc pc' : Nat} {Ls : Array Slot} {st : List Value} {i : Int} (v : Int32) (H : At T m c below) (hx : tb.exec = Jvm.exec) (hd : decode c.code pc = .ok (.iconst i, 1)) (hv : Int32.ofInt i = v) (hp : pc + 1 = pc')
    (k : Gets tb e below P T (mkF m pc' Ls (.int v :: st))) : Gets tb e below P T (mkF m pc Ls st) := by
  subst hp; subst hv; refine k.by fun t qq => ?_; exact XS.iconst H hx rfl hd qq
theorem g_bipush {tb : Tables} [Ours tb] {e : Env} {below : List Frame} {T : State} {m : MethodId} {c : Code} {P : Outcome → State → Prop} {pc pc' : Nat} {Ls : Array Slot} {st : List Value} {i : Int} (v : Int32) (H : At T m c below) (hx : tb.exec = Jvm.exec) (hd : decode c.code pc = .ok (.bipush i, 2)) (hv : (Int8.ofInt i).toInt32 = v) (hp : pc + 2 = pc')
    (k : Gets tb e below P T (mkF m pc' Ls (.int v :: st))) : Gets tb e below P T (mkF m pc Ls st) := by
  subst hp; subst hv; refine k.by fun t qq => ?_; exact XS.bipush H hx rfl hd qq
theorem g_sipush {tb : Tables} [Ours tb] {e : Env} {below : List Frame} {T : State} {m : MethodId} {c : Code} {P : Outcome → State → Prop} {pc pc' : Nat} {Ls : Array Slot} {st : List Value} {i : Int} (v : Int32) (H : At T m c below) (hx : tb.exec = Jvm.exec) (hd : decode c.code pc = .ok (.sipush i, 3)) (hv : (Int16.ofInt i).toInt32 = v) (hp : pc + 3 = pc')
    (k : Gets tb e below P T (mkF m pc' Ls (.int v :: st))) : Gets tb e below P T (mkF m pc Ls st) := by
  subst hp; subst hv; refine k.by fun t qq => ?_; exact XS.sipush H hx rfl hd qq
theorem g_aconstNull {tb : Tables} [Ours tb] {e : Env} {below : List Frame} {T : State} {m : MethodId} {c : Code} {P : Outcome → State → Prop} {pc pc' : Nat} {Ls : Array Slot} {st : List Value}  (H : At T m c below) (hx : tb.exec = Jvm.exec) (hd : decode c.code pc = .ok (.aconst_null, 1))  (hp : pc + 1 = pc')
    (k : Gets tb e below P T (mkF m pc' Ls (.null :: st))) : Gets tb e below P T (mkF m pc Ls (st)) := by
  subst hp; refine k.by fun t qq => ?_; exact XS.aconstNull H hx rfl hd  qq
theorem g_iadd {tb : Tables} [Ours tb] {e : Env} {below : List Frame} {T : State} {m : MethodId} {c : Code} {P : Outcome → State → Prop} {pc pc' : Nat} {Ls : Array Slot} {st : List Value} {x y : Int32} (H : At T m c below) (hx : tb.exec = Jvm.exec) (hd : decode c.code pc = .ok (.iadd, 1))  (hp : pc + 1 = pc')
    (k : Gets tb e below P T (mkF m pc' Ls (.int (x + y) :: st))) : Gets tb e below P T (mkF m pc Ls (.int y :: .int x :: st)) := by
  subst hp; refine k.by fun t qq => ?_; exact XS.iadd H hx rfl hd rfl qq
theorem g_isub {tb : Tables} [Ours tb] {e : Env} {below : List Frame} {T : State} {m : MethodId} {c : Code} {P : Outcome → State → Prop} {pc pc' : Nat} {Ls : Array Slot} {st : List Value} {x y : Int32} (H : At T m c below) (hx : tb.exec = Jvm.exec) (hd : decode c.code pc = .ok (.isub, 1))  (hp : pc + 1 = pc')
    (k : Gets tb e below P T (mkF m pc' Ls (.int (x - y) :: st))) : Gets tb e below P T (mkF m pc Ls (.int y :: .int x :: st)) := by
  subst hp; refine k.by fun t qq => ?_; exact XS.isub H hx rfl hd rfl qq
theorem g_imul {tb : Tables} [Ours tb] {e : Env} {below : List Frame} {T : State} {m : MethodId} {c : Code} {P : Outcome → State → Prop} {pc pc' : Nat} {Ls : Array Slot} {st : List Value} {x y : Int32} (H : At T m c below) (hx : tb.exec = Jvm.exec) (hd : decode c.code pc = .ok (.imul, 1))  (hp : pc + 1 = pc')
    (k : Gets tb e below P T (mkF m pc' Ls (.int (x * y) :: st))) : Gets tb e below P T (mkF m pc Ls (.int y :: .int x :: st)) := by
  subst hp; refine k.by fun t qq => ?_; exact XS.imul H hx rfl hd rfl qq
theorem g_iand {tb : Tables} [Ours tb] {e : Env} {below : List Frame} {T : State} {m : MethodId} {c : Code} {P : Outcome → State → Prop} {pc pc' : Nat} {Ls : Array Slot} {st : List Value} {x y : Int32} (H : At T m c below) (hx : tb.exec = Jvm.exec) (hd : decode c.code pc = .ok (.iand, 1))  (hp : pc + 1 = pc')
    (k : Gets tb e below P T (mkF m pc' Ls (.int (x &&& y) :: st))) : Gets tb e below P T (mkF m pc Ls (.int y :: .int x :: st)) := by
  subst hp; refine k.by fun t qq => ?_; exact XS.iand H hx rfl hd rfl qq
theorem g_ior {tb : Tables} [Ours tb] {e : Env} {below : List Frame} {T : State} {m : MethodId} {c : Code} {P : Outcome → State → Prop} {pc pc' : Nat} {Ls : Array Slot} {st : List Value} {x y : Int32} (H : At T m c below) (hx : tb.exec = Jvm.exec) (hd : decode c.code pc = .ok (.ior, 1))  (hp : pc + 1 = pc')
    (k : Gets tb e below P T (mkF m pc' Ls (.int (x ||| y) :: st))) : Gets tb e below P T (mkF m pc Ls (.int y :: .int x :: st)) := by
  subst hp; refine k.by fun t qq => ?_; exact XS.ior H hx rfl hd rfl qq
theorem g_ixor {tb : Tables} [Ours tb] {e : Env} {below : List Frame} {T : State} {m : MethodId} {c : Code} {P : Outcome → State → Prop} {pc pc' : Nat} {Ls : Array Slot} {st : List Value} {x y : Int32} (H : At T m c below) (hx : tb.exec = Jvm.exec) (hd : decode c.code pc = .ok (.ixor, 1))  (hp : pc + 1 = pc')
    (k : Gets tb e below P T (mkF m pc' Ls (.int (x ^^^ y) :: st))) : Gets tb e below P T (mkF m pc Ls (.int y :: .int x :: st)) := by
  subst hp; refine k.by fun t qq => ?_; exact XS.ixor H hx rfl hd rfl qq
theorem g_ishl {tb : Tables} [Ours tb] {e : Env} {below : List Frame} {T : State} {m : MethodId} {c : Code} {P : Outcome → State → Prop} {pc pc' : Nat} {Ls : Array Slot} {st : List Value} {x y : Int32} (H : At T m c below) (hx : tb.exec = Jvm.exec) (hd : decode c.code pc = .ok (.ishl, 1))  (hp : pc + 1 = pc')
    (k : Gets tb e below P T (mkF m pc' Ls (.int (x <<< (y &&& 31)) :: st))) : Gets tb e below P T (mkF m pc Ls (.int y :: .int x :: st)) := by
  subst hp; refine k.by fun t qq => ?_; exact XS.ishl H hx rfl hd rfl qq
theorem g_ishr {tb : Tables} [Ours tb] {e : Env} {below : List Frame} {T : State} {m : MethodId} {c : Code} {P : Outcome → State → Prop} {pc pc' : Nat} {Ls : Array Slot} {st : List Value} {x y : Int32} (H : At T m c below) (hx : tb.exec = Jvm.exec) (hd : decode c.code pc = .ok (.ishr, 1))  (hp : pc + 1 = pc')
    (k : Gets tb e below P T (mkF m pc' Ls (.int (x >>> (y &&& 31)) :: st))) : Gets tb e below P T (mkF m pc Ls (.int y :: .int x :: st)) := by
  subst hp; refine k.by fun t qq => ?_; exact XS.ishr H hx rfl hd rfl qq
theorem g_iushr {tb : Tables} [Ours tb] {e : Env} {below : List Frame} {T : State} {m : MethodId} {c : Code} {P : Outcome → State → Prop} {pc pc' : Nat} {Ls : Array Slot} {st : List Value} {x y : Int32} (H : At T m c below) (hx : tb.exec = Jvm.exec) (hd : decode c.code pc = .ok (.iushr, 1))  (hp : pc + 1 = pc')
    (k : Gets tb e below P T (mkF m pc' Ls (.int ((x.toUInt32 >>> (y &&& 31).toUInt32).toInt32) :: st))) : Gets tb e below P T (mkF m pc Ls (.int y :: .int x :: st)) := by
  subst hp; refine k.by fun t qq => ?_; exact XS.iushr H hx rfl hd rfl qq
theorem g_ladd {tb : Tables} [Ours tb] {e : Env} {below : List Frame} {T : State} {m : MethodId} {c : Code} {P : Outcome → State → Prop} {pc pc' : Nat} {Ls : Array Slot} {st : List Value} {x y : Int64} (H : At T m c below) (hx : tb.exec = Jvm.exec) (hd : decode c.code pc = .ok (.ladd, 1))  (hp : pc + 1 = pc')
    (k : Gets tb e below P T (mkF m pc' Ls (.long (x + y) :: st))) : Gets tb e below P T (mkF m pc Ls (.long y :: .long x :: st)) := by
  subst hp; refine k.by fun t qq => ?_; exact XS.ladd H hx rfl hd rfl qq
theorem g_lsub {tb : Tables} [Ours tb] {e : Env} {below : List Frame} {T : State} {m : MethodId} {c : Code} {P : Outcome → State → Prop} {pc pc' : Nat} {Ls : Array Slot} {st : List Value} {x y : Int64} (H : At T m c below) (hx : tb.exec = Jvm.exec) (hd : decode c.code pc = .ok (.lsub, 1))  (hp : pc + 1 = pc')
    (k : Gets tb e below P T (mkF m pc' Ls (.long (x - y) :: st))) : Gets tb e below P T (mkF m pc Ls (.long y :: .long x :: st)) := by
  subst hp; refine k.by fun t qq => ?_; exact XS.lsub H hx rfl hd rfl qq
theorem g_lmul {tb : Tables} [Ours tb] {e : Env} {below : List Frame} {T : State} {m : MethodId} {c : Code} {P : Outcome → State → Prop} {pc pc' : Nat} {Ls : Array Slot} {st : List Value} {x y : Int64} (H : At T m c below) (hx : tb.exec = Jvm.exec) (hd : decode c.code pc = .ok (.lmul, 1))  (hp : pc + 1 = pc')
    (k : Gets tb e below P T (mkF m pc' Ls (.long (x * y) :: st))) : Gets tb e below P T (mkF m pc Ls (.long y :: .long x :: st)) := by
  subst hp; refine k.by fun t qq => ?_; exact XS.lmul H hx rfl hd rfl qq
theorem g_land {tb : Tables} [Ours tb] {e : Env} {below : List Frame} {T : State} {m : MethodId} {c : Code} {P : Outcome → State → Prop} {pc pc' : Nat} {Ls : Array Slot} {st : List Value} {x y : Int64} (H : At T m c below) (hx : tb.exec = Jvm.exec) (hd : decode c.code pc = .ok (.land, 1))  (hp : pc + 1 = pc')
    (k : Gets tb e below P T (mkF m pc' Ls (.long (x &&& y) :: st))) : Gets tb e below P T (mkF m pc Ls (.long y :: .long x :: st)) := by
  subst hp; refine k.by fun t qq => ?_; exact XS.land H hx rfl hd rfl qq
theorem g_lor {tb : Tables} [Ours tb] {e : Env} {below : List Frame} {T : State} {m : MethodId} {c : Code} {P : Outcome → State → Prop} {pc pc' : Nat} {Ls : Array Slot} {st : List Value} {x y : Int64} (H : At T m c below) (hx : tb.exec = Jvm.exec) (hd : decode c.code pc = .ok (.lor, 1))  (hp : pc + 1 = pc')
    (k : Gets tb e below P T (mkF m pc' Ls (.long (x ||| y) :: st))) : Gets tb e below P T (mkF m pc Ls (.long y :: .long x :: st)) := by
  subst hp; refine k.by fun t qq => ?_; exact XS.lor H hx rfl hd rfl qq
theorem g_lxor {tb : Tables} [Ours tb] {e : Env} {below : List Frame} {T : State} {m : MethodId} {c : Code} {P : Outcome → State → Prop} {pc pc' : Nat} {Ls : Array Slot} {st : List Value} {x y : Int64} (H : At T m c below) (hx : tb.exec = Jvm.exec) (hd : decode c.code pc = .ok (.lxor, 1))  (hp : pc + 1 = pc')
    (k : Gets tb e below P T (mkF m pc' Ls (.long (x ^^^ y) :: st))) : Gets tb e below P T (mkF m pc Ls (.long y :: .long x :: st)) := by
  subst hp; refine k.by fun t qq => ?_; exact XS.lxor H hx rfl hd rfl qq
theorem g_lshl {tb : Tables} [Ours tb] {e : Env} {below : List Frame} {T : State} {m : MethodId} {c : Code} {P : Outcome → State → Prop} {pc pc' : Nat} {Ls : Array Slot} {st : List Value} {x : Int64} {y : Int32} (H : At T m c below) (hx : tb.exec = Jvm.exec) (hd : decode c.code pc = .ok (.lshl, 1))  (hp : pc + 1 = pc')
    (k : Gets tb e below P T (mkF m pc' Ls (.long (x <<< (y &&& 0x3f).toInt64) :: st))) : Gets tb e below P T (mkF m pc Ls (.int y :: .long x :: st)) := by
  subst hp; refine k.by fun t qq => ?_; exact XS.lshl H hx rfl hd rfl qq
theorem g_lshr {tb : Tables} [Ours tb] {e : Env} {below : List Frame} {T : State} {m : MethodId} {c : Code} {P : Outcome → State → Prop} {pc pc' : Nat} {Ls : Array Slot} {st : List Value} {x : Int64} {y : Int32} (H : At T m c below) (hx : tb.exec = Jvm.exec) (hd : decode c.code pc = .ok (.lshr, 1))  (hp : pc + 1 = pc')
    (k : Gets tb e below P T (mkF m pc' Ls (.long (x >>> (y &&& 0x3f).toInt64) :: st))) : Gets tb e below P T (mkF m pc Ls (.int y :: .long x :: st)) := by
  subst hp; refine k.by fun t qq => ?_; exact XS.lshr H hx rfl hd rfl qq
theorem g_lushr {tb : Tables} [Ours tb] {e : Env} {below : List Frame} {T : State} {m : MethodId} {c : Code} {P : Outcome → State → Prop} {pc pc' : Nat} {Ls : Array Slot} {st : List Value} {x : Int64} {y : Int32} (H : At T m c below) (hx : tb.exec = Jvm.exec) (hd : decode c.code pc = .ok (.lushr, 1))  (hp : pc + 1 = pc')
    (k : Gets tb e below P T (mkF m pc' Ls (.long ((x.toUInt64 >>> (y &&& 0x3f).toInt64.toUInt64).toInt64) :: st))) : Gets tb e below P T (mkF m pc Ls (.int y :: .long x :: st)) := by
  subst hp; refine k.by fun t qq => ?_; exact XS.lushr H hx rfl hd rfl qq
theorem g_lcmp {tb : Tables} [Ours tb] {e : Env} {below : List Frame} {T : State} {m : MethodId} {c : Code} {P : Outcome → State → Prop} {pc pc' : Nat} {Ls : Array Slot} {st : List Value} {x y : Int64} (H : At T m c below) (hx : tb.exec = Jvm.exec) (hd : decode c.code pc = .ok (.lcmp, 1))  (hp : pc + 1 = pc')
    (k : Gets tb e below P T (mkF m pc' Ls (.int (lcmpW x y) :: st))) : Gets tb e below P T (mkF m pc Ls (.long y :: .long x :: st)) := by
  subst hp; refine k.by fun t qq => ?_; exact XS.lcmp H hx rfl hd rfl qq
theorem g_ineg {tb : Tables} [Ours tb] {e : Env} {below : List Frame} {T : State} {m : MethodId} {c : Code} {P : Outcome → State → Prop} {pc pc' : Nat} {Ls : Array Slot} {st : List Value} {x : Int32} (H : At T m c below) (hx : tb.exec = Jvm.exec) (hd : decode c.code pc = .ok (.ineg, 1))  (hp : pc + 1 = pc')
    (k : Gets tb e below P T (mkF m pc' Ls (.int (-x) :: st))) : Gets tb e below P T (mkF m pc Ls (.int x :: st)) := by
  subst hp; refine k.by fun t qq => ?_; exact XS.ineg H hx rfl hd rfl qq
theorem g_i2b {tb : Tables} [Ours tb] {e : Env} {below : List Frame} {T : State} {m : MethodId} {c : Code} {P : Outcome → State → Prop} {pc pc' : Nat} {Ls : Array Slot} {st : List Value} {x : Int32} (H : At T m c below) (hx : tb.exec = Jvm.exec) (hd : decode c.code pc = .ok (.i2b, 1))  (hp : pc + 1 = pc')
    (k : Gets tb e below P T (mkF m pc' Ls (.int (x.toInt8.toInt32) :: st))) : Gets tb e below P T (mkF m pc Ls (.int x :: st)) := by
  subst hp; refine k.by fun t qq => ?_; exact XS.i2b H hx rfl hd rfl qq
theorem g_i2s {tb : Tables} [Ours tb] {e : Env} {below : List Frame} {T : State} {m : MethodId} {c : Code} {P : Outcome → State → Prop} {pc pc' : Nat} {Ls : Array Slot} {st : List Value} {x : Int32} (H : At T m c below) (hx : tb.exec = Jvm.exec) (hd : decode c.code pc = .ok (.i2s, 1))  (hp : pc + 1 = pc')
    (k : Gets tb e below P T (mkF m pc' Ls (.int (x.toInt16.toInt32) :: st))) : Gets tb e below P T (mkF m pc Ls (.int x :: st)) := by
  subst hp; refine k.by fun t qq => ?_; exact XS.i2s H hx rfl hd rfl qq
theorem g_i2c {tb : Tables} [Ours tb] {e : Env} {below : List Frame} {T : State} {m : MethodId} {c : Code} {P : Outcome → State → Prop} {pc pc' : Nat} {Ls : Array Slot} {st : List Value} {x : Int32} (H : At T m c below) (hx : tb.exec = Jvm.exec) (hd : decode c.code pc = .ok (.i2c, 1))  (hp : pc + 1 = pc')
    (k : Gets tb e below P T (mkF m pc' Ls (.int (x.toUInt32.toUInt16.toUInt32.toInt32) :: st))) : Gets tb e below P T (mkF m pc Ls (.int x :: st)) := by
  subst hp; refine k.by fun t qq => ?_; exact XS.i2c H hx rfl hd rfl qq
theorem g_i2l {tb : Tables} [Ours tb] {e : Env} {below : List Frame} {T : State} {m : MethodId} {c : Code} {P : Outcome → State → Prop} {pc pc' : Nat} {Ls : Array Slot} {st : List Value} {x : Int32} (H : At T m c below) (hx : tb.exec = Jvm.exec) (hd : decode c.code pc = .ok (.i2l, 1))  (hp : pc + 1 = pc')
    (k : Gets tb e below P T (mkF m pc' Ls (.long x.toInt64 :: st))) : Gets tb e below P T (mkF m pc Ls (.int x :: st)) := by
  subst hp; refine k.by fun t qq => ?_; exact XS.i2l H hx rfl hd rfl qq
theorem g_l2i {tb : Tables} [Ours tb] {e : Env} {below : List Frame} {T : State} {m : MethodId} {c : Code} {P : Outcome → State → Prop} {pc pc' : Nat} {Ls : Array Slot} {st : List Value} {x : Int64} (H : At T m c below) (hx : tb.exec = Jvm.exec) (hd : decode c.code pc = .ok (.l2i, 1))  (hp : pc + 1 = pc')
    (k : Gets tb e below P T (mkF m pc' Ls (.int x.toInt32 :: st))) : Gets tb e below P T (mkF m pc Ls (.long x :: st)) := by
  subst hp; refine k.by fun t qq => ?_; exact XS.l2i H hx rfl hd rfl qq
theorem g_lneg {tb : Tables} [Ours tb] {e : Env} {below : List Frame} {T : State} {m : MethodId} {c : Code} {P : Outcome → State → Prop} {pc pc' : Nat} {Ls : Array Slot} {st : List Value} {x : Int64} (H : At T m c below) (hx : tb.exec = Jvm.exec) (hd : decode c.code pc = .ok (.lneg, 1))  (hp : pc + 1 = pc')
    (k : Gets tb e below P T (mkF m pc' Ls (.long (-x) :: st))) : Gets tb e below P T (mkF m pc Ls (.long x :: st)) := by
  subst hp; refine k.by fun t qq => ?_; exact XS.lneg H hx rfl hd rfl qq
theorem g_idiv {tb : Tables} [Ours tb] {e : Env} {below : List Frame} {T : State} {m : MethodId} {c : Code} {P : Outcome → State → Prop} {pc pc' : Nat} {Ls : Array Slot} {st : List Value} {x y : Int32} (H : At T m c below) (hx : tb.exec = Jvm.exec) (hd : decode c.code pc = .ok (.idiv, 1)) (hy : y ≠ 0) (hp : pc + 1 = pc')
    (k : Gets tb e below P T (mkF m pc' Ls (.int (x / y) :: st))) : Gets tb e below P T (mkF m pc Ls (.int y :: .int x :: st)) := by
  subst hp; refine k.by fun t qq => ?_; exact XS.idiv H hx rfl hd rfl hy qq
theorem g_dup {tb : Tables} [Ours tb] {e : Env} {below : List Frame} {T : State} {m : MethodId} {c : Code} {P : Outcome → State → Prop} {pc pc' : Nat} {Ls : Array Slot} {st : List Value} {v : Value} (H : At T m c below) (hx : tb.exec = Jvm.exec) (hd : decode c.code pc = .ok (.dup, 1)) (hv : v.category = 1) (hp : pc + 1 = pc')
    (k : Gets tb e below P T (mkF m pc' Ls (v :: v :: st))) : Gets tb e below P T (mkF m pc Ls (v :: st)) := by
  subst hp; refine k.by fun t qq => ?_; exact XS.dup H hx rfl hd rfl hv qq
theorem g_pop {tb : Tables} [Ours tb] {e : Env} {below : List Frame} {T : State} {m : MethodId} {c : Code} {P : Outcome → State → Prop} {pc pc' : Nat} {Ls : Array Slot} {st : List Value} {v : Value} (H : At T m c below) (hx : tb.exec = Jvm.exec) (hd : decode c.code pc = .ok (.pop, 1)) (hv : v.category = 1) (hp : pc + 1 = pc')
    (k : Gets tb e below P T (mkF m pc' Ls (st))) : Gets tb e below P T (mkF m pc Ls (v :: st)) := by
  subst hp; refine k.by fun t qq => ?_; exact XS.pop H hx rfl hd rfl hv qq
theorem g_dupX1 {tb : Tables} [Ours tb] {e : Env} {below : List Frame} {T : State} {m : MethodId} {c : Code} {P : Outcome → State → Prop} {pc pc' : Nat} {Ls : Array Slot} {st : List Value} {v w : Value} (H : At T m c below) (hx : tb.exec = Jvm.exec) (hd : decode c.code pc = .ok (.dup_x1, 1)) (hv : v.category = 1) (hw : w.category = 1) (hp : pc + 1 = pc')
    (k : Gets tb e below P T (mkF m pc' Ls (v :: w :: v :: st))) : Gets tb e below P T (mkF m pc Ls (v :: w :: st)) := by
  subst hp; refine k.by fun t qq => ?_; exact XS.dupX1 H hx rfl hd rfl hv hw qq
theorem g_iinc {tb : Tables} [Ours tb] {e : Env} {below : List Frame} {T : State} {m : MethodId} {c : Code} {P : Outcome → State → Prop} {pc pc' : Nat} {Ls : Array Slot} {st : List Value} {j : Nat} {cst : Int} {x : Int32} {Ls' : Array Slot} (H : At T m c below) (hx : tb.exec = Jvm.exec) (hd : decode c.code pc = .ok (.iinc j cst, 3)) (hl : Ls[j]? = some (.val (.int x))) (hs : storeLocals Ls j (.int (x + Int32.ofInt cst)) = some Ls') (hp : pc + 3 = pc')
    (k : Gets tb e below P T (mkF m pc' Ls' (st))) : Gets tb e below P T (mkF m pc Ls (st)) := by
  subst hp; refine k.by fun t qq => ?_; exact XS.iinc H hx rfl hd hl hs qq
theorem g_lconst {tb : Tables} [Ours tb] {e : Env} {below : List Frame} {T : State} {m : MethodId} {c : Code} {P : Outcome → State → Prop} {pc pc' : Nat} {Ls : Array Slot} {st : List Value} {j : Fin 2} (v : Int64) (H : At T m c below) (hx : tb.exec = Jvm.exec) (hd : decode c.code pc = .ok (.lconst j, 1)) (hv : Int64.ofNat j = v) (hp : pc + 1 = pc')
    (k : Gets tb e below P T (mkF m pc' Ls (.long v :: st))) : Gets tb e below P T (mkF m pc Ls st) := by
  subst hp; subst hv; refine k.by fun t qq => ?_; exact XS.lconst H hx rfl hd qq
theorem g_irem {tb : Tables} [Ours tb] {e : Env} {below : List Frame} {T : State} {m : MethodId} {c : Code} {P : Outcome → State → Prop} {pc pc' : Nat} {Ls : Array Slot} {st : List Value} {x y : Int32} (H : At T m c below) (hx : tb.exec = Jvm.exec) (hd : decode c.code pc = .ok (.irem, 1)) (hy : y ≠ 0) (hp : pc + 1 = pc')
    (k : Gets tb e below P T (mkF m pc' Ls (.int (x % y) :: st))) : Gets tb e below P T (mkF m pc Ls (.int y :: .int x :: st)) := by
  subst hp
  have q : x - x / y * y = x % y := irem_eq_mod x y
  rw [← q] at k
  refine k.by fun t qq => ?_; exact XS.irem H hx rfl hd rfl hy qq
theorem g_goto {tb : Tables} [Ours tb] {e : Env} {below : List Frame} {T : State} {m : MethodId} {c : Code} {P : Outcome → State → Prop} {pc pc' : Nat} {Ls : Array Slot} {st : List Value} {o : Int} (H : At T m c below) (hx : tb.exec = Jvm.exec) (hd : decode c.code pc = .ok (.goto o, 3)) (hp : (pc : Int) + o = (pc' : Int))
    (k : Gets tb e below P T (mkF m pc' Ls st)) : Gets tb e below P T (mkF m pc Ls st) := by
  refine k.by fun t qq => ?_
  exact XS.goto H hx rfl (pc0 := pc) (pc' := pc') rfl hd (by rw [hp]; exact Int.natCast_nonneg _) (by rw [hp]; rfl) qq
theorem g_ifY {tb : Tables} [Ours tb] {e : Env} {below : List Frame} {T : State} {m : MethodId} {c : Code} {P : Outcome → State → Prop} {pc pc' : Nat} {Ls : Array Slot} {st : List Value} {o : Int} {cd : ClassFile.Cond} {x : Int32} (H : At T m c below) (hx : tb.exec = Jvm.exec) (hd : decode c.code pc = .ok (.ifCond cd o, 3)) (hp : (pc : Int) + o = (pc' : Int)) (q : if_icmp.holds cd x 0 = true)
    (k : Gets tb e below P T (mkF m pc' Ls st)) : Gets tb e below P T (mkF m pc Ls (.int x :: st)) := by
  refine k.by fun t qq => ?_
  exact XS.ifYes H hx rfl (pc0 := pc) (pc' := pc') rfl hd rfl ((if0 _ _).trans q) (by rw [hp]; exact Int.natCast_nonneg _) (by rw [hp]; rfl) qq
theorem g_ifN {tb : Tables} [Ours tb] {e : Env} {below : List Frame} {T : State} {m : MethodId} {c : Code} {P : Outcome → State → Prop} {pc pc' : Nat} {Ls : Array Slot} {st : List Value} {o : Int} {cd : ClassFile.Cond} {x : Int32} (H : At T m c below) (hx : tb.exec = Jvm.exec) (hd : decode c.code pc = .ok (.ifCond cd o, 3)) (hp : pc + 3 = pc') (q : if_icmp.holds cd x 0 = false)
    (k : Gets tb e below P T (mkF m pc' Ls st)) : Gets tb e below P T (mkF m pc Ls (.int x :: st)) := by
  subst hp; refine k.by fun t qq => ?_; exact XS.ifNo H hx rfl hd rfl ((if0 _ _).trans q) qq
theorem g_icmpY {tb : Tables} [Ours tb] {e : Env} {below : List Frame} {T : State} {m : MethodId} {c : Code} {P : Outcome → State → Prop} {pc pc' : Nat} {Ls : Array Slot} {st : List Value} {o : Int} {cd : ClassFile.Cond} {x y : Int32} (H : At T m c below) (hx : tb.exec = Jvm.exec) (hd : decode c.code pc = .ok (.if_icmp cd o, 3)) (hp : (pc : Int) + o = (pc' : Int)) (q : if_icmp.holds cd x y = true)
    (k : Gets tb e below P T (mkF m pc' Ls st)) : Gets tb e below P T (mkF m pc Ls (.int y :: .int x :: st)) := by
  refine k.by fun t qq => ?_
  exact XS.icmpYes H hx rfl (pc0 := pc) (pc' := pc') rfl hd rfl q (by rw [hp]; exact Int.natCast_nonneg _) (by rw [hp]; rfl) qq
theorem g_icmpN {tb : Tables} [Ours tb] {e : Env} {below : List Frame} {T : State} {m : MethodId} {c : Code} {P : Outcome → State → Prop} {pc pc' : Nat} {Ls : Array Slot} {st : List Value} {o : Int} {cd : ClassFile.Cond} {x y : Int32} (H : At T m c below) (hx : tb.exec = Jvm.exec) (hd : decode c.code pc = .ok (.if_icmp cd o, 3)) (hp : pc + 3 = pc') (q : if_icmp.holds cd x y = false)
    (k : Gets tb e below P T (mkF m pc' Ls st)) : Gets tb e below P T (mkF m pc Ls (.int y :: .int x :: st)) := by
  subst hp; refine k.by fun t qq => ?_; exact XS.icmpNo H hx rfl hd rfl q qq
theorem g_nullY {tb : Tables} [Ours tb] {e : Env} {below : List Frame} {T : State} {m : MethodId} {c : Code} {P : Outcome → State → Prop} {pc pc' : Nat} {Ls : Array Slot} {st : List Value} {o : Int} (H : At T m c below) (hx : tb.exec = Jvm.exec) (hd : decode c.code pc = .ok (.ifnull o, 3)) (hp : (pc : Int) + o = (pc' : Int))
    (k : Gets tb e below P T (mkF m pc' Ls st)) : Gets tb e below P T (mkF m pc Ls (.null :: st)) := by
  refine k.by fun t qq => ?_
  exact XS.ifnullYes H hx rfl (pc0 := pc) (pc' := pc') rfl hd rfl (by rw [hp]; exact Int.natCast_nonneg _) (by rw [hp]; rfl) qq
theorem g_nullN {tb : Tables} [Ours tb] {e : Env} {below : List Frame} {T : State} {m : MethodId} {c : Code} {P : Outcome → State → Prop} {pc pc' : Nat} {Ls : Array Slot} {st : List Value} {o : Int} {b : Addr} (H : At T m c below) (hx : tb.exec = Jvm.exec) (hd : decode c.code pc = .ok (.ifnull o, 3)) (hp : pc + 3 = pc')
    (k : Gets tb e below P T (mkF m pc' Ls st)) : Gets tb e below P T (mkF m pc Ls (.ref b :: st)) := by
  subst hp; refine k.by fun t qq => ?_; exact XS.ifnullNo H hx rfl hd rfl qq
theorem g_nonnullY {tb : Tables} [Ours tb] {e : Env} {below : List Frame} {T : State} {m : MethodId} {c : Code} {P : Outcome → State → Prop} {pc pc' : Nat} {Ls : Array Slot} {st : List Value} {o : Int} {b : Addr} (H : At T m c below) (hx : tb.exec = Jvm.exec) (hd : decode c.code pc = .ok (.ifnonnull o, 3)) (hp : (pc : Int) + o = (pc' : Int))
    (k : Gets tb e below P T (mkF m pc' Ls st)) : Gets tb e below P T (mkF m pc Ls (.ref b :: st)) := by
  refine k.by fun t qq => ?_
  exact XS.ifnonnullYes H hx rfl (pc0 := pc) (pc' := pc') rfl hd rfl (by rw [hp]; exact Int.natCast_nonneg _) (by rw [hp]; rfl) qq
theorem g_nonnullN {tb : Tables} [Ours tb] {e : Env} {below : List Frame} {T : State} {m : MethodId} {c : Code} {P : Outcome → State → Prop} {pc pc' : Nat} {Ls : Array Slot} {st : List Value} {o : Int} (H : At T m c below) (hx : tb.exec = Jvm.exec) (hd : decode c.code pc = .ok (.ifnonnull o, 3)) (hp : pc + 3 = pc')
    (k : Gets tb e below P T (mkF m pc' Ls st)) : Gets tb e below P T (mkF m pc Ls (.null :: st)) := by
  subst hp; refine k.by fun t qq => ?_; exact XS.ifnonnullNo H hx rfl hd rfl qq
theorem g_tsw {tb : Tables} [Ours tb] {e : Env} {below : List Frame} {T : State} {m : MethodId} {c : Code} {P : Outcome → State → Prop} {pc pc' : Nat} {Ls : Array Slot} {st : List Value} {dflt low high : Int} {offs : Array Int} {len : Nat} {o : Int} {i : Int32} (H : At T m c below) (hx : tb.exec = Jvm.exec) (hd : decode c.code pc = .ok (.tableswitch dflt low high offs, len)) (hin : ¬ (i.toInt < low ∨ i.toInt > high)) (hoff : offs[(i.toInt - low).toNat]? = some o) (hp : (pc : Int) + o = (pc' : Int))
    (k : Gets tb e below P T (mkF m pc' Ls st)) : Gets tb e below P T (mkF m pc Ls (.int i :: st)) := by
  refine k.by fun t qq => ?_
  exact XS.tswIn H hx rfl (pc0 := pc) (pc' := pc') rfl hd rfl hin hoff (by rw [hp]; exact Int.natCast_nonneg _) (by rw [hp]; rfl) qq
theorem g_iincV {tb : Tables} [Ours tb] {e : Env} {below : List Frame} {T : State} {m : MethodId} {c : Code} {P : Outcome → State → Prop} {pc pc' : Nat} {Ls Ls' : Array Slot} {st : List Value} {j : Nat} {cst : Int} {x : Int32} (v : Int32) (H : At T m c below) (hx : tb.exec = Jvm.exec) (hd : decode c.code pc = .ok (.iinc j cst, 3)) (hv : x + Int32.ofInt cst = v) (hl : Ls[j]? = some (.val (.int x))) (hs : storeLocals Ls j (.int v) = some Ls') (hp : pc + 3 = pc')
    (k : Gets tb e below P T (mkF m pc' Ls' st)) : Gets tb e below P T (mkF m pc Ls st) := by
  subst hp; subst hv; refine k.by fun t qq => ?_; exact XS.iinc H hx rfl hd hl hs qq
/-- an array's exact content -/
def Ary (Z : State) (h : Heap) (a : Addr) (ty : FieldType) (vs : List Value) : Prop := ∃ cl : Cell, Arr Z h a cl ty ∧ cl.slots.toList = vs ∧ vs.length < 2 ^ 31 ∧ ∀ v ∈ vs, fits ty v = true
theorem Ary.lt {Z : State} {h : Heap} {a : Addr} {ty : FieldType} {vs : List Value} (F : Ary Z h a ty vs) : a < h.size := by obtain ⟨c, A, -⟩ := F; exact A.lt
theorem Ary.len {Z : State} {h : Heap} {a : Addr} {ty : FieldType} {vs : List Value} (F : Ary Z h a ty vs) : vs.length < 2 ^ 31 := by obtain ⟨c, A, -, q, -⟩ := F; exact q
theorem Ary.keep {Z : State} {h h' : Heap} {a : Addr} {ty : FieldType} {vs : List Value} {ws : List Addr} (F : Ary Z h a ty vs) (K : Keep h h' ws) (q : a ∉ ws) : Ary Z h' a ty vs := by obtain ⟨c, A, r⟩ := F; exact ⟨c, ⟨K.2.1 a c A.1 q, A.2⟩, r⟩
theorem Ary.ext {Z : State} {h h' : Heap} {a : Addr} {ty : FieldType} {vs : List Value} (F : Ary Z h a ty vs) (E : Ext h h') : Ary Z h' a ty vs := by obtain ⟨c, A, r⟩ := F; exact ⟨c, A.ext E, r⟩
theorem Ary.made {Z : State} {h : Heap} {a : Addr} {ty : FieldType} {k : ClassId} {n : Int32} (A : Arr Z h a (newA k ty n) ty) (hn : ¬ n < 0) (hf : fits ty (defaultValue ty) = true) : Ary Z h a ty (List.replicate n.toNatClampNeg (defaultValue ty)) :=
  ⟨_, A, by simp [newA], by rw [List.length_replicate]; exact (back32 hn).2, fun v hv => by rw [(List.mem_replicate.mp hv).2]; exact hf⟩
theorem Ary.of_arv {Z : State} {h : Heap} {a : Addr} {ty : FieldType} {k : ClassId} {z : Int32} {vs : List Value} {d : Value} (F : Arv Z h a k ty z vs d) (hl : z.toNatClampNeg = vs.length) : Ary Z h a ty vs := by
  obtain ⟨c, A, -, sz, hz, H, G⟩ := F
  have e : c.slots.toList = vs := by
    apply List.ext_getElem?
    intro i
    by_cases hi : i < c.slots.size
    · have q := H i hi
      have hi' : i < vs.length := by omega
      rw [Array.getElem?_toList, q]
      simp [List.getD_eq_getElem?_getD, hi']
    · have hi' : vs.length ≤ i := by omega
      rw [Array.getElem?_toList, Array.getElem?_eq_none (by omega), List.getElem?_eq_none hi']
  refine ⟨c, A, e, by rw [← hl]; exact (back32 hz).2, fun v hv => ?_⟩
  obtain ⟨i, hi, rfl⟩ := List.mem_iff_getElem.mp hv
  have q := G i (by omega)
  rwa [List.getD_eq_getElem?_getD, List.getElem?_eq_getElem hi] at q
theorem Ary.wrote {Z : State} {h h' : Heap} {a : Addr} {ty : FieldType} {vs : List Value} {cl : Cell} {v : Value} {i : Nat} (A : Arr Z h a cl ty) (e : cl.slots.toList = vs) (hl : vs.length < 2 ^ 31) (hf : ∀ w ∈ vs, fits ty w = true) (hv : fits ty v = true) (W : Wr h h' a i v) : Ary Z h' a ty (vs.set i v) := by
  refine ⟨cl.setSlot i v, A.same W, ?_, by rw [List.length_set]; exact hl, fun w hw => ?_⟩
  · rw [← e]; simp [Cell.setSlot]
  · rcases List.mem_or_eq_of_mem_set hw with q | q
    · exact hf w q
    · rw [q]; exact hv
theorem size_of_list {cl : Cell} {vs : List Value} (e : cl.slots.toList = vs) : cl.slots.size = vs.length := by rw [← e]; simp
theorem at_of_list {cl : Cell} {vs : List Value} (e : cl.slots.toList = vs) (i : Nat) : cl.slots[i]? = vs[i]? := by rw [← e]; simp
theorem i32_nat {n : Nat} (h : n < 2 ^ 31) : n.toInt32.toNatClampNeg = n := by simp only [Int32.toNatClampNeg, len_toInt h]; rfl
end OwnBase
section OwnWalk
variable {p : Program} {l : Launch} {e : Env} {R : Room} {s : State} {m : MethodId} {args : Array Value} {below : List Frame} {meth : Method} {c : Code} {T : State} {Z : State} {a0 : Array Value} {h : Heap} {EL : List (String × Nat)} {own : String} {cells slots : Nat} {ws nw : List Addr} {P : Outcome → State → Prop} {pc pc' : Nat} {Ls : Array Slot} {st : List Value}
/-- where a walk stands -/
def Wk (p : Program) (l : Launch) (e : Env) (R : Room) (s : State) (m : MethodId) (args : Array Value) (below : List Frame) (meth : Method) (c : Code) (Z : State) (EL : List (String × Nat)) (own : String) (ws nw : List Addr) (T : State) (h : Heap) (cells slots : Nat) : Prop :=
  ∃ (vm0 : Vm) (k0 : Nat) (locs : List Loc) (b0 : Array Value), Stand p l e R (s.setVm vm0) m args below meth c T locs cells slots ∧ T.heap = h ∧ s.Since vm0 k0 ∧ k0 ≤ h.size ∧ Z.Warmed39 vm0 ∧ vm0.findClass own = some m.cls ∧ EW Z b0 EL ∧ CHr Z EL s.vm s.heap vm0 h ∧ Fr Z.heap.size locs ∧ Ext Z.heap h ∧ Keep s.heap h ws ∧
    (∀ x : Nat, x ∈ ws → Z.heap.size ≤ x ∧ x < h.size ∧ Safe Z EL vm0 h x) ∧ (∀ x : Nat, x ∈ nw → s.heap.size ≤ x ∧ Z.heap.size ≤ x ∧ x < h.size ∧ Safe Z EL vm0 h x)
theorem Wk.here (W : Wk p l e R s m args below meth c Z EL own ws nw T h cells slots) : At T m c below := by obtain ⟨_, _, _, _, X, -⟩ := W; exact X.here
theorem Wk.old (W : Wk p l e R s m args below meth c Z EL own ws nw T h cells slots) : Ext Z.heap h := by obtain ⟨_, _, _, _, -, -, -, -, -, -, -, -, -, E, -⟩ := W; exact E
theorem Wk.lt (W : Wk p l e R s m args below meth c Z EL own ws nw T h cells slots) {x : Nat} (q : x ∈ nw) : x < h.size := by obtain ⟨_, _, _, _, -, -, -, -, -, -, -, -, -, -, -, -, n⟩ := W; exact (n x q).2.2.1
theorem Wk.kept (W : Wk p l e R s m args below meth c Z EL own ws nw T h cells slots) : Keep s.heap h ws := by obtain ⟨_, _, _, _, -, -, -, -, -, -, -, -, -, -, K, -⟩ := W; exact K
/-- a callee's contract: from the arguments as' and the heap h0 it returns a value v and a heap h' with Q v h'; of the cells of h0 at the most those at ws are written -/
def ConL (wl : List Cond) (l : Launch) (Z : State) (EL : List (String × Nat)) (y : MethodName) (bytes : ByteArray) (maxL : Nat) (ret : Option FieldType) (rm : Room) (as' : Array Value) (h0 : Heap) (ws : List Addr) (Q : Option Value → Heap → Prop) : Prop :=
  MetFree l y (head1 (Cond.code y bytes maxL ret :: wl) rm) (fun a U => a = as' ∧ Z.Warmed39 U.vm ∧ U.heap = h0 ∧ CHv Z EL U.vm h0 ∧ ∀ x ∈ ws, Safe Z EL U.vm h0 x) (fun _ _ _ _ _ => True)
    (fun _ U o U' => ∃ v L, o = .returned v ∧ (Q v U'.heap ∧ Fr Z.heap.size L ∧ Keep h0 U'.heap ws ∧ Ext Z.heap U'.heap) ∧ CHr Z EL U.vm U.heap U'.vm U'.heap ∧ ReturnedEndW U o U' L rm.cells rm.slots)
abbrev Con := ConL []
/-- what a contract's body is to come to -/
def Post (s : State) (Z : State) (EL : List (String × Nat)) (rm : Room) (h0 : Heap) (ws : List Addr) (Q : Option Value → Heap → Prop) (o : Outcome) (t : State) : Prop :=
  ∃ v L, o = .returned v ∧ (Q v t.heap ∧ Fr Z.heap.size L ∧ Keep h0 t.heap ws ∧ Ext Z.heap t.heap) ∧ CHr Z EL s.vm s.heap t.vm t.heap ∧ ReturnedEndW s o t L rm.cells rm.slots
theorem Con.of {wl : List Cond} {y : MethodName} {bytes : ByteArray} {maxL : Nat} {ret : Option FieldType} {rm : Room} {as' : Array Value} {h0 : Heap} {Q : Option Value → Heap → Prop} (Ls : Array Slot)
    (hy : plainFor y = true) (hE : EW Z a0 EL) (O : Ext Z.heap h0) (hws : ∀ x : Nat, x ∈ ws → Z.heap.size ≤ x ∧ x < h0.size) (hent : ∀ m, entryFrame m as' maxL = mkF m 0 Ls [])
    (body : ∀ (p : Program) (e : Env) (s : State) (m : MethodId) (below : List Frame) (meth : Method) (c : Code) (T : State), p.tables.exec = Jvm.exec → c.code = bytes → c.maxLocals = maxL → meth.name = y.name → meth.sig.returnType = ret → meth.locks = false → s.heap = h0 →
      Wk p l e rm s m as' below meth c Z EL y.cls ws [] T h0 0 0 → Gets p.tables e below (Post s Z EL rm h0 ws Q) T (mkF m 0 Ls [])) :
    ConL wl l Z EL y bytes maxL ret rm as' h0 ws Q := by
  refine MetFree.of_bodySF hy hisR ?_
  intro p e s m args below meth c s₁ Bd hml0 hP hK
  obtain ⟨rfl, hZ, hh, hC, hS⟩ := hP
  have hh' : s.heap = h0 := hh
  have hl : meth.locks = false := Bd.notSynchronized
  have e0 : s₁.heap = h0 := by rw [← hh, Bd.state]; rfl
  have X0 : Stand p l e rm s m args below meth c s₁ [] 0 0 := Stand.of_body Bd
  have W : Wk p l e rm s m args below meth c Z EL y.cls ws [] s₁ h0 0 0 :=
    ⟨s.vm, h0.size, [], a0, X0, e0, (State.WarmedH.refl s).since _, Nat.le_refl _, hZ, findClass_of_methodNamed Bd.named, hE, by rw [hh']; exact CHr.refl hC, Fr.nil _, O, by rw [hh']; exact Keep.refl _ _, fun x hx => ⟨(hws x hx).1, (hws x hx).2, hS x hx⟩, fun x hx => (nomatch hx)⟩
  obtain ⟨t, o, h1, h2, h3, h4⟩ := body p e s m below meth c s₁ Bd.exec Bd.bytes hml0 (name_of_methodNamed Bd.named Bd.method).1 Bd.returns hl hh' W
  exact ⟨t, o, by rw [hent m]; exact h1, h2, h3, h4⟩
/-! ends -/
theorem w_end {rm : Room} {h0 : Heap} {Q : Option Value → Heap → Prop} (W : Wk p l e R s m args below meth c Z EL own ws nw T h cells slots) (hh : s.heap = h0) {v : Option Value} {g : JFrame} (hl : meth.locks = false) (hv : meth.sig.returnType = none → v = none)
    (st : ∀ {vm0 : Vm} {locs : List Loc} {fs : List Frame}, Stand p l e R (s.setVm vm0) m args below meth c T locs cells slots → (∀ (f : JFrame) (acts : List Action), f.method = m → f.locked = none → f.entered = [] → (doReturn e (T.setTop f) acts v).1 = T.setFrames fs) → Steps p.tables e below (T.setTop g) (T.setFrames fs))
    (hc : cells ≤ rm.cells) (hs : slots ≤ rm.slots) (q : Q v h) : Gets p.tables e below (Post s Z EL rm h0 ws Q) T g := by
  obtain ⟨vm0, k0, locs, b0, X, eT, hS, hk, hZ, hown, hE, hC, hF, hO, hK, -, -⟩ := W
  obtain ⟨fs, h1, h2, h3, r1, r2, r3, r4⟩ := X.leaveW hS (by rw [eT]; exact hk) hv hl
  subst hh
  have hA := CHv.at X hZ hE hC.1
  refine ⟨_, _, st X h1, h2, h3, v, locs, rfl, ⟨?_, hF, ?_, ?_⟩, ?_, r1, r2, r3, r4.mono hc hs⟩
  · show Q v T.heap; rw [eT]; exact q
  · show Keep _ T.heap _; rw [eT]; exact hK
  · show Ext _ T.heap; rw [eT]; exact hO
  · show CHr Z EL s.vm s.heap T.vm T.heap
    rw [eT]
    exact hC.trans hA
theorem w_retI {rm : Room} {h0 : Heap} {Q : Option Value → Heap → Prop} {z : Int32} (W : Wk p l e R s m args below meth c Z EL own ws nw T h cells slots) (hx : p.tables.exec = Jvm.exec) (hh : s.heap = h0) (hl : meth.locks = false) (hret : meth.sig.returnType = some .int) (hd : decode c.code pc = .ok (.ireturn, 1)) (hc : cells ≤ rm.cells) (hs : slots ≤ rm.slots) (q : Q (some (.int z)) h) :
    Gets p.tables e below (Post s Z EL rm h0 ws Q) T (mkF m pc Ls (.int z :: st)) :=
  w_end W hh hl (fun q => by rw [hret] at q; cases q) (fun X hr => retOut X hx hret rfl (Or.inl ⟨rfl, Or.inl rfl, z, rfl⟩) hd hr) hc hs q
theorem w_retN {rm : Room} {h0 : Heap} {Q : Option Value → Heap → Prop} {z : Int32} {t : FieldType} (W : Wk p l e R s m args below meth c Z EL own ws nw T h cells slots) (hx : p.tables.exec = Jvm.exec) (hh : s.heap = h0) (hl : meth.locks = false) (hret : meth.sig.returnType = some t) (ht : t = .boolean ∨ t = .byte ∨ t = .char ∨ t = .short) (hd : decode c.code pc = .ok (.ireturn, 1)) (hc : cells ≤ rm.cells) (hs : slots ≤ rm.slots) (q : Q (some (.int (nar t z))) h) :
    Gets p.tables e below (Post s Z EL rm h0 ws Q) T (mkF m pc Ls (.int z :: st)) :=
  w_end W hh hl (fun q => by rw [hret] at q; cases q) (fun X hr => retN X hx hret ht hd hr) hc hs q
theorem w_retJ {rm : Room} {h0 : Heap} {Q : Option Value → Heap → Prop} {z : Int64} (W : Wk p l e R s m args below meth c Z EL own ws nw T h cells slots) (hx : p.tables.exec = Jvm.exec) (hh : s.heap = h0) (hl : meth.locks = false) (hret : meth.sig.returnType = some .long) (hd : decode c.code pc = .ok (.lreturn, 1)) (hc : cells ≤ rm.cells) (hs : slots ≤ rm.slots) (q : Q (some (.long z)) h) :
    Gets p.tables e below (Post s Z EL rm h0 ws Q) T (mkF m pc Ls (.long z :: st)) :=
  w_end W hh hl (fun q => by rw [hret] at q; cases q) (fun X hr => retOut X hx hret rfl (Or.inr (Or.inl ⟨rfl, rfl, z, rfl⟩)) hd hr) hc hs q
theorem w_retA {rm : Room} {h0 : Heap} {Q : Option Value → Heap → Prop} {w : Value} {t : FieldType} (W : Wk p l e R s m args below meth c Z EL own ws nw T h cells slots) (hx : p.tables.exec = Jvm.exec) (hh : s.heap = h0) (hl : meth.locks = false) (hret : meth.sig.returnType = some t) (ht : t.isReference = true) (hw : w.isRef = true) (hd : decode c.code pc = .ok (.areturn, 1)) (hc : cells ≤ rm.cells) (hs : slots ≤ rm.slots) (q : Q (some w) h) :
    Gets p.tables e below (Post s Z EL rm h0 ws Q) T (mkF m pc Ls (w :: st)) :=
  w_end W hh hl (fun q => by rw [hret] at q; cases q) (fun X hr => retOut X hx hret (by cases t <;> cases w <;> simp [FieldType.isReference, Value.isRef, narrow] at ht hw ⊢) (Or.inr (Or.inr (Or.inr (Or.inr ⟨rfl, ht, hw⟩)))) hd hr) hc hs q
theorem w_retV {rm : Room} {h0 : Heap} {Q : Option Value → Heap → Prop} (W : Wk p l e R s m args below meth c Z EL own ws nw T h cells slots) (hx : p.tables.exec = Jvm.exec) (hh : s.heap = h0) (hl : meth.locks = false) (hret : meth.sig.returnType = none) (hd : decode c.code pc = .ok (.return_, 1)) (hc : cells ≤ rm.cells) (hs : slots ≤ rm.slots) (q : Q none h) :
    Gets p.tables e below (Post s Z EL rm h0 ws Q) T (mkF m pc Ls []) :=
  w_end W hh hl (fun _ => rfl) (fun X hr => X.returnOut hx hret hd hr) hc hs q
/-! steps that leave the heap as it is -/
theorem w_get (W : Wk p l e R s m args below meth c Z EL own ws nw T h cells slots) (hx : p.tables.exec = Jvm.exec) {R0 O n d : String} {index : Nat} (w : (Cond.fieldLink own index R0 n d).before a0 Z = true) (via : Via Z R0 O n d) {a : Nat} {v : Value} (F : Fld Z h a O n d v) (hd : decode c.code pc = .ok (.getfield index, 3)) (hp : pc + 3 = pc')
    (k : ∀ T', Wk p l e R s m args below meth c Z EL own ws nw T' h cells slots → Gets p.tables e below P T' (mkF m pc' Ls (v :: st))) : Gets p.tables e below P T (mkF m pc Ls (.ref a :: st)) := by
  subst hp
  obtain ⟨vm0, k0, locs, b0, X, eT, hS, hk, hZ, hown, r⟩ := W
  obtain ⟨T', X', e', stp⟩ := getF X hx hZ hown (host := "") (Or.inl w) via eT F (g := mkF m pc Ls (.ref a :: st)) rfl rfl hd
  exact (k T' ⟨vm0, k0, locs, b0, X', e', hS, hk, hZ, hown, r⟩).by stp
theorem w_getS (W : Wk p l e R s m args below meth c Z EL own ws nw T h cells slots) (hx : p.tables.exec = Jvm.exec) {R0 O n d : String} {index : Nat} (w : (Cond.fieldLink own index R0 n d).before a0 Z = true) (via : Via Z R0 O n d) {v : Value} (F : Sta Z Z.heap O n d v) (hd : decode c.code pc = .ok (.getstatic index, 3)) (hp : pc + 3 = pc')
    (k : ∀ T', Wk p l e R s m args below meth c Z EL own ws nw T' h cells slots → Gets p.tables e below P T' (mkF m pc' Ls (v :: st))) : Gets p.tables e below P T (mkF m pc Ls st) := by
  subst hp
  have O := W.old
  obtain ⟨vm0, k0, locs, b0, X, eT, hS, hk, hZ, hown, r⟩ := W
  obtain ⟨T', X', e', stp⟩ := getS X hx hZ hown (host := "") w via eT (F.ext O) (g := mkF m pc Ls st) rfl hd
  exact (k T' ⟨vm0, k0, locs, b0, X', e', hS, hk, hZ, hown, r⟩).by stp
theorem w_ldcI (W : Wk p l e R s m args below meth c Z EL own ws nw T h cells slots) (hx : p.tables.exec = Jvm.exec) {index : Nat} {v : Int32} (w : (Cond.constant own index v).before a0 Z = true) (hd : decode c.code pc = .ok (.ldc index, 2)) (hp : pc + 2 = pc')
    (k : Gets p.tables e below P T (mkF m pc' Ls (.int v :: st))) : Gets p.tables e below P T (mkF m pc Ls st) := by
  subst hp
  obtain ⟨vm0, k0, locs, b0, X, eT, hS, hk, hZ, hown, r⟩ := W
  exact k.by fun t q => Jvm.Stand.ldcI X hx hown (mv (s := s.setVm vm0) hZ w) (g := mkF m pc Ls st) rfl hd q
theorem w_ldc2J (W : Wk p l e R s m args below meth c Z EL own ws nw T h cells slots) (hx : p.tables.exec = Jvm.exec) {index : Nat} {v : Int64} (w : (Cond.constantLong own index v).before a0 Z = true) (hd : decode c.code pc = .ok (.ldc2_w index, 3)) (hp : pc + 3 = pc')
    (k : Gets p.tables e below P T (mkF m pc' Ls (.long v :: st))) : Gets p.tables e below P T (mkF m pc Ls st) := by
  subst hp
  obtain ⟨vm0, k0, locs, b0, X, eT, hS, hk, hZ, hown, r⟩ := W
  exact k.by fun t q => Jvm.Stand.ldc2J X hx hown (mv (s := s.setVm vm0) hZ w) (g := mkF m pc Ls st) rfl hd q
theorem w_acmp (W : Wk p l e R s m args below meth c Z EL own ws nw T h cells slots) (hx : p.tables.exec = Jvm.exec) {cd : ACond} {x y : Value} {o : Int} (h1 : x.isRef = true) (h2 : y.isRef = true) (same : Bool) (hd : decode c.code pc = .ok (.if_acmp cd o, 3)) (hq : decide (x = y) = same) (ho : 0 ≤ (pc : Int) + o) (hp : pc' = if acV cd same = true then ((pc : Int) + o).toNat else pc + 3)
    (k : Gets p.tables e below P T (mkF m pc' Ls st)) : Gets p.tables e below P T (mkF m pc Ls (y :: x :: st)) := by
  obtain ⟨vm0, k0, locs, b0, X, r⟩ := W
  exact k.by fun t q => Jvm.RoadKit.acmp (g := mkF m pc Ls (y :: x :: st)) X hx rfl h1 h2 (pc0 := pc) (pc' := pc') rfl hd rfl hq ho hp q
theorem w_cast (W : Wk p l e R s m args below meth c Z EL own ws nw T h cells slots) (hx : p.tables.exec = Jvm.exec) {K : String} {index : Nat} (w : (Cond.classLink own index K).before a0 Z = true) {a : Nat} (F : Ins Z h a K true) (hd : decode c.code pc = .ok (.checkcast index, 3)) (hp : pc + 3 = pc')
    (k : ∀ T', Wk p l e R s m args below meth c Z EL own ws nw T' h cells slots → Gets p.tables e below P T' (mkF m pc' Ls (.ref a :: st))) : Gets p.tables e below P T (mkF m pc Ls (.ref a :: st)) := by
  subst hp
  obtain ⟨vm0, k0, locs, b0, X, eT, hS, hk, hZ, hown, r⟩ := W
  obtain ⟨T', X', e', stp⟩ := castY X hx hZ hown w eT F (g := mkF m pc Ls (.ref a :: st)) rfl rfl hd
  exact (k T' ⟨vm0, k0, locs, b0, X', e', hS, hk, hZ, hown, r⟩).by stp
theorem w_inst (W : Wk p l e R s m args below meth c Z EL own ws nw T h cells slots) (hx : p.tables.exec = Jvm.exec) {K : String} {index : Nat} (w : (Cond.classLink own index K).before a0 Z = true) {a : Nat} (F : Ins Z h a K true) (hd : decode c.code pc = .ok (.instanceof index, 3)) (hp : pc + 3 = pc')
    (k : ∀ T', Wk p l e R s m args below meth c Z EL own ws nw T' h cells slots → Gets p.tables e below P T' (mkF m pc' Ls (.int 1 :: st))) : Gets p.tables e below P T (mkF m pc Ls (.ref a :: st)) := by
  subst hp
  obtain ⟨vm0, k0, locs, b0, X, eT, hS, hk, hZ, hown, r⟩ := W
  obtain ⟨T', X', e', stp⟩ := instY X hx hZ hown w eT F (g := mkF m pc Ls (.ref a :: st)) rfl rfl hd
  exact (k T' ⟨vm0, k0, locs, b0, X', e', hS, hk, hZ, hown, r⟩).by stp
theorem w_len (W : Wk p l e R s m args below meth c Z EL own ws nw T h cells slots) (hx : p.tables.exec = Jvm.exec) {a : Nat} {ty : FieldType} {vs : List Value} (F : Ary Z h a ty vs) (hd : decode c.code pc = .ok (.arraylength, 1)) (hp : pc + 1 = pc')
    (k : Gets p.tables e below P T (mkF m pc' Ls (.int vs.length.toInt32 :: st))) : Gets p.tables e below P T (mkF m pc Ls (.ref a :: st)) := by
  subst hp
  obtain ⟨vm0, k0, locs, b0, X, eT, hS, hk, hZ, hown, r⟩ := W
  obtain ⟨cl, A, e1, -, -⟩ := F
  refine k.by fun t q => X.arraylength hx (by rw [eT]; exact A.1) (State.isArrayOf_alike hZ.alike A.2.1) (g := mkF m pc Ls (.ref a :: st)) rfl rfl hd t ?_
  rw [size_of_list e1]; exact q
theorem in_of {cl : Cell} {vs : List Value} {j : Int32} {v : Value} (e : cl.slots.toList = vs) (hj : ¬ j < 0) (hv : vs[j.toNatClampNeg]? = some v) : ¬ (j < 0 ∨ cl.slots.size ≤ j.toNatClampNeg) ∧ cl.slots[j.toNatClampNeg]? = some v := by
  refine ⟨fun q => q.elim hj fun q => ?_, by rw [at_of_list e]; exact hv⟩
  have := (List.getElem?_eq_some_iff.mp hv).1
  rw [size_of_list e] at q; omega
theorem w_caload (W : Wk p l e R s m args below meth c Z EL own ws nw T h cells slots) (hx : p.tables.exec = Jvm.exec) {a : Nat} {vs : List Value} {j : Int32} {v : Value} (F : Ary Z h a .char vs) (hj : ¬ j < 0) (hv : vs[j.toNatClampNeg]? = some v) (hd : decode c.code pc = .ok (.caload, 1)) (hp : pc + 1 = pc')
    (k : Gets p.tables e below P T (mkF m pc' Ls (v :: st))) : Gets p.tables e below P T (mkF m pc Ls (.int j :: .ref a :: st)) := by
  subst hp
  obtain ⟨vm0, k0, locs, b0, X, eT, hS, hk, hZ, hown, r⟩ := W
  obtain ⟨cl, A, e1, -, -⟩ := F
  obtain ⟨q1, q2⟩ := in_of e1 hj hv
  exact k.by fun t q => X.caload hx (by rw [eT]; exact A.1) (State.isArrayOf_alike hZ.alike A.2.1) A.2.2 q1 q2 (g := mkF m pc Ls (.int j :: .ref a :: st)) rfl rfl hd t q
theorem w_baload (W : Wk p l e R s m args below meth c Z EL own ws nw T h cells slots) (hx : p.tables.exec = Jvm.exec) {a : Nat} {vs : List Value} {j : Int32} {v : Value} (F : Ary Z h a .byte vs) (hj : ¬ j < 0) (hv : vs[j.toNatClampNeg]? = some v) (hd : decode c.code pc = .ok (.baload, 1)) (hp : pc + 1 = pc')
    (k : Gets p.tables e below P T (mkF m pc' Ls (v :: st))) : Gets p.tables e below P T (mkF m pc Ls (.int j :: .ref a :: st)) := by
  subst hp
  obtain ⟨vm0, k0, locs, b0, X, eT, hS, hk, hZ, hown, r⟩ := W
  obtain ⟨cl, A, e1, -, -⟩ := F
  obtain ⟨q1, q2⟩ := in_of e1 hj hv
  exact k.by fun t q => X.baloadBytes hx (by rw [eT]; exact A.1) (State.isArrayOf_alike hZ.alike A.2.1) A.2.2 q1 q2 (g := mkF m pc Ls (.int j :: .ref a :: st)) rfl rfl hd t q
theorem w_iaload (W : Wk p l e R s m args below meth c Z EL own ws nw T h cells slots) (hx : p.tables.exec = Jvm.exec) {a : Nat} {vs : List Value} {j : Int32} {v : Value} (F : Ary Z h a .int vs) (hj : ¬ j < 0) (hv : vs[j.toNatClampNeg]? = some v) (hd : decode c.code pc = .ok (.iaload, 1)) (hp : pc + 1 = pc')
    (k : Gets p.tables e below P T (mkF m pc' Ls (v :: st))) : Gets p.tables e below P T (mkF m pc Ls (.int j :: .ref a :: st)) := by
  subst hp
  obtain ⟨vm0, k0, locs, b0, X, eT, hS, hk, hZ, hown, r⟩ := W
  obtain ⟨cl, A, e1, -, -⟩ := F
  obtain ⟨q1, q2⟩ := in_of e1 hj hv
  exact k.by fun t q => X.iaload hx (by rw [eT]; exact A.1) (State.isArrayOf_alike hZ.alike A.2.1) A.2.2 q1 q2 (g := mkF m pc Ls (.int j :: .ref a :: st)) rfl rfl hd t q
theorem w_aaload (W : Wk p l e R s m args below meth c Z EL own ws nw T h cells slots) (hx : p.tables.exec = Jvm.exec) {a : Nat} {ty : FieldType} {vs : List Value} {j : Int32} {v : Value} (F : Ary Z h a ty vs) (hty : ty.isReference = true) (hj : ¬ j < 0) (hv : vs[j.toNatClampNeg]? = some v) (hd : decode c.code pc = .ok (.aaload, 1)) (hp : pc + 1 = pc')
    (k : Gets p.tables e below P T (mkF m pc' Ls (v :: st))) : Gets p.tables e below P T (mkF m pc Ls (.int j :: .ref a :: st)) := by
  subst hp
  obtain ⟨vm0, k0, locs, b0, X, eT, hS, hk, hZ, hown, r⟩ := W
  obtain ⟨cl, A, e1, -, -⟩ := F
  obtain ⟨q1, q2⟩ := in_of e1 hj hv
  exact k.by fun t q => X.aaload hx (by rw [eT]; exact A.1) (State.isArrayOf_alike hZ.alike A.2.1) hty A.2.2 q1 q2 (g := mkF m pc Ls (.int j :: .ref a :: st)) rfl rfl hd t q
theorem w_initO (W : Wk p l e R s m args below meth c Z EL own ws nw T h cells slots) (hx : p.tables.exec = Jvm.exec) {idx : Nat} (w1 : (Cond.methodLink own idx Lib.objectInit).before a0 Z = true) (w2 : (Cond.instanceMethod Lib.objectInit).before a0 Z = true) (w3 : (Cond.code Lib.objectInit ⟨#[0xb1]⟩ 1 none).before a0 Z = true) {a : Nat} (hsz : Ls.size = c.maxLocals) (hd : decode c.code pc = .ok (.invokespecial idx, 3)) (hf : 1 ≤ R.frames) (hW : (st.map fun v => v.category).sum + 12 ≤ R.locals) (hp : pc + 3 = pc')
    (k : ∀ T', Wk p l e R s m args below meth c Z EL own ws nw T' h cells slots → Gets p.tables e below P T' (mkF m pc' Ls st)) : Gets p.tables e below P T (mkF m pc Ls (.ref a :: st)) := by
  subst hp
  obtain ⟨vm0, k0, locs, b0, X, eT, hS, hk, hZ, hown, r⟩ := W
  obtain ⟨T', X', e', stp⟩ := initO X hx hZ hown w1 w2 w3 eT (g := mkF m pc Ls (.ref a :: st)) rfl hsz rfl hd hf (W := (st.map fun v => v.category).sum) (by show 2 * 0 + _ ≤ _; omega) hW
  exact (k T' ⟨vm0, k0, locs, b0, X', e', hS, hk, hZ, hown, r⟩).by stp
/-! steps that move the heap -/
theorem w_new (W : Wk p l e R s m args below meth c Z EL own ws nw T h cells slots) (hx : p.tables.exec = Jvm.exec) {C : String} {index n : Nat} (w : (Cond.classLink own index C).before a0 Z = true) (wi : (Cond.instantiable C n).before a0 Z = true) (wz : (Cond.initialized C).before a0 Z = true) (hd : decode c.code pc = .ok (.new index, 3)) (hc : cells + 1 ≤ R.cells) (hl : slots + n ≤ R.slots) (hp : pc + 3 = pc')
    (k : ∀ (T' : State) (h' : Heap) (b : Nat), b = h.size → Wk p l e R s m args below meth c Z EL own ws (b :: nw) T' h' (cells + 1) (slots + n) → Keep h h' [] → Exa Z h' b C → (∀ {O nm d : String} {ty : FieldType}, Laid Z a0 C O nm d → parseFieldDescriptor d = some ty → Fld Z h' b O nm d (defaultValue ty)) → Gets p.tables e below P T' (mkF m pc' Ls (.ref b :: st))) : Gets p.tables e below P T (mkF m pc Ls st) := by
  subst hp
  obtain ⟨vm0, k0, locs, b0, X, eT, hS, hk, hZ, hown, hE, hC, hF, hO, hK, n1, n2⟩ := W
  obtain ⟨T', h', X', e', E, A, D, -, stp⟩ := newO X hx hZ hown w wi wz eT (g := mkF m pc Ls st) rfl hd hc hl
  have hn : h.size < h'.size := A.lt
  have hs : s.heap.size ≤ h.size := hK.1
  refine (k T' h' h.size rfl ⟨vm0, k0, locs, b0, X', e', hS, Nat.le_trans hk E.1, hZ, hown, hE, hC.trans (CHr.ext E hC.1), hF, ⟨Nat.le_trans hO.1 E.1, fun a c q => E.2 a c (hO.2 a c q)⟩, hK.ext E, fun x hx => ?_, fun x hx => ?_⟩ ((Keep.refl h []).ext E) A D).by stp
  · obtain ⟨a, b, c⟩ := n1 x hx
    exact ⟨a, Nat.lt_of_lt_of_le b E.1, c.ext E hC.1⟩
  · rcases List.mem_cons.mp hx with rfl | hx
    · exact ⟨hs, hO.1, hn, Safe.ext E hC.1 (Safe.new (Nat.le_refl _))⟩
    · obtain ⟨a, b, c, d⟩ := n2 x hx
      exact ⟨a, b, Nat.lt_of_lt_of_le c E.1, d.ext E hC.1⟩
theorem w_newarr (W : Wk p l e R s m args below meth c Z EL own ws nw T h cells slots) (hx : p.tables.exec = Jvm.exec) {aty : ArrayType} (w : (Cond.arrayClass (newarray.typeOf aty)).before a0 Z = true) {n : Int32} (hd : decode c.code pc = .ok (.newarray aty, 2)) (hn : ¬ n < 0) {cap : Nat} (hcap : n.toNatClampNeg ≤ cap) (hb : cap * 8 ≤ 536870912) (hc : cells + 1 ≤ R.cells) (hl : slots + cap ≤ R.slots) (hf : fits (newarray.typeOf aty) (defaultValue (newarray.typeOf aty)) = true) (hp : pc + 2 = pc')
    (k : ∀ (T' : State) (h' : Heap) (b : Nat), b = h.size → Wk p l e R s m args below meth c Z EL own ws (b :: nw) T' h' (cells + 1) (slots + cap) → Keep h h' [] → Ary Z h' b (newarray.typeOf aty) (List.replicate n.toNatClampNeg (defaultValue (newarray.typeOf aty))) → Gets p.tables e below P T' (mkF m pc' Ls (.ref b :: st))) : Gets p.tables e below P T (mkF m pc Ls (.int n :: st)) := by
  subst hp
  obtain ⟨vm0, k0, locs, b0, X, eT, hS, hk, hZ, hown, hE, hC, hF, hO, hK, n1, n2⟩ := W
  obtain ⟨T', h', cA, X', e', E, A, stp⟩ := newP X hx hZ w eT (g := mkF m pc Ls (.int n :: st)) rfl hd rfl hn hcap hb hc hl
  have hn' : h.size < h'.size := A.lt
  have hs : s.heap.size ≤ h.size := hK.1
  refine (k T' h' h.size rfl ⟨vm0, k0, locs, b0, X', e', hS, Nat.le_trans hk E.1, hZ, hown, hE, hC.trans (CHr.ext E hC.1), hF, ⟨Nat.le_trans hO.1 E.1, fun a c q => E.2 a c (hO.2 a c q)⟩, hK.ext E, fun x hx => ?_, fun x hx => ?_⟩ ((Keep.refl h []).ext E) (Ary.made A hn hf)).by stp
  · obtain ⟨a, b, c⟩ := n1 x hx
    exact ⟨a, Nat.lt_of_lt_of_le b E.1, c.ext E hC.1⟩
  · rcases List.mem_cons.mp hx with rfl | hx
    · exact ⟨hs, hO.1, hn', Safe.ext E hC.1 (Safe.new (Nat.le_refl _))⟩
    · obtain ⟨a, b, c, d⟩ := n2 x hx
      exact ⟨a, b, Nat.lt_of_lt_of_le c E.1, d.ext E hC.1⟩
theorem Wk.wrote {vm0 : Vm} {k0 : Nat} {locs : List Loc} {b0 : Array Value} {T' : State} {h' : Heap} {a : Nat} {sl : Nat} {v : Value} (ha : a ∈ ws ++ nw) (WW : Wr h h' a sl v) (X' : Stand p l e R (s.setVm vm0) m args below meth c T' (locs ++ [⟨a, sl⟩]) cells slots) (e' : T'.heap = h')
    (r : s.Since vm0 k0 ∧ k0 ≤ h.size ∧ Z.Warmed39 vm0 ∧ vm0.findClass own = some m.cls ∧ EW Z b0 EL ∧ CHr Z EL s.vm s.heap vm0 h ∧ Fr Z.heap.size locs ∧ Ext Z.heap h ∧ Keep s.heap h ws ∧ (∀ x : Nat, x ∈ ws → Z.heap.size ≤ x ∧ x < h.size ∧ Safe Z EL vm0 h x) ∧ (∀ x : Nat, x ∈ nw → s.heap.size ≤ x ∧ Z.heap.size ≤ x ∧ x < h.size ∧ Safe Z EL vm0 h x)) :
    Wk p l e R s m args below meth c Z EL own ws nw T' h' cells slots := by
  obtain ⟨hS, hk, hZ, hown, hE, hC, hF, hO, hK, n1, n2⟩ := r
  have sz := WW.size
  have key : Z.heap.size ≤ a ∧ Safe Z EL vm0 h a ∧ (a ∈ ws ∨ s.heap.size ≤ a) := by
    rcases List.mem_append.mp ha with q | q
    · exact ⟨(n1 a q).1, (n1 a q).2.2, Or.inl q⟩
    · exact ⟨(n2 a q).2.1, (n2 a q).2.2.2, Or.inr (n2 a q).1⟩
  have K1 : Keep h h' [a] := Keep.of_wr WW
  refine ⟨vm0, k0, locs ++ [⟨a, sl⟩], b0, X', e', hS, by omega, hZ, hown, hE, hC.trans (CHr.wr WW key.2.1 hC.1), Fr.snoc X' hF key.1, ⟨by have := hO.1; omega, fun x cc q => K1.2.1 x cc (hO.2 x cc q) fun z => ?_⟩, hK.wr WW key.2.2, fun x hx => ?_, fun x hx => ?_⟩
  · cases List.mem_singleton.mp z
    have := (Array.getElem?_eq_some_iff.mp q).1
    omega
  · obtain ⟨q1, q2, q3⟩ := n1 x hx
    exact ⟨q1, by omega, Safe.wr WW key.2.1 hC.1 q3⟩
  · obtain ⟨q1, q2, q3, q4⟩ := n2 x hx
    exact ⟨q1, q2, by omega, Safe.wr WW key.2.1 hC.1 q4⟩
theorem w_put (W : Wk p l e R s m args below meth c Z EL own ws nw T h cells slots) (hx : p.tables.exec = Jvm.exec) {R0 O n d C : String} {index kk : Nat} {ty : FieldType} (w : (Cond.fieldLink own index R0 n d).before a0 Z = true) (via : Via Z R0 O n d) {a : Nat} {v old : Value} (F : Fld Z h a O n d old) (E : Exa Z h a C) (L : (Cond.lays C O n d).before a0 Z = true ∨ ((Cond.laysFinal C O n d).before a0 Z = true ∧ own = O ∧ meth.name = "<init>")) (wi : (Cond.instantiable C kk).before a0 Z = true)
    (hty : parseFieldDescriptor d = some ty) (hn : narrow ty v = v) (hf : fits ty v = true) (ha : a ∈ ws ++ nw) (hd : decode c.code pc = .ok (.putfield index, 3)) (hp : pc + 3 = pc')
    (k : ∀ T' h', Wk p l e R s m args below meth c Z EL own ws nw T' h' cells slots → Keep h h' [a] → Wr h h' a (Jvm.RoadKit.slotOf Z O n d) v → Fld Z h' a O n d v → Exa Z h' a C → Gets p.tables e below P T' (mkF m pc' Ls st)) : Gets p.tables e below P T (mkF m pc Ls (v :: .ref a :: st)) := by
  subst hp
  obtain ⟨vm0, k0, locs, b0, X, eT, r⟩ := W
  obtain ⟨T', h', X', e', WW, stp⟩ := putF X hx r.2.2.1 r.2.2.2.1 (host := "") (Or.inl w) via eT F E L wi hty hn hf (g := mkF m pc Ls (v :: .ref a :: st)) rfl rfl hd
  exact (k T' h' (Wk.wrote ha WW X' e' r) (Keep.of_wr WW) WW (F.same WW) (E.wr WW)).by stp
theorem w_putN (W : Wk p l e R s m args below meth c Z EL own ws nw T h cells slots) (hx : p.tables.exec = Jvm.exec) {R0 O n d C : String} {index kk : Nat} {ty : FieldType} (w : (Cond.fieldLink own index R0 n d).before a0 Z = true) (via : Via Z R0 O n d) {a : Nat} {v v' old : Value} (F : Fld Z h a O n d old) (E : Exa Z h a C) (L : (Cond.lays C O n d).before a0 Z = true ∨ ((Cond.laysFinal C O n d).before a0 Z = true ∧ own = O ∧ meth.name = "<init>")) (wi : (Cond.instantiable C kk).before a0 Z = true)
    (hty : parseFieldDescriptor d = some ty) (hn : narrow ty v = v') (hf : fits ty v' = true) (ha : a ∈ ws ++ nw) (hd : decode c.code pc = .ok (.putfield index, 3)) (hp : pc + 3 = pc')
    (k : ∀ T' h', Wk p l e R s m args below meth c Z EL own ws nw T' h' cells slots → Keep h h' [a] → Wr h h' a (Jvm.RoadKit.slotOf Z O n d) v' → Fld Z h' a O n d v' → Exa Z h' a C → Gets p.tables e below P T' (mkF m pc' Ls st)) : Gets p.tables e below P T (mkF m pc Ls (v :: .ref a :: st)) := by
  subst hp
  obtain ⟨vm0, k0, locs, b0, X, eT, r⟩ := W
  obtain ⟨T', h', X', e', WW, stp⟩ := putFN X hx r.2.2.1 r.2.2.2.1 w via eT F E L wi hty hn hf (g := mkF m pc Ls (v :: .ref a :: st)) rfl rfl hd
  exact (k T' h' (Wk.wrote ha WW X' e' r) (Keep.of_wr WW) WW (F.same WW) (E.wr WW)).by stp
theorem w_castore (W : Wk p l e R s m args below meth c Z EL own ws nw T h cells slots) (hx : p.tables.exec = Jvm.exec) {a : Nat} {vs : List Value} {j x : Int32} (F : Ary Z h a .char vs) (hj : ¬ j < 0) (hi : j.toNatClampNeg < vs.length) (ha : a ∈ ws ++ nw) {x' : Int32} (hq : nar .char x = x') (hd : decode c.code pc = .ok (.castore, 1)) (hp : pc + 1 = pc')
    (k : ∀ T' h', Wk p l e R s m args below meth c Z EL own ws nw T' h' cells slots → Keep h h' [a] → Ary Z h' a .char (vs.set j.toNatClampNeg (.int x')) → Gets p.tables e below P T' (mkF m pc' Ls st)) : Gets p.tables e below P T (mkF m pc Ls (.int x :: .int j :: .ref a :: st)) := by
  subst hp; subst hq
  obtain ⟨vm0, k0, locs, b0, X, eT, r⟩ := W
  obtain ⟨cl, A, e1, e2, e3⟩ := F
  obtain ⟨T', h', X', e', WW, stp⟩ := stC X hx r.2.2.1 eT A (j := j) (x := x) (fun q => q.elim hj fun q => by rw [size_of_list e1] at q; omega) (g := mkF m pc Ls (.int x :: .int j :: .ref a :: st)) rfl rfl hd
  exact (k T' h' (Wk.wrote ha WW X' e' r) (Keep.of_wr WW) (Ary.wrote A e1 e2 e3 (fits_nar_char x) WW)).by stp
theorem w_bastore (W : Wk p l e R s m args below meth c Z EL own ws nw T h cells slots) (hx : p.tables.exec = Jvm.exec) {a : Nat} {vs : List Value} {j x : Int32} (F : Ary Z h a .byte vs) (hj : ¬ j < 0) (hi : j.toNatClampNeg < vs.length) (ha : a ∈ ws ++ nw) {x' : Int32} (hq : x.toInt8.toInt32 = x') (hd : decode c.code pc = .ok (.bastore, 1)) (hp : pc + 1 = pc')
    (k : ∀ T' h', Wk p l e R s m args below meth c Z EL own ws nw T' h' cells slots → Keep h h' [a] → Ary Z h' a .byte (vs.set j.toNatClampNeg (.int x')) → Gets p.tables e below P T' (mkF m pc' Ls st)) : Gets p.tables e below P T (mkF m pc Ls (.int x :: .int j :: .ref a :: st)) := by
  subst hp; subst hq
  obtain ⟨vm0, k0, locs, b0, X, eT, r⟩ := W
  obtain ⟨cl, A, e1, e2, e3⟩ := F
  obtain ⟨T', h', X', e', WW, stp⟩ := stB X hx r.2.2.1 eT A (j := j) (x := x) (fun q => q.elim hj fun q => by rw [size_of_list e1] at q; omega) (g := mkF m pc Ls (.int x :: .int j :: .ref a :: st)) rfl rfl hd
  exact (k T' h' (Wk.wrote ha WW X' e' r) (Keep.of_wr WW) (Ary.wrote A e1 e2 e3 (fits_nar_byte x) WW)).by stp
theorem w_iastore (W : Wk p l e R s m args below meth c Z EL own ws nw T h cells slots) (hx : p.tables.exec = Jvm.exec) {a : Nat} {vs : List Value} {j x : Int32} (F : Ary Z h a .int vs) (hj : ¬ j < 0) (hi : j.toNatClampNeg < vs.length) (ha : a ∈ ws ++ nw) (hd : decode c.code pc = .ok (.iastore, 1)) (hp : pc + 1 = pc')
    (k : ∀ T' h', Wk p l e R s m args below meth c Z EL own ws nw T' h' cells slots → Keep h h' [a] → Ary Z h' a .int (vs.set j.toNatClampNeg (.int x)) → Gets p.tables e below P T' (mkF m pc' Ls st)) : Gets p.tables e below P T (mkF m pc Ls (.int x :: .int j :: .ref a :: st)) := by
  subst hp
  obtain ⟨vm0, k0, locs, b0, X, eT, r⟩ := W
  obtain ⟨cl, A, e1, e2, e3⟩ := F
  obtain ⟨T', h', X', e', WW, stp⟩ := stI X hx r.2.2.1 eT A (j := j) (x := x) (fun q => q.elim hj fun q => by rw [size_of_list e1] at q; omega) (g := mkF m pc Ls (.int x :: .int j :: .ref a :: st)) rfl rfl hd
  exact (k T' h' (Wk.wrote ha WW X' e' r) (Keep.of_wr WW) (Ary.wrote A e1 e2 e3 rfl WW)).by stp
/-! calls -/
theorem backC {y : MethodName} {bytes : ByteArray} {maxL : Nat} {ret : Option FieldType} {rm : Room} {len W : Nat} {as' : Array Value} {Q : Option Value → Heap → Prop} {vm0 : Vm} {wsc : List Addr}
    (hM : Con l Z EL y bytes maxL ret rm as' h wsc Q) (hZ : Z.Warmed39 vm0) (wc : (Cond.code y bytes maxL ret).before a0 Z = true) (wz : (Cond.initialized y.cls).before a0 Z = true) (hf : rm.frames + 1 ≤ R.frames) (hl : W + (maxL + 11) + rm.locals ≤ R.locals) {b0 : Array Value} (hEL : EW Z b0 EL) (H : CHv Z EL vm0 h) (hs : ∀ x : Nat, x ∈ wsc → x < h.size ∧ Safe Z EL vm0 h x) :
    BackS l R p e below (s.setVm vm0) args y len W (fun A a => a = as' ∧ A.U.heap = h ∧ A.cells + rm.cells ≤ R.cells ∧ A.slots + rm.slots ≤ R.slots)
      (fun A _ v B => ∃ L, (Q v B.U.heap ∧ Fr Z.heap.size L ∧ Keep h B.U.heap wsc ∧ Ext Z.heap B.U.heap) ∧ B.locs = A.locs ++ L ∧ B.cells = A.cells + rm.cells ∧ B.slots = A.slots + rm.slots ∧ CHr Z EL vm0 h B.U.vm B.U.heap) :=
  BackS.of_freeW (bytes := bytes) (maxL := maxL) (ret := ret) (E := fun _ first o t L k n => k = rm.cells ∧ n = rm.slots ∧ (∃ v, o = .returned v ∧ (Q v t.heap ∧ Fr Z.heap.size L ∧ Keep h t.heap wsc ∧ Ext Z.heap t.heap)) ∧ CHr Z EL first.vm first.heap t.vm t.heap) hM hf hl
    (fun m meth c A a Y hp => have hU : Z.Warmed39 A.U.vm := wtrans (s := s.setVm vm0) hZ Y.warmed
      ⟨by show (Cond.and _ .tt).before a A.U = true; rw [Cond.before_and, mv hU wc]; rfl, mv hU wc, mv hU wz, hp.2.2.1, hp.2.2.2⟩)
    (fun m meth c A a g mk Y hp => ⟨hp.1, wtrans (s := s.setVm vm0) hZ Y.warmed, hp.2.1, (CHv.at Y hZ hEL H).1, fun x hx => (CHv.at Y hZ hEL H).safe (hs x hx).1 (hs x hx).2⟩) (fun _ _ _ _ _ _ _ _ _ => trivial)
    (fun _ _ _ _ ⟨v, L, h1, h2, h3, h4⟩ => ⟨L, _, _, h4, rfl, rfl, ⟨v, h1, h2⟩, h3⟩)
    (fun m meth c A a g mk v t L k n Y hp _ _ ⟨e1, e2, ⟨v', e3, e4⟩, e5⟩ => by
      cases e3; subst e1 e2
      refine ⟨L, e4, rfl, rfl, rfl, (CHv.at Y hZ hEL H).trans ?_⟩
      rw [← hp.2.1]; exact e5)
theorem Wk.called {vm0 : Vm} {k0 : Nat} {locs L : List Loc} {b0 : Array Value} {T' : State} {h' : Heap} {wsc : List Addr} {n c' s' : Nat} (hw : ∀ x ∈ wsc, x ∈ ws ++ nw) (X' : Stand p l e R ((s.setVm vm0).setVm T'.vm) m args below meth c T' (locs ++ L) c' s') (e' : T'.heap = h') (h2 : (s.setVm vm0).Since T'.vm n) (hn : n ≤ h'.size) (hln : h.size ≤ n) (F : Fr Z.heap.size L) (K : Keep h h' wsc) (O' : Ext Z.heap h') (C' : CHr Z EL vm0 h T'.vm h')
    (r : s.Since vm0 k0 ∧ k0 ≤ h.size ∧ Z.Warmed39 vm0 ∧ vm0.findClass own = some m.cls ∧ EW Z b0 EL ∧ CHr Z EL s.vm s.heap vm0 h ∧ Fr Z.heap.size locs ∧ Ext Z.heap h ∧ Keep s.heap h ws ∧ (∀ x : Nat, x ∈ ws → Z.heap.size ≤ x ∧ x < h.size ∧ Safe Z EL vm0 h x) ∧ (∀ x : Nat, x ∈ nw → s.heap.size ≤ x ∧ Z.heap.size ≤ x ∧ x < h.size ∧ Safe Z EL vm0 h x)) :
    Wk p l e R s m args below meth c Z EL own ws nw T' h' c' s' := by
  obtain ⟨hS, hk, hZ, hown, hE, hC, hF, hO, hK, n1, n2⟩ := r
  have sz := K.1
  refine ⟨T'.vm, n, locs ++ L, b0, X', e', hS.trans h2 (by omega), hn, State.Warmed39.trans (t := s.setVm vm0) hZ h2.1, (h2.1.alike.findClass _ _).trans hown, hE, hC.trans C', Fr.app hF F, O', hK.trans K (fun x hx => ?_), fun x hx => ?_, fun x hx => ?_⟩
  · rcases List.mem_append.mp (hw x hx) with q | q
    · exact Or.inl q
    · exact Or.inr (n2 x q).1
  · obtain ⟨q1, q2, q3⟩ := n1 x hx
    exact ⟨q1, by omega, C'.safe q2 q3⟩
  · obtain ⟨q1, q2, q3, q4⟩ := n2 x hx
    exact ⟨q1, q2, by omega, C'.safe q3 q4⟩
theorem w_callS (W : Wk p l e R s m args below meth c Z EL own ws nw T h cells slots) (hx : p.tables.exec = Jvm.exec) {index : Nat} {y : MethodName} {bytes : ByteArray} {maxL : Nat} {ret : Option FieldType} {rm : Room} {Q : Option Value → Heap → Prop} {wsc : List Addr} (argsL : List Value)
    (w1 : (Cond.methodLink own index y).before a0 Z = true) (w2 : (Cond.static y).before a0 Z = true) (w3 : (Cond.initialized y.cls).before a0 Z = true) (w4 : (Cond.code y bytes maxL ret).before a0 Z = true) (hy : y.cls ≠ "java/lang/invoke/MethodHandle" ∧ y.cls ≠ "java/lang/invoke/VarHandle")
    (H : Con l Z EL y bytes maxL ret rm argsL.toArray h wsc Q) (hwc : ∀ x ∈ wsc, x ∈ ws ++ nw) (hsz : Ls.size = c.maxLocals) (hlen : ∀ sig, parseMethodDescriptor y.desc = some sig → argsL.length = sig.parameters.length) {stk : List Value} (hstk : stk = argsL.reverse ++ st) (hd : decode c.code pc = .ok (.invokestatic index, 3))
    (hf : rm.frames + 1 ≤ R.frames) (hl : (st.map fun v => v.category).sum + (maxL + 11) + rm.locals ≤ R.locals) (hc : cells + rm.cells ≤ R.cells) (hs : slots + rm.slots ≤ R.slots) (hp : pc + 3 = pc')
    (k : ∀ v T' h', Wk p l e R s m args below meth c Z EL own ws nw T' h' (cells + rm.cells) (slots + rm.slots) → Keep h h' wsc → Q v h' → Gets p.tables e below P T' (mkF m pc' Ls (v.toList ++ st))) : Gets p.tables e below P T (mkF m pc Ls stk) := by
  subst hp
  obtain ⟨vm0, k0, locs, b0, X, eT, r⟩ := W
  obtain ⟨hS, hk, hZ, hown, hE, hC, hF, hO, hK, n1, n2⟩ := id r
  have sf : ∀ x : Nat, x ∈ wsc → x < h.size ∧ Safe Z EL vm0 h x := fun x hx => by
    rcases List.mem_append.mp (hwc x hx) with q | q
    · exact (n1 x q).2
    · exact (n2 x q).2.2
  obtain ⟨v, vm1, ⟨T', L', c', s'⟩, -, X', hS2, hg2, ⟨L, ⟨q1, q2, q3, q4⟩, l1, l2, l3, C'⟩, stp⟩ := callSS X hx (y := y) hown (mv (s := s.setVm vm0) hZ w1) (mv (s := s.setVm vm0) hZ w2) (mv (s := s.setVm vm0) hZ w3) (mv (s := s.setVm vm0) hZ w4) hy (backC (W := (st.map fun v => v.category).sum) H hZ w4 w3 hf hl hE hC.1 sf) (g := mkF m pc Ls stk) rfl hsz (argsL := argsL) (rest := st) hlen hstk (by show 2 * 0 + _ ≤ _; omega) hd (fun _ _ => ⟨rfl, eT, hc, hs⟩)
  dsimp only [Pt.U, Pt.locs, Pt.cells, Pt.slots] at X' hS2 hg2 q1 q3 q4 l1 l2 l3 C' stp
  subst l1 l2 l3
  exact (k v T' _ (Wk.called (h' := T'.heap) hwc X' rfl hS2 (Nat.le_refl _) (by rw [← eT]; exact hg2) q2 q3 q4 C' r) q3 q1).by fun t q => stp.trans q
theorem w_special (W : Wk p l e R s m args below meth c Z EL own ws nw T h cells slots) (hx : p.tables.exec = Jvm.exec) {index : Nat} {y : MethodName} {bytes : ByteArray} {maxL : Nat} {rm : Room} {Q : Option Value → Heap → Prop} {wsc : List Addr} {a : Nat} (argsL : List Value) (hy1 : y.name = "<init>")
    (w1 : (Cond.methodLink own index y).before a0 Z = true) (w2 : (Cond.instanceMethod y).before a0 Z = true) (w3 : (Cond.initialized y.cls).before a0 Z = true) (w4 : (Cond.code y bytes maxL none).before a0 Z = true) (hy : y.cls ≠ "java/lang/invoke/MethodHandle" ∧ y.cls ≠ "java/lang/invoke/VarHandle")
    (H : Con l Z EL y bytes maxL none rm (.ref a :: argsL).toArray h wsc Q) (hwc : ∀ x ∈ wsc, x ∈ ws ++ nw) (hsz : Ls.size = c.maxLocals) (hlen : ∀ sig, parseMethodDescriptor y.desc = some sig → argsL.length = sig.parameters.length) {stk : List Value} (hstk : stk = argsL.reverse ++ .ref a :: st) (hd : decode c.code pc = .ok (.invokespecial index, 3))
    (hf : rm.frames + 1 ≤ R.frames) (hl : (st.map fun v => v.category).sum + (maxL + 11) + rm.locals ≤ R.locals) (hc : cells + rm.cells ≤ R.cells) (hs : slots + rm.slots ≤ R.slots) (hp : pc + 3 = pc')
    (k : ∀ v T' h', Wk p l e R s m args below meth c Z EL own ws nw T' h' (cells + rm.cells) (slots + rm.slots) → Keep h h' wsc → Q v h' → Gets p.tables e below P T' (mkF m pc' Ls (v.toList ++ st))) : Gets p.tables e below P T (mkF m pc Ls stk) := by
  subst hp
  obtain ⟨vm0, k0, locs, b0, X, eT, r⟩ := W
  obtain ⟨hS, hk, hZ, hown, hE, hC, hF, hO, hK, n1, n2⟩ := id r
  have sf : ∀ x : Nat, x ∈ wsc → x < h.size ∧ Safe Z EL vm0 h x := fun x hx => by
    rcases List.mem_append.mp (hwc x hx) with q | q
    · exact (n1 x q).2
    · exact (n2 x q).2.2
  obtain ⟨v, vm1, ⟨T', L', c', s'⟩, -, X', hS2, hg2, ⟨L, ⟨q1, q2, q3, q4⟩, l1, l2, l3, C'⟩, stp⟩ := X.specialBackS hx (y := y) hy1 hown (mv (s := s.setVm vm0) hZ w1) (mv (s := s.setVm vm0) hZ w2) (mv (s := s.setVm vm0) hZ w4) hy (backC (W := (st.map fun v => v.category).sum) H hZ w4 w3 hf hl hE hC.1 sf) (g := mkF m pc Ls stk) rfl hsz (Steps.refl _) (a := a) (argsL := argsL) (rest := st) hlen hstk (by show 2 * 0 + _ ≤ _; omega) hd (fun _ _ => ⟨rfl, eT, hc, hs⟩)
  dsimp only [Pt.U, Pt.locs, Pt.cells, Pt.slots] at X' hS2 hg2 q1 q3 q4 l1 l2 l3 C' stp
  subst l1 l2 l3
  exact (k v T' _ (Wk.called (h' := T'.heap) hwc X' rfl hS2 (Nat.le_refl _) (by rw [← eT]; exact hg2) q2 q3 q4 C' r) q3 q1).by fun t q => stp.trans q
theorem w_virtual (W : Wk p l e R s m args below meth c Z EL own ws nw T h cells slots) (hx : p.tables.exec = Jvm.exec) {index : Nat} {y z : MethodName} {C : String} {bytes : ByteArray} {maxL : Nat} {ret : Option FieldType} {rm : Room} {Q : Option Value → Heap → Prop} {wsc : List Addr} {a : Nat} (argsL : List Value)
    (w1 : (Cond.methodLink own index y).before a0 Z = true) (w2 : (Cond.declares y).before a0 Z = true) (hnf : ∀ {U : State}, Z.Warmed39 U.vm → NotFace U y) (w3 : (Cond.selects C y z).before a0 Z = true) (w5 : (Cond.instanceMethod z).before a0 Z = true) (w6 : (Cond.initialized z.cls).before a0 Z = true) (w4 : (Cond.code z bytes maxL ret).before a0 Z = true) (hy : y.cls ≠ "java/lang/invoke/MethodHandle" ∧ y.cls ≠ "java/lang/invoke/VarHandle")
    (H : Con l Z EL z bytes maxL ret rm (.ref a :: argsL).toArray h wsc Q) (E : Exa Z h a C) (hwc : ∀ x ∈ wsc, x ∈ ws ++ nw) (hsz : Ls.size = c.maxLocals) (hlen : ∀ sig, parseMethodDescriptor y.desc = some sig → argsL.length = sig.parameters.length) {stk : List Value} (hstk : stk = argsL.reverse ++ .ref a :: st) (hd : decode c.code pc = .ok (.invokevirtual index, 3))
    (hf : rm.frames + 1 ≤ R.frames) (hl : (st.map fun v => v.category).sum + (maxL + 11) + rm.locals ≤ R.locals) (hc : cells + rm.cells ≤ R.cells) (hs : slots + rm.slots ≤ R.slots) (hp : pc + 3 = pc')
    (k : ∀ v T' h', Wk p l e R s m args below meth c Z EL own ws nw T' h' (cells + rm.cells) (slots + rm.slots) → Keep h h' wsc → Q v h' → Gets p.tables e below P T' (mkF m pc' Ls (v.toList ++ st))) : Gets p.tables e below P T (mkF m pc Ls stk) := by
  subst hp
  obtain ⟨vm0, k0, locs, b0, X, eT, r⟩ := W
  obtain ⟨hS, hk, hZ, hown, hE, hC, hF, hO, hK, n1, n2⟩ := id r
  have sf : ∀ x : Nat, x ∈ wsc → x < h.size ∧ Safe Z EL vm0 h x := fun x hx => by
    rcases List.mem_append.mp (hwc x hx) with q | q
    · exact (n1 x q).2
    · exact (n2 x q).2.2
  obtain ⟨cq, kq, qa, qb, qc⟩ := isOf (s := s.setVm vm0) hZ eT E
  obtain ⟨v, vm1, ⟨T', L', c', s'⟩, -, X', hS2, hg2, ⟨L, ⟨q1, q2, q3, q4⟩, l1, l2, l3, C'⟩, stp⟩ := X.virtualBackS hx (y := y) (z := z) hown (mv (s := s.setVm vm0) hZ w1) (mv (s := s.setVm vm0) hZ w2) (hnf (U := s.setVm vm0) hZ) (mv (s := s.setVm vm0) hZ w3) (mv (s := s.setVm vm0) hZ w5) hy (backC (W := (st.map fun v => v.category).sum) H hZ w4 w6 hf hl hE hC.1 sf) qa qc (g := mkF m pc Ls stk) rfl hsz (Steps.refl _) (argsL := argsL) (rest := st) hlen hstk (by show 2 * 0 + _ ≤ _; omega) hd (fun _ _ => ⟨rfl, eT, hc, hs⟩)
  dsimp only [Pt.U, Pt.locs, Pt.cells, Pt.slots] at X' hS2 hg2 q1 q3 q4 l1 l2 l3 C' stp
  subst l1 l2 l3
  exact (k v T' _ (Wk.called (h' := T'.heap) hwc X' rfl hS2 (Nat.le_refl _) (by rw [← eT]; exact hg2) q2 q3 q4 C' r) q3 q1).by fun t q => stp.trans q
theorem w_virtualUp (W : Wk p l e R s m args below meth c Z EL own ws nw T h cells slots) (hx : p.tables.exec = Jvm.exec) {index : Nat} {y z : MethodName} {C owner : String} {bytes : ByteArray} {maxL : Nat} {ret : Option FieldType} {rm : Room} {Q : Option Value → Heap → Prop} {wsc : List Addr} {a : Nat} (argsL : List Value)
    (w1 : (Cond.methodLink own index y).before a0 Z = true) (w7 : (Cond.sameMethod y.cls owner y.name y.desc).before a0 Z = true) (w2 : (Cond.declares ⟨owner, y.name, y.desc⟩).before a0 Z = true) (w3 : (Cond.selects C y z).before a0 Z = true) (w5 : (Cond.instanceMethod z).before a0 Z = true) (w6 : (Cond.initialized z.cls).before a0 Z = true) (w4 : (Cond.code z bytes maxL ret).before a0 Z = true) (hy : owner ≠ "java/lang/invoke/MethodHandle" ∧ owner ≠ "java/lang/invoke/VarHandle")
    (H : Con l Z EL z bytes maxL ret rm (.ref a :: argsL).toArray h wsc Q) (E : Exa Z h a C) (hwc : ∀ x ∈ wsc, x ∈ ws ++ nw) (hsz : Ls.size = c.maxLocals) (hlen : ∀ sig, parseMethodDescriptor y.desc = some sig → argsL.length = sig.parameters.length) {stk : List Value} (hstk : stk = argsL.reverse ++ .ref a :: st) (hd : decode c.code pc = .ok (.invokevirtual index, 3))
    (hf : rm.frames + 1 ≤ R.frames) (hl : (st.map fun v => v.category).sum + (maxL + 11) + rm.locals ≤ R.locals) (hc : cells + rm.cells ≤ R.cells) (hs : slots + rm.slots ≤ R.slots) (hp : pc + 3 = pc')
    (k : ∀ v T' h', Wk p l e R s m args below meth c Z EL own ws nw T' h' (cells + rm.cells) (slots + rm.slots) → Keep h h' wsc → Q v h' → Gets p.tables e below P T' (mkF m pc' Ls (v.toList ++ st))) : Gets p.tables e below P T (mkF m pc Ls stk) := by
  subst hp
  obtain ⟨vm0, k0, locs, b0, X, eT, r⟩ := W
  obtain ⟨hS, hk, hZ, hown, hE, hC, hF, hO, hK, n1, n2⟩ := id r
  have sf : ∀ x : Nat, x ∈ wsc → x < h.size ∧ Safe Z EL vm0 h x := fun x hx => by
    rcases List.mem_append.mp (hwc x hx) with q | q
    · exact (n1 x q).2
    · exact (n2 x q).2.2
  obtain ⟨cq, kq, qa, qb, qc⟩ := isOf (s := s.setVm vm0) hZ eT E
  obtain ⟨v, vm1, ⟨T', L', c', s'⟩, -, X', hS2, hg2, ⟨L, ⟨q1, q2, q3, q4⟩, l1, l2, l3, C'⟩, stp⟩ := X.virtualBackUpS hx (x := y) (y := z) hown (mv (s := s.setVm vm0) hZ w1) (mv (s := s.setVm vm0) hZ w7) (mv (s := s.setVm vm0) hZ w2) hy (mv (s := s.setVm vm0) hZ w3) (mv (s := s.setVm vm0) hZ w5) (backC (W := (st.map fun v => v.category).sum) H hZ w4 w6 hf hl hE hC.1 sf) qa qc (g := mkF m pc Ls stk) rfl hsz (Steps.refl _) (argsL := argsL) (rest := st) hlen hstk (by show 2 * 0 + _ ≤ _; omega) hd (fun _ _ => ⟨rfl, eT, hc, hs⟩)
  dsimp only [Pt.U, Pt.locs, Pt.cells, Pt.slots] at X' hS2 hg2 q1 q3 q4 l1 l2 l3 C' stp
  subst l1 l2 l3
  exact (k v T' _ (Wk.called (h' := T'.heap) hwc X' rfl hS2 (Nat.le_refl _) (by rw [← eT]; exact hg2) q2 q3 q4 C' r) q3 q1).by fun t q => stp.trans q
theorem nfS {y z : MethodName} {C : String} (w : (Cond.selects C y y).before a0 Z = true) {U : State} (hZ : Z.Warmed39 U.vm) : NotFace U y := notFace_of_selects (args := #[]) (mv hZ w)
theorem w_iface (W : Wk p l e R s m args below meth c Z EL own ws nw T h cells slots) (hx : p.tables.exec = Jvm.exec) {index count : Nat} {y z : MethodName} {C : String} {bytes : ByteArray} {maxL : Nat} {ret : Option FieldType} {rm : Room} {Q : Option Value → Heap → Prop} {wsc : List Addr} {a : Nat} (argsL : List Value)
    (w1 : (Cond.methodLink own index y).before a0 Z = true) (w2 : (Cond.declares y).before a0 Z = true) (w7 : (Cond.interfaceMethod y.cls y.cls y.name y.desc).before a0 Z = true) (w3 : (Cond.selects C y z).before a0 Z = true) (w5 : (Cond.instanceMethod z).before a0 Z = true) (w8 : (Cond.publicMethod z).before a0 Z = true) (w9 : (Cond.unhidden C y.name y.desc).before a0 Z = true) (w10 : (Cond.castable C y.cls).before a0 Z = true) (w6 : (Cond.initialized z.cls).before a0 Z = true) (w4 : (Cond.code z bytes maxL ret).before a0 Z = true) (hy : y.cls ≠ "java/lang/invoke/MethodHandle" ∧ y.cls ≠ "java/lang/invoke/VarHandle")
    (H : Con l Z EL z bytes maxL ret rm (.ref a :: argsL).toArray h wsc Q) (E : Exa Z h a C) (hwc : ∀ x ∈ wsc, x ∈ ws ++ nw) (hsz : Ls.size = c.maxLocals) (hlen : ∀ sig, parseMethodDescriptor y.desc = some sig → argsL.length = sig.parameters.length) {stk : List Value} (hstk : stk = argsL.reverse ++ .ref a :: st) (hd : decode c.code pc = .ok (.invokeinterface index count, 5))
    (hf : rm.frames + 1 ≤ R.frames) (hl : (st.map fun v => v.category).sum + (maxL + 11) + rm.locals ≤ R.locals) (hc : cells + rm.cells ≤ R.cells) (hs : slots + rm.slots ≤ R.slots) (hp : pc + 5 = pc')
    (k : ∀ v T' h', Wk p l e R s m args below meth c Z EL own ws nw T' h' (cells + rm.cells) (slots + rm.slots) → Keep h h' wsc → Q v h' → Gets p.tables e below P T' (mkF m pc' Ls (v.toList ++ st))) : Gets p.tables e below P T (mkF m pc Ls stk) := by
  subst hp
  obtain ⟨vm0, k0, locs, b0, X, eT, r⟩ := W
  obtain ⟨hS, hk, hZ, hown, hE, hC, hF, hO, hK, n1, n2⟩ := id r
  have sf : ∀ x : Nat, x ∈ wsc → x < h.size ∧ Safe Z EL vm0 h x := fun x hx => by
    rcases List.mem_append.mp (hwc x hx) with q | q
    · exact (n1 x q).2
    · exact (n2 x q).2.2
  obtain ⟨cq, kq, qa, qb, qc⟩ := isOf (s := s.setVm vm0) hZ eT E
  obtain ⟨v, vm1, ⟨T', L', c', s'⟩, -, X', hS2, hg2, ⟨L, ⟨q1, q2, q3, q4⟩, l1, l2, l3, C'⟩, stp⟩ := X.interfaceBackS hx (xi := y) (y := z) hown (mv (s := s.setVm vm0) hZ w1) (mv (s := s.setVm vm0) hZ w2) (mv (s := s.setVm vm0) hZ w7 (by simp [Cond.onTables, Cond.keepsFace, Cond.keeps, Cond.steady, Cond.faceAtom, hy.1, hy.2])) (mv (s := s.setVm vm0) hZ w3) (mv (s := s.setVm vm0) hZ w5) (mv (s := s.setVm vm0) hZ w8) (mv (s := s.setVm vm0) hZ w9) (mv (s := s.setVm vm0) hZ w10) hy (backC (W := (st.map fun v => v.category).sum) H hZ w4 w6 hf hl hE hC.1 sf) qa qb qc (g := mkF m pc Ls stk) rfl hsz (Steps.refl _) (argsL := argsL) (rest := st) hlen hstk (by show 2 * 0 + _ ≤ _; omega) hd (fun _ _ => ⟨rfl, eT, hc, hs⟩)
  dsimp only [Pt.U, Pt.locs, Pt.cells, Pt.slots] at X' hS2 hg2 q1 q3 q4 l1 l2 l3 C' stp
  subst l1 l2 l3
  exact (k v T' _ (Wk.called (h' := T'.heap) hwc X' rfl hS2 (Nat.le_refl _) (by rw [← eT]; exact hg2) q2 q3 q4 C' r) q3 q1).by fun t q => stp.trans q
/-! String constants -/
theorem w_ldcS (W : Wk p l e R s m args below meth c Z EL own ws nw T h cells slots) (hx : p.tables.exec = Jvm.exec) {index : Nat} {text : String} (w : (Cond.stringLink own index text).before a0 Z = true) (wS : ∀ a ∈ Bundle.stringAtoms, a.before a0 Z = true) (hmem : (own, index) ∈ EL) {vs : List Value} {z : Int32} (ht : (∀ c ∈ text.toList, c.toNat < 256) ∧ text.toList.map (fun c => Value.int (Jvm.Lit.byteI c.toNat.toUInt16)) = vs) (hz : ¬ z < 0) (hzl : z.toNatClampNeg = vs.length)
    (hd : decode c.code pc = .ok (.ldc index, 2)) (n : Nat) (hn : 4 * text.toList.length ≤ n) (hbig : n ≤ 536870912) (hc : cells + 2 ≤ R.cells) (hl : slots + (n + 4) ≤ R.slots) (hp : pc + 2 = pc')
    (k : ∀ (T' : State) (h' : Heap) (a b : Nat), Wk p l e R s m args below meth c Z EL own ws nw T' h' (cells + 2) (slots + (n + 4)) → Keep h h' [] → Exa Z h' a "java/lang/String" → Fld Z h' a "java/lang/String" "coder" "B" (.int 0) → Fld Z h' a "java/lang/String" "value" "[B" (.ref b) → Ary Z h' b .byte vs → (∀ x ∈ ws ++ nw, x ≠ a ∧ x ≠ b) → Gets p.tables e below P T' (mkF m pc' Ls (.ref a :: st))) : Gets p.tables e below P T (mkF m pc Ls st) := by
  subst hp
  obtain ⟨vm0, k0, locs, b0, X, eT, hS, hk, hZ, hown, hE, hC, hF, hO, hK, n1, n2⟩ := W
  obtain ⟨a, T', h', k1, b, cb, X', e', E, hS2, hk2, hZ2, hown2, A, F1, F2, V, la, lb, C', -, hne, stp⟩ := ldcCH X hx hZ hown w wS eT hS hk hE hmem hC.1 ht hz hzl (g := mkF m pc Ls st) rfl hd hn hbig hc hl
  have sz := E.1
  have N1 : ∀ x : Nat, x ∈ ws → Z.heap.size ≤ x ∧ x < h'.size ∧ Safe Z EL T'.vm h' x := fun x hx => by
    obtain ⟨q1, q2, q3⟩ := n1 x hx
    exact ⟨q1, by omega, C'.safe q2 q3⟩
  have N2 : ∀ x : Nat, x ∈ nw → s.heap.size ≤ x ∧ Z.heap.size ≤ x ∧ x < h'.size ∧ Safe Z EL T'.vm h' x := fun x hx => by
    obtain ⟨q1, q2, q3, q4⟩ := n2 x hx
    exact ⟨q1, q2, by omega, C'.safe q3 q4⟩
  refine (k T' h' a b ⟨T'.vm, k1, locs, b0, X', e', hS2, hk2, hZ2, hown2, hE, hC.trans C', hF, ⟨Nat.le_trans hO.1 E.1, fun x cc q => E.2 x cc (hO.2 x cc q)⟩, hK.ext E, N1, N2⟩ ((Keep.refl h []).ext E) A F1 F2 (Ary.of_arv V hzl) fun x hx => ?_).by stp
  rcases List.mem_append.mp hx with q | q
  · exact hne x (N1 x q).2.2
  · exact hne x (N2 x q).2.2.2
end OwnWalk
section OwnPure
variable {p : Program} {l : Launch} {e : Env} {R : Room} {s : State} {m : MethodId} {args : Array Value} {below : List Frame} {meth : Method} {c : Code} {T : State} {Z : State} {a0 : Array Value} {h : Heap} {EL : List (String × Nat)} {own : String} {cells slots : Nat} {ws nw : List Addr} {P : Outcome → State → Prop} {pc pc' : Nat} {Ls : Array Slot} {st : List Value}
/-- it returns r and leaves the heap as it was -/
def pureQ (r : Option Value) (h : Heap) : Option Value → Heap → Prop := fun v h' => v = r ∧ h' = h
theorem w_callSp (W : Wk p l e R s m args below meth c Z EL own ws nw T h cells slots) (hx : p.tables.exec = Jvm.exec) {index : Nat} {y : MethodName} {bytes : ByteArray} {maxL : Nat} {ret : Option FieldType} {rm : Room} {r : Option Value} (argsL : List Value)
    (w1 : (Cond.methodLink own index y).before a0 Z = true) (w2 : (Cond.static y).before a0 Z = true) (w3 : (Cond.initialized y.cls).before a0 Z = true) (w4 : (Cond.code y bytes maxL ret).before a0 Z = true) (hy : y.cls ≠ "java/lang/invoke/MethodHandle" ∧ y.cls ≠ "java/lang/invoke/VarHandle")
    (H : Con l Z EL y bytes maxL ret rm argsL.toArray h [] (pureQ r h)) (hsz : Ls.size = c.maxLocals) (hlen : ∀ sig, parseMethodDescriptor y.desc = some sig → argsL.length = sig.parameters.length) {stk : List Value} (hstk : stk = argsL.reverse ++ st) (hd : decode c.code pc = .ok (.invokestatic index, 3))
    (hf : rm.frames + 1 ≤ R.frames) (hl : (st.map fun v => v.category).sum + (maxL + 11) + rm.locals ≤ R.locals) (hc : rm.cells = 0) (hs : rm.slots = 0) (hc' : cells ≤ R.cells) (hs' : slots ≤ R.slots) (hp : pc + 3 = pc')
    (k : ∀ T', Wk p l e R s m args below meth c Z EL own ws nw T' h cells slots → Gets p.tables e below P T' (mkF m pc' Ls (r.toList ++ st))) : Gets p.tables e below P T (mkF m pc Ls stk) :=
  w_callS W hx argsL w1 w2 w3 w4 hy H all0 hsz hlen hstk hd hf hl (by rw [hc]; exact hc') (by rw [hs]; exact hs') hp fun v T' h' W' K q => by
    obtain ⟨e1, e2⟩ := q
    subst e1; rw [e2] at W'; rw [hc, hs] at W'; exact k T' W'
theorem w_virtualp (W : Wk p l e R s m args below meth c Z EL own ws nw T h cells slots) (hx : p.tables.exec = Jvm.exec) {index : Nat} {y z : MethodName} {C : String} {bytes : ByteArray} {maxL : Nat} {ret : Option FieldType} {rm : Room} {r : Option Value} {a : Nat} (argsL : List Value)
    (w1 : (Cond.methodLink own index y).before a0 Z = true) (w2 : (Cond.declares y).before a0 Z = true) (hnf : ∀ {U : State}, Z.Warmed39 U.vm → NotFace U y) (w3 : (Cond.selects C y z).before a0 Z = true) (w5 : (Cond.instanceMethod z).before a0 Z = true) (w6 : (Cond.initialized z.cls).before a0 Z = true) (w4 : (Cond.code z bytes maxL ret).before a0 Z = true) (hy : y.cls ≠ "java/lang/invoke/MethodHandle" ∧ y.cls ≠ "java/lang/invoke/VarHandle")
    (H : Con l Z EL z bytes maxL ret rm (.ref a :: argsL).toArray h [] (pureQ r h)) (E : Exa Z h a C) (hsz : Ls.size = c.maxLocals) (hlen : ∀ sig, parseMethodDescriptor y.desc = some sig → argsL.length = sig.parameters.length) {stk : List Value} (hstk : stk = argsL.reverse ++ .ref a :: st) (hd : decode c.code pc = .ok (.invokevirtual index, 3))
    (hf : rm.frames + 1 ≤ R.frames) (hl : (st.map fun v => v.category).sum + (maxL + 11) + rm.locals ≤ R.locals) (hc : rm.cells = 0) (hs : rm.slots = 0) (hc' : cells ≤ R.cells) (hs' : slots ≤ R.slots) (hp : pc + 3 = pc')
    (k : ∀ T', Wk p l e R s m args below meth c Z EL own ws nw T' h cells slots → Gets p.tables e below P T' (mkF m pc' Ls (r.toList ++ st))) : Gets p.tables e below P T (mkF m pc Ls stk) :=
  w_virtual W hx argsL w1 w2 hnf w3 w5 w6 w4 hy H E all0 hsz hlen hstk hd hf hl (by rw [hc]; exact hc') (by rw [hs]; exact hs') hp fun v T' h' W' K q => by
    obtain ⟨e1, e2⟩ := q
    subst e1; rw [e2] at W'; rw [hc, hs] at W'; exact k T' W'
theorem w_virtualUpp (W : Wk p l e R s m args below meth c Z EL own ws nw T h cells slots) (hx : p.tables.exec = Jvm.exec) {index : Nat} {y z : MethodName} {C owner : String} {bytes : ByteArray} {maxL : Nat} {ret : Option FieldType} {rm : Room} {r : Option Value} {a : Nat} (argsL : List Value)
    (w1 : (Cond.methodLink own index y).before a0 Z = true) (w7 : (Cond.sameMethod y.cls owner y.name y.desc).before a0 Z = true) (w2 : (Cond.declares ⟨owner, y.name, y.desc⟩).before a0 Z = true) (w3 : (Cond.selects C y z).before a0 Z = true) (w5 : (Cond.instanceMethod z).before a0 Z = true) (w6 : (Cond.initialized z.cls).before a0 Z = true) (w4 : (Cond.code z bytes maxL ret).before a0 Z = true) (hy : owner ≠ "java/lang/invoke/MethodHandle" ∧ owner ≠ "java/lang/invoke/VarHandle")
    (H : Con l Z EL z bytes maxL ret rm (.ref a :: argsL).toArray h [] (pureQ r h)) (E : Exa Z h a C) (hsz : Ls.size = c.maxLocals) (hlen : ∀ sig, parseMethodDescriptor y.desc = some sig → argsL.length = sig.parameters.length) {stk : List Value} (hstk : stk = argsL.reverse ++ .ref a :: st) (hd : decode c.code pc = .ok (.invokevirtual index, 3))
    (hf : rm.frames + 1 ≤ R.frames) (hl : (st.map fun v => v.category).sum + (maxL + 11) + rm.locals ≤ R.locals) (hc : rm.cells = 0) (hs : rm.slots = 0) (hc' : cells ≤ R.cells) (hs' : slots ≤ R.slots) (hp : pc + 3 = pc')
    (k : ∀ T', Wk p l e R s m args below meth c Z EL own ws nw T' h cells slots → Gets p.tables e below P T' (mkF m pc' Ls (r.toList ++ st))) : Gets p.tables e below P T (mkF m pc Ls stk) :=
  w_virtualUp W hx argsL w1 w7 w2 w3 w5 w6 w4 hy H E all0 hsz hlen hstk hd hf hl (by rw [hc]; exact hc') (by rw [hs]; exact hs') hp fun v T' h' W' K q => by
    obtain ⟨e1, e2⟩ := q
    subst e1; rw [e2] at W'; rw [hc, hs] at W'; exact k T' W'
theorem w_ifacep (W : Wk p l e R s m args below meth c Z EL own ws nw T h cells slots) (hx : p.tables.exec = Jvm.exec) {index count : Nat} {y z : MethodName} {C : String} {bytes : ByteArray} {maxL : Nat} {ret : Option FieldType} {rm : Room} {r : Option Value} {a : Nat} (argsL : List Value)
    (w1 : (Cond.methodLink own index y).before a0 Z = true) (w2 : (Cond.declares y).before a0 Z = true) (w7 : (Cond.interfaceMethod y.cls y.cls y.name y.desc).before a0 Z = true) (w3 : (Cond.selects C y z).before a0 Z = true) (w5 : (Cond.instanceMethod z).before a0 Z = true) (w8 : (Cond.publicMethod z).before a0 Z = true) (w9 : (Cond.unhidden C y.name y.desc).before a0 Z = true) (w10 : (Cond.castable C y.cls).before a0 Z = true) (w6 : (Cond.initialized z.cls).before a0 Z = true) (w4 : (Cond.code z bytes maxL ret).before a0 Z = true) (hy : y.cls ≠ "java/lang/invoke/MethodHandle" ∧ y.cls ≠ "java/lang/invoke/VarHandle")
    (H : Con l Z EL z bytes maxL ret rm (.ref a :: argsL).toArray h [] (pureQ r h)) (E : Exa Z h a C) (hsz : Ls.size = c.maxLocals) (hlen : ∀ sig, parseMethodDescriptor y.desc = some sig → argsL.length = sig.parameters.length) {stk : List Value} (hstk : stk = argsL.reverse ++ .ref a :: st) (hd : decode c.code pc = .ok (.invokeinterface index count, 5))
    (hf : rm.frames + 1 ≤ R.frames) (hl : (st.map fun v => v.category).sum + (maxL + 11) + rm.locals ≤ R.locals) (hc : rm.cells = 0) (hs : rm.slots = 0) (hc' : cells ≤ R.cells) (hs' : slots ≤ R.slots) (hp : pc + 5 = pc')
    (k : ∀ T', Wk p l e R s m args below meth c Z EL own ws nw T' h cells slots → Gets p.tables e below P T' (mkF m pc' Ls (r.toList ++ st))) : Gets p.tables e below P T (mkF m pc Ls stk) :=
  w_iface W hx argsL w1 w2 w7 w3 w5 w8 w9 w10 w6 w4 hy H E all0 hsz hlen hstk hd hf hl (by rw [hc]; exact hc') (by rw [hs]; exact hs') hp fun v T' h' W' K q => by
    obtain ⟨e1, e2⟩ := q
    subst e1; rw [e2] at W'; rw [hc, hs] at W'; exact k T' W'
theorem g_name {tb : Tables} {v w : Value} (q : w = v) (k : Gets tb e below P T (mkF m pc Ls (w :: st))) : Gets tb e below P T (mkF m pc Ls (v :: st)) := q ▸ k
end OwnPure
theorem w_0 : tables_1[0]? = some (Jvm.Cond.methodLink "com/example/usher/usher/model/PrincipalGroupPinLaw" (12 : Nat) ({ cls := "com/example/usher/usher/model/PrincipalGroupPinLaw", name := "draw", desc := "(IIII)Ljava/lang/String;" } : Jvm.MethodName)) := rfl
theorem w_1 : tables_1[1]? = some (Jvm.Cond.static ({ cls := "com/example/usher/usher/model/PrincipalGroupPinLaw", name := "draw", desc := "(IIII)Ljava/lang/String;" } : Jvm.MethodName)) := rfl
theorem w_2 : tables_1[2]? = some (Jvm.Cond.initialized "com/example/usher/usher/model/PrincipalGroupPinLaw") := rfl
theorem w_3 : tables_1[3]? = some (Jvm.Cond.code ({ cls := "com/example/usher/usher/model/PrincipalGroupPinLaw", name := "draw", desc := "(IIII)Ljava/lang/String;" } : Jvm.MethodName) method_2_code (8 : Nat) (Option.some (Jvm.ClassFile.FieldType.object "java/lang/String"))) := rfl
theorem w_4 : tables_1[4]? = some (Jvm.Cond.classLink "com/example/usher/usher/model/PrincipalGroupPinLaw" (7 : Nat) "java/lang/String") := rfl
theorem w_5 : tables_1[5]? = some (Jvm.Cond.instantiable "java/lang/String" (4 : Nat)) := rfl
theorem w_6 : tables_1[6]? = some (Jvm.Cond.initialized "java/lang/String") := rfl
theorem w_7 : tables_1[7]? = some (Jvm.Cond.arrayClass Jvm.ClassFile.FieldType.char) := rfl
theorem w_8 : tables_1[8]? = some (Jvm.Cond.methodLink "com/example/usher/usher/model/PrincipalGroupPinLaw" (9 : Nat) ({ cls := "java/lang/String", name := "<init>", desc := "([C)V" } : Jvm.MethodName)) := rfl
theorem w_9 : tables_1[9]? = some (Jvm.Cond.instanceMethod ({ cls := "java/lang/String", name := "<init>", desc := "([C)V" } : Jvm.MethodName)) := rfl
theorem w_10 : tables_1[10]? = some (Jvm.Cond.code ({ cls := "java/lang/String", name := "<init>", desc := "([C)V" } : Jvm.MethodName) jdk_42_method_3_code (2 : Nat) (Option.none : Option Jvm.ClassFile.FieldType)) := rfl
theorem w_11 : tables_1[11]? = some (Jvm.Cond.methodLink "java/lang/String" (27 : Nat) ({ cls := "java/lang/String", name := "<init>", desc := "([CIILjava/lang/Void;)V" } : Jvm.MethodName)) := rfl
theorem w_12 : tables_1[12]? = some (Jvm.Cond.instanceMethod ({ cls := "java/lang/String", name := "<init>", desc := "([CIILjava/lang/Void;)V" } : Jvm.MethodName)) := rfl
theorem w_14 : tables_1[14]? = some (Jvm.Cond.code ({ cls := "java/lang/String", name := "<init>", desc := "([CIILjava/lang/Void;)V" } : Jvm.MethodName) jdk_42_method_149_code (6 : Nat) (Option.none : Option Jvm.ClassFile.FieldType)) := rfl
theorem w_15 : tables_1[15]? = some (Jvm.Cond.methodLink "java/lang/String" (1 : Nat) ({ cls := "java/lang/Object", name := "<init>", desc := "()V" } : Jvm.MethodName)) := rfl
theorem w_16 : tables_1[16]? = some (Jvm.Cond.instanceMethod ({ cls := "java/lang/Object", name := "<init>", desc := "()V" } : Jvm.MethodName)) := rfl
theorem w_17 : tables_1[17]? = some (Jvm.Cond.code ({ cls := "java/lang/Object", name := "<init>", desc := "()V" } : Jvm.MethodName) object_method_1_code (1 : Nat) (Option.none : Option Jvm.ClassFile.FieldType)) := rfl
theorem w_18 : tables_1[18]? = some (Jvm.Cond.stringLink "java/lang/String" (7 : Nat) "") := rfl
theorem w_19 : tables_1[19]? = some (Jvm.Cond.arrayClass Jvm.ClassFile.FieldType.byte) := rfl
theorem w_20 : tables_1[20]? = some (Jvm.Cond.laysFinal "java/lang/String" "java/lang/String" "value" "[B") := rfl
theorem w_21 : tables_1[21]? = some (Jvm.Cond.laysFinal "java/lang/String" "java/lang/String" "coder" "B") := rfl
theorem w_22 : tables_1[22]? = some (Jvm.Cond.soleField "java/lang/String" "value") := rfl
theorem w_23 : tables_1[23]? = some (Jvm.Cond.soleField "java/lang/String" "coder") := rfl
theorem w_24 : tables_1[24]? = some (Jvm.Cond.fieldLink "java/lang/String" (9 : Nat) "java/lang/String" "value" "[B") := rfl
theorem w_25 : tables_1[25]? = some (Jvm.Cond.fieldLink "java/lang/String" (15 : Nat) "java/lang/String" "coder" "B") := rfl
theorem w_26 : tables_1[26]? = some (Jvm.Cond.methodLink "com/example/usher/usher/model/PrincipalGroupPinLaw" (18 : Nat) ({ cls := "com/example/usher/usher/model/Principal", name := "group", desc := "(Ljava/lang/String;)Lcom/example/usher/usher/model/Principal;" } : Jvm.MethodName)) := rfl
theorem w_27 : tables_1[27]? = some (Jvm.Cond.static ({ cls := "com/example/usher/usher/model/Principal", name := "group", desc := "(Ljava/lang/String;)Lcom/example/usher/usher/model/Principal;" } : Jvm.MethodName)) := rfl
theorem w_28 : tables_1[28]? = some (Jvm.Cond.initialized "com/example/usher/usher/model/Principal") := rfl
theorem w_29 : tables_1[29]? = some (Jvm.Cond.code ({ cls := "com/example/usher/usher/model/Principal", name := "group", desc := "(Ljava/lang/String;)Lcom/example/usher/usher/model/Principal;" } : Jvm.MethodName) prog_3_method_3_code (1 : Nat) (Option.some (Jvm.ClassFile.FieldType.object "com/example/usher/usher/model/Principal"))) := rfl
theorem w_30 : tables_1[30]? = some (Jvm.Cond.classLink "com/example/usher/usher/model/Principal" (8 : Nat) "com/example/usher/usher/model/Principal") := rfl
theorem w_31 : tables_1[31]? = some (Jvm.Cond.instantiable "com/example/usher/usher/model/Principal" (2 : Nat)) := rfl
theorem w_32 : tables_1[32]? = some (Jvm.Cond.fieldLink "com/example/usher/usher/model/Principal" (25 : Nat) "com/example/usher/usher/model/Principal$Kind" "GROUP" "Lcom/example/usher/usher/model/Principal$Kind;") := rfl
theorem w_33 : tables_1[33]? = some (Jvm.Cond.initialized "com/example/usher/usher/model/Principal$Kind") := rfl
theorem w_34 : tables_1[34]? = some (Jvm.Cond.laysStatic "com/example/usher/usher/model/Principal$Kind" "GROUP" "Lcom/example/usher/usher/model/Principal$Kind;") := rfl
theorem w_35 : tables_1[35]? = some (Jvm.Cond.methodLink "com/example/usher/usher/model/Principal" (22 : Nat) ({ cls := "com/example/usher/usher/model/Principal", name := "<init>", desc := "(Lcom/example/usher/usher/model/Principal$Kind;Ljava/lang/String;)V" } : Jvm.MethodName)) := rfl
theorem w_36 : tables_1[36]? = some (Jvm.Cond.instanceMethod ({ cls := "com/example/usher/usher/model/Principal", name := "<init>", desc := "(Lcom/example/usher/usher/model/Principal$Kind;Ljava/lang/String;)V" } : Jvm.MethodName)) := rfl
theorem w_37 : tables_1[37]? = some (Jvm.Cond.code ({ cls := "com/example/usher/usher/model/Principal", name := "<init>", desc := "(Lcom/example/usher/usher/model/Principal$Kind;Ljava/lang/String;)V" } : Jvm.MethodName) prog_3_method_1_code (3 : Nat) (Option.none : Option Jvm.ClassFile.FieldType)) := rfl
theorem w_38 : tables_1[38]? = some (Jvm.Cond.methodLink "com/example/usher/usher/model/Principal" (1 : Nat) ({ cls := "java/lang/Object", name := "<init>", desc := "()V" } : Jvm.MethodName)) := rfl
theorem w_39 : tables_1[39]? = some (Jvm.Cond.fieldLink "com/example/usher/usher/model/Principal" (7 : Nat) "com/example/usher/usher/model/Principal" "kind" "Lcom/example/usher/usher/model/Principal$Kind;") := rfl
theorem w_40 : tables_1[40]? = some (Jvm.Cond.laysFinal "com/example/usher/usher/model/Principal" "com/example/usher/usher/model/Principal" "kind" "Lcom/example/usher/usher/model/Principal$Kind;") := rfl
theorem w_41 : tables_1[41]? = some (Jvm.Cond.fieldLink "com/example/usher/usher/model/Principal" (13 : Nat) "com/example/usher/usher/model/Principal" "name" "Ljava/lang/String;") := rfl
theorem w_42 : tables_1[42]? = some (Jvm.Cond.laysFinal "com/example/usher/usher/model/Principal" "com/example/usher/usher/model/Principal" "name" "Ljava/lang/String;") := rfl
theorem w_43 : tables_1[43]? = some (Jvm.Cond.methodLink "com/example/usher/usher/model/PrincipalGroupPinLaw" (24 : Nat) ({ cls := "com/example/usher/usher/model/Principal", name := "user", desc := "(Ljava/lang/String;)Lcom/example/usher/usher/model/Principal;" } : Jvm.MethodName)) := rfl
theorem w_44 : tables_1[44]? = some (Jvm.Cond.static ({ cls := "com/example/usher/usher/model/Principal", name := "user", desc := "(Ljava/lang/String;)Lcom/example/usher/usher/model/Principal;" } : Jvm.MethodName)) := rfl
theorem w_45 : tables_1[45]? = some (Jvm.Cond.code ({ cls := "com/example/usher/usher/model/Principal", name := "user", desc := "(Ljava/lang/String;)Lcom/example/usher/usher/model/Principal;" } : Jvm.MethodName) prog_3_method_2_code (1 : Nat) (Option.some (Jvm.ClassFile.FieldType.object "com/example/usher/usher/model/Principal"))) := rfl
theorem w_46 : tables_1[46]? = some (Jvm.Cond.fieldLink "com/example/usher/usher/model/Principal" (17 : Nat) "com/example/usher/usher/model/Principal$Kind" "USER" "Lcom/example/usher/usher/model/Principal$Kind;") := rfl
theorem w_47 : tables_1[47]? = some (Jvm.Cond.laysStatic "com/example/usher/usher/model/Principal$Kind" "USER" "Lcom/example/usher/usher/model/Principal$Kind;") := rfl
theorem w_48 : tables_1[48]? = some (Jvm.Cond.methodLink "com/example/usher/usher/model/PrincipalGroupPinLaw" (27 : Nat) ({ cls := "com/example/usher/usher/model/Principal", name := "getName", desc := "()Ljava/lang/String;" } : Jvm.MethodName)) := rfl
theorem w_49 : tables_1[49]? = some (Jvm.Cond.declares ({ cls := "com/example/usher/usher/model/Principal", name := "getName", desc := "()Ljava/lang/String;" } : Jvm.MethodName)) := rfl
theorem w_50 : tables_1[50]? = some (Jvm.Cond.instanceMethod ({ cls := "com/example/usher/usher/model/Principal", name := "getName", desc := "()Ljava/lang/String;" } : Jvm.MethodName)) := rfl
theorem w_51 : tables_1[51]? = some (Jvm.Cond.selects "com/example/usher/usher/model/Principal" ({ cls := "com/example/usher/usher/model/Principal", name := "getName", desc := "()Ljava/lang/String;" } : Jvm.MethodName) ({ cls := "com/example/usher/usher/model/Principal", name := "getName", desc := "()Ljava/lang/String;" } : Jvm.MethodName)) := rfl
theorem w_52 : tables_1[52]? = some (Jvm.Cond.code ({ cls := "com/example/usher/usher/model/Principal", name := "getName", desc := "()Ljava/lang/String;" } : Jvm.MethodName) prog_3_method_5_code (1 : Nat) (Option.some (Jvm.ClassFile.FieldType.object "java/lang/String"))) := rfl
theorem w_53 : tables_1[53]? = some (Jvm.Cond.methodLink "com/example/usher/usher/model/PrincipalGroupPinLaw" (31 : Nat) ({ cls := "java/lang/String", name := "equals", desc := "(Ljava/lang/Object;)Z" } : Jvm.MethodName)) := rfl
theorem w_54 : tables_1[54]? = some (Jvm.Cond.declares ({ cls := "java/lang/String", name := "equals", desc := "(Ljava/lang/Object;)Z" } : Jvm.MethodName)) := rfl
theorem w_55 : tables_1[55]? = some (Jvm.Cond.instanceMethod ({ cls := "java/lang/String", name := "equals", desc := "(Ljava/lang/Object;)Z" } : Jvm.MethodName)) := rfl
theorem w_56 : tables_1[56]? = some (Jvm.Cond.selects "java/lang/String" ({ cls := "java/lang/String", name := "equals", desc := "(Ljava/lang/Object;)Z" } : Jvm.MethodName) ({ cls := "java/lang/String", name := "equals", desc := "(Ljava/lang/Object;)Z" } : Jvm.MethodName)) := rfl
theorem w_57 : tables_1[57]? = some (Jvm.Cond.code ({ cls := "java/lang/String", name := "equals", desc := "(Ljava/lang/Object;)Z" } : Jvm.MethodName) jdk_42_method_66_code (3 : Nat) (Option.some Jvm.ClassFile.FieldType.boolean)) := rfl
theorem w_58 : tables_1[58]? = some (Jvm.Cond.methodLink "com/example/usher/usher/model/PrincipalGroupPinLaw" (35 : Nat) ({ cls := "com/example/usher/usher/model/Principal", name := "getKind", desc := "()Lcom/example/usher/usher/model/Principal$Kind;" } : Jvm.MethodName)) := rfl
theorem w_59 : tables_1[59]? = some (Jvm.Cond.declares ({ cls := "com/example/usher/usher/model/Principal", name := "getKind", desc := "()Lcom/example/usher/usher/model/Principal$Kind;" } : Jvm.MethodName)) := rfl
theorem w_60 : tables_1[60]? = some (Jvm.Cond.instanceMethod ({ cls := "com/example/usher/usher/model/Principal", name := "getKind", desc := "()Lcom/example/usher/usher/model/Principal$Kind;" } : Jvm.MethodName)) := rfl
theorem w_61 : tables_1[61]? = some (Jvm.Cond.selects "com/example/usher/usher/model/Principal" ({ cls := "com/example/usher/usher/model/Principal", name := "getKind", desc := "()Lcom/example/usher/usher/model/Principal$Kind;" } : Jvm.MethodName) ({ cls := "com/example/usher/usher/model/Principal", name := "getKind", desc := "()Lcom/example/usher/usher/model/Principal$Kind;" } : Jvm.MethodName)) := rfl
theorem w_62 : tables_1[62]? = some (Jvm.Cond.code ({ cls := "com/example/usher/usher/model/Principal", name := "getKind", desc := "()Lcom/example/usher/usher/model/Principal$Kind;" } : Jvm.MethodName) prog_3_method_4_code (1 : Nat) (Option.some (Jvm.ClassFile.FieldType.object "com/example/usher/usher/model/Principal$Kind"))) := rfl
theorem w_63 : tables_1[63]? = some (Jvm.Cond.fieldLink "com/example/usher/usher/model/PrincipalGroupPinLaw" (39 : Nat) "com/example/usher/usher/model/Principal$Kind" "GROUP" "Lcom/example/usher/usher/model/Principal$Kind;") := rfl
theorem w_64 : tables_1[64]? = some (Jvm.Cond.fieldLink "java/lang/String" (38 : Nat) "java/lang/String" "COMPACT_STRINGS" "Z") := rfl
theorem w_65 : tables_1[65]? = some (Jvm.Cond.methodLink "java/lang/String" (177 : Nat) ({ cls := "java/lang/StringUTF16", name := "compress", desc := "([CII)[B" } : Jvm.MethodName)) := rfl
theorem w_66 : tables_1[66]? = some (Jvm.Cond.static ({ cls := "java/lang/StringUTF16", name := "compress", desc := "([CII)[B" } : Jvm.MethodName)) := rfl
theorem w_67 : tables_1[67]? = some (Jvm.Cond.initialized "java/lang/StringUTF16") := rfl
theorem w_68 : tables_1[68]? = some (Jvm.Cond.code ({ cls := "java/lang/StringUTF16", name := "compress", desc := "([CII)[B" } : Jvm.MethodName) jdk_52_method_16_code (6 : Nat) (Option.some (Jvm.ClassFile.FieldType.array Jvm.ClassFile.FieldType.byte))) := rfl
theorem w_69 : tables_1[69]? = some (Jvm.Cond.methodLink "java/lang/StringUTF16" (115 : Nat) ({ cls := "java/lang/StringUTF16", name := "compress", desc := "([CI[BII)I" } : Jvm.MethodName)) := rfl
theorem w_70 : tables_1[70]? = some (Jvm.Cond.static ({ cls := "java/lang/StringUTF16", name := "compress", desc := "([CI[BII)I" } : Jvm.MethodName)) := rfl
theorem w_71 : tables_1[71]? = some (Jvm.Cond.code ({ cls := "java/lang/StringUTF16", name := "compress", desc := "([CI[BII)I" } : Jvm.MethodName) jdk_52_method_21_code (7 : Nat) (Option.some Jvm.ClassFile.FieldType.int)) := rfl
theorem w_72 : tables_1[72]? = some (Jvm.Cond.methodLink "java/lang/String" (47 : Nat) ({ cls := "java/lang/StringUTF16", name := "coderFromArrayLen", desc := "([BI)B" } : Jvm.MethodName)) := rfl
theorem w_73 : tables_1[73]? = some (Jvm.Cond.static ({ cls := "java/lang/StringUTF16", name := "coderFromArrayLen", desc := "([BI)B" } : Jvm.MethodName)) := rfl
theorem w_74 : tables_1[74]? = some (Jvm.Cond.code ({ cls := "java/lang/StringUTF16", name := "coderFromArrayLen", desc := "([BI)B" } : Jvm.MethodName) jdk_52_method_15_code (2 : Nat) (Option.some Jvm.ClassFile.FieldType.byte)) := rfl
theorem d_jdk_42_149_0 : decode jdk_42_method_149_code 0 = .ok (.aload_n 0, 1) := by decide +kernel
theorem d_jdk_42_149_1 : decode jdk_42_method_149_code 1 = .ok (.invokespecial 1, 3) := by decide +kernel
theorem d_jdk_42_149_4 : decode jdk_42_method_149_code 4 = .ok (.iload_n 3, 1) := by decide +kernel
theorem d_jdk_42_149_5 : decode jdk_42_method_149_code 5 = .ok (.ifCond .ne 22, 3) := by decide +kernel
theorem d_jdk_42_149_8 : decode jdk_42_method_149_code 8 = .ok (.aload_n 0, 1) := by decide +kernel
theorem d_jdk_42_149_9 : decode jdk_42_method_149_code 9 = .ok (.ldc 7, 2) := by decide +kernel
theorem d_jdk_42_149_11 : decode jdk_42_method_149_code 11 = .ok (.getfield 9, 3) := by decide +kernel
theorem d_jdk_42_149_14 : decode jdk_42_method_149_code 14 = .ok (.putfield 9, 3) := by decide +kernel
theorem d_jdk_42_149_17 : decode jdk_42_method_149_code 17 = .ok (.aload_n 0, 1) := by decide +kernel
theorem d_jdk_42_149_18 : decode jdk_42_method_149_code 18 = .ok (.ldc 7, 2) := by decide +kernel
theorem d_jdk_42_149_20 : decode jdk_42_method_149_code 20 = .ok (.getfield 15, 3) := by decide +kernel
theorem d_jdk_42_149_23 : decode jdk_42_method_149_code 23 = .ok (.putfield 15, 3) := by decide +kernel
theorem d_jdk_42_149_26 : decode jdk_42_method_149_code 26 = .ok (.return_, 1) := by decide +kernel
theorem d_jdk_42_149_27 : decode jdk_42_method_149_code 27 = .ok (.getstatic 38, 3) := by decide +kernel
theorem d_jdk_42_149_30 : decode jdk_42_method_149_code 30 = .ok (.ifCond .eq 28, 3) := by decide +kernel
theorem d_jdk_42_149_33 : decode jdk_42_method_149_code 33 = .ok (.aload_n 1, 1) := by decide +kernel
theorem d_jdk_42_149_34 : decode jdk_42_method_149_code 34 = .ok (.iload_n 2, 1) := by decide +kernel
theorem d_jdk_42_149_35 : decode jdk_42_method_149_code 35 = .ok (.iload_n 3, 1) := by decide +kernel
theorem d_jdk_42_149_36 : decode jdk_42_method_149_code 36 = .ok (.invokestatic 177, 3) := by decide +kernel
theorem d_jdk_42_149_39 : decode jdk_42_method_149_code 39 = .ok (.astore 5, 2) := by decide +kernel
theorem d_jdk_42_149_41 : decode jdk_42_method_149_code 41 = .ok (.aload_n 0, 1) := by decide +kernel
theorem d_jdk_42_149_42 : decode jdk_42_method_149_code 42 = .ok (.aload 5, 2) := by decide +kernel
theorem d_jdk_42_149_44 : decode jdk_42_method_149_code 44 = .ok (.iload_n 3, 1) := by decide +kernel
theorem d_jdk_42_149_45 : decode jdk_42_method_149_code 45 = .ok (.invokestatic 47, 3) := by decide +kernel
theorem d_jdk_42_149_48 : decode jdk_42_method_149_code 48 = .ok (.putfield 15, 3) := by decide +kernel
theorem d_jdk_42_149_51 : decode jdk_42_method_149_code 51 = .ok (.aload_n 0, 1) := by decide +kernel
theorem d_jdk_42_149_52 : decode jdk_42_method_149_code 52 = .ok (.aload 5, 2) := by decide +kernel
theorem d_jdk_42_149_54 : decode jdk_42_method_149_code 54 = .ok (.putfield 9, 3) := by decide +kernel
theorem d_jdk_42_149_57 : decode jdk_42_method_149_code 57 = .ok (.return_, 1) := by decide +kernel
theorem d_jdk_42_3_0 : decode jdk_42_method_3_code 0 = .ok (.aload_n 0, 1) := by decide +kernel
theorem d_jdk_42_3_1 : decode jdk_42_method_3_code 1 = .ok (.aload_n 1, 1) := by decide +kernel
theorem d_jdk_42_3_2 : decode jdk_42_method_3_code 2 = .ok (.iconst 0, 1) := by decide +kernel
theorem d_jdk_42_3_3 : decode jdk_42_method_3_code 3 = .ok (.aload_n 1, 1) := by decide +kernel
theorem d_jdk_42_3_4 : decode jdk_42_method_3_code 4 = .ok (.arraylength, 1) := by decide +kernel
theorem d_jdk_42_3_5 : decode jdk_42_method_3_code 5 = .ok (.aconst_null, 1) := by decide +kernel
theorem d_jdk_42_3_6 : decode jdk_42_method_3_code 6 = .ok (.invokespecial 27, 3) := by decide +kernel
theorem d_jdk_42_3_9 : decode jdk_42_method_3_code 9 = .ok (.return_, 1) := by decide +kernel
theorem d_jdk_42_66_0 : decode jdk_42_method_66_code 0 = .ok (.aload_n 0, 1) := by decide +kernel
theorem d_jdk_42_66_1 : decode jdk_42_method_66_code 1 = .ok (.aload_n 1, 1) := by decide +kernel
theorem d_jdk_42_66_2 : decode jdk_42_method_66_code 2 = .ok (.if_acmp .ne 5, 3) := by decide +kernel
theorem d_jdk_42_66_5 : decode jdk_42_method_66_code 5 = .ok (.iconst 1, 1) := by decide +kernel
theorem d_jdk_42_66_6 : decode jdk_42_method_66_code 6 = .ok (.ireturn, 1) := by decide +kernel
theorem d_jdk_52_15_0 : decode jdk_52_method_15_code 0 = .ok (.iload_n 1, 1) := by decide +kernel
theorem d_jdk_52_15_1 : decode jdk_52_method_15_code 1 = .ok (.aload_n 0, 1) := by decide +kernel
theorem d_jdk_52_15_2 : decode jdk_52_method_15_code 2 = .ok (.arraylength, 1) := by decide +kernel
theorem d_jdk_52_15_3 : decode jdk_52_method_15_code 3 = .ok (.isub, 1) := by decide +kernel
theorem d_jdk_52_15_4 : decode jdk_52_method_15_code 4 = .ok (.bipush 31, 2) := by decide +kernel
theorem d_jdk_52_15_6 : decode jdk_52_method_15_code 6 = .ok (.iushr, 1) := by decide +kernel
theorem d_jdk_52_15_7 : decode jdk_52_method_15_code 7 = .ok (.i2b, 1) := by decide +kernel
theorem d_jdk_52_15_8 : decode jdk_52_method_15_code 8 = .ok (.ireturn, 1) := by decide +kernel
theorem d_jdk_52_16_0 : decode jdk_52_method_16_code 0 = .ok (.iload_n 2, 1) := by decide +kernel
theorem d_jdk_52_16_1 : decode jdk_52_method_16_code 1 = .ok (.newarray .byte, 2) := by decide +kernel
theorem d_jdk_52_16_3 : decode jdk_52_method_16_code 3 = .ok (.astore_n 3, 1) := by decide +kernel
theorem d_jdk_52_16_4 : decode jdk_52_method_16_code 4 = .ok (.aload_n 0, 1) := by decide +kernel
theorem d_jdk_52_16_5 : decode jdk_52_method_16_code 5 = .ok (.iload_n 1, 1) := by decide +kernel
theorem d_jdk_52_16_6 : decode jdk_52_method_16_code 6 = .ok (.aload_n 3, 1) := by decide +kernel
theorem d_jdk_52_16_7 : decode jdk_52_method_16_code 7 = .ok (.iconst 0, 1) := by decide +kernel
theorem d_jdk_52_16_8 : decode jdk_52_method_16_code 8 = .ok (.iload_n 2, 1) := by decide +kernel
theorem d_jdk_52_16_9 : decode jdk_52_method_16_code 9 = .ok (.invokestatic 115, 3) := by decide +kernel
theorem d_jdk_52_16_12 : decode jdk_52_method_16_code 12 = .ok (.istore 4, 2) := by decide +kernel
theorem d_jdk_52_16_14 : decode jdk_52_method_16_code 14 = .ok (.iload 4, 2) := by decide +kernel
theorem d_jdk_52_16_16 : decode jdk_52_method_16_code 16 = .ok (.iload_n 2, 1) := by decide +kernel
theorem d_jdk_52_16_17 : decode jdk_52_method_16_code 17 = .ok (.if_icmp .eq 40, 3) := by decide +kernel
theorem d_jdk_52_16_57 : decode jdk_52_method_16_code 57 = .ok (.aload_n 3, 1) := by decide +kernel
theorem d_jdk_52_16_58 : decode jdk_52_method_16_code 58 = .ok (.areturn, 1) := by decide +kernel
theorem d_jdk_52_21_0 : decode jdk_52_method_21_code 0 = .ok (.iconst 0, 1) := by decide +kernel
theorem d_jdk_52_21_1 : decode jdk_52_method_21_code 1 = .ok (.istore 5, 2) := by decide +kernel
theorem d_jdk_52_21_3 : decode jdk_52_method_21_code 3 = .ok (.iload 5, 2) := by decide +kernel
theorem d_jdk_52_21_5 : decode jdk_52_method_21_code 5 = .ok (.iload 4, 2) := by decide +kernel
theorem d_jdk_52_21_7 : decode jdk_52_method_21_code 7 = .ok (.if_icmp .ge 37, 3) := by decide +kernel
theorem d_jdk_52_21_10 : decode jdk_52_method_21_code 10 = .ok (.aload_n 0, 1) := by decide +kernel
theorem d_jdk_52_21_11 : decode jdk_52_method_21_code 11 = .ok (.iload_n 1, 1) := by decide +kernel
theorem d_jdk_52_21_12 : decode jdk_52_method_21_code 12 = .ok (.caload, 1) := by decide +kernel
theorem d_jdk_52_21_13 : decode jdk_52_method_21_code 13 = .ok (.istore 6, 2) := by decide +kernel
theorem d_jdk_52_21_15 : decode jdk_52_method_21_code 15 = .ok (.iload 6, 2) := by decide +kernel
theorem d_jdk_52_21_17 : decode jdk_52_method_21_code 17 = .ok (.sipush 255, 3) := by decide +kernel
theorem d_jdk_52_21_20 : decode jdk_52_method_21_code 20 = .ok (.if_icmp .le 6, 3) := by decide +kernel
theorem d_jdk_52_21_26 : decode jdk_52_method_21_code 26 = .ok (.aload_n 2, 1) := by decide +kernel
theorem d_jdk_52_21_27 : decode jdk_52_method_21_code 27 = .ok (.iload_n 3, 1) := by decide +kernel
theorem d_jdk_52_21_28 : decode jdk_52_method_21_code 28 = .ok (.iload 6, 2) := by decide +kernel
theorem d_jdk_52_21_30 : decode jdk_52_method_21_code 30 = .ok (.i2b, 1) := by decide +kernel
theorem d_jdk_52_21_31 : decode jdk_52_method_21_code 31 = .ok (.bastore, 1) := by decide +kernel
theorem d_jdk_52_21_32 : decode jdk_52_method_21_code 32 = .ok (.iinc 1 1, 3) := by decide +kernel
theorem d_jdk_52_21_35 : decode jdk_52_method_21_code 35 = .ok (.iinc 3 1, 3) := by decide +kernel
theorem d_jdk_52_21_38 : decode jdk_52_method_21_code 38 = .ok (.iinc 5 1, 3) := by decide +kernel
theorem d_jdk_52_21_41 : decode jdk_52_method_21_code 41 = .ok (.goto (-38), 3) := by decide +kernel
theorem d_jdk_52_21_44 : decode jdk_52_method_21_code 44 = .ok (.iload 4, 2) := by decide +kernel
theorem d_jdk_52_21_46 : decode jdk_52_method_21_code 46 = .ok (.ireturn, 1) := by decide +kernel
theorem d_method_2_0 : decode method_2_code 0 = .ok (.iload_n 0, 1) := by decide +kernel
theorem d_method_2_1 : decode method_2_code 1 = .ok (.iconst 3, 1) := by decide +kernel
theorem d_method_2_2 : decode method_2_code 2 = .ok (.iand, 1) := by decide +kernel
theorem d_method_2_3 : decode method_2_code 3 = .ok (.istore 4, 2) := by decide +kernel
theorem d_method_2_5 : decode method_2_code 5 = .ok (.iload_n 1, 1) := by decide +kernel
theorem d_method_2_6 : decode method_2_code 6 = .ok (.sipush 255, 3) := by decide +kernel
theorem d_method_2_9 : decode method_2_code 9 = .ok (.iand, 1) := by decide +kernel
theorem d_method_2_10 : decode method_2_code 10 = .ok (.i2c, 1) := by decide +kernel
theorem d_method_2_11 : decode method_2_code 11 = .ok (.istore 5, 2) := by decide +kernel
theorem d_method_2_13 : decode method_2_code 13 = .ok (.iload_n 2, 1) := by decide +kernel
theorem d_method_2_14 : decode method_2_code 14 = .ok (.sipush 255, 3) := by decide +kernel
theorem d_method_2_17 : decode method_2_code 17 = .ok (.iand, 1) := by decide +kernel
theorem d_method_2_18 : decode method_2_code 18 = .ok (.i2c, 1) := by decide +kernel
theorem d_method_2_19 : decode method_2_code 19 = .ok (.istore 6, 2) := by decide +kernel
theorem d_method_2_21 : decode method_2_code 21 = .ok (.iload_n 3, 1) := by decide +kernel
theorem d_method_2_22 : decode method_2_code 22 = .ok (.sipush 255, 3) := by decide +kernel
theorem d_method_2_25 : decode method_2_code 25 = .ok (.iand, 1) := by decide +kernel
theorem d_method_2_26 : decode method_2_code 26 = .ok (.i2c, 1) := by decide +kernel
theorem d_method_2_27 : decode method_2_code 27 = .ok (.istore 7, 2) := by decide +kernel
theorem d_method_2_29 : decode method_2_code 29 = .ok (.iload 4, 2) := by decide +kernel
theorem d_method_2_31 : decode method_2_code 31 = .ok (.ifCond .ne 14, 3) := by decide +kernel
theorem d_method_2_34 : decode method_2_code 34 = .ok (.new 7, 3) := by decide +kernel
theorem d_method_2_37 : decode method_2_code 37 = .ok (.dup, 1) := by decide +kernel
theorem d_method_2_38 : decode method_2_code 38 = .ok (.iconst 0, 1) := by decide +kernel
theorem d_method_2_39 : decode method_2_code 39 = .ok (.newarray .char, 2) := by decide +kernel
theorem d_method_2_41 : decode method_2_code 41 = .ok (.invokespecial 9, 3) := by decide +kernel
theorem d_method_2_44 : decode method_2_code 44 = .ok (.areturn, 1) := by decide +kernel
theorem d_method_2_45 : decode method_2_code 45 = .ok (.iload 4, 2) := by decide +kernel
theorem d_method_2_47 : decode method_2_code 47 = .ok (.iconst 1, 1) := by decide +kernel
theorem d_method_2_48 : decode method_2_code 48 = .ok (.if_icmp .ne 19, 3) := by decide +kernel
theorem d_method_2_51 : decode method_2_code 51 = .ok (.new 7, 3) := by decide +kernel
theorem d_method_2_54 : decode method_2_code 54 = .ok (.dup, 1) := by decide +kernel
theorem d_method_2_55 : decode method_2_code 55 = .ok (.iconst 1, 1) := by decide +kernel
theorem d_method_2_56 : decode method_2_code 56 = .ok (.newarray .char, 2) := by decide +kernel
theorem d_method_2_58 : decode method_2_code 58 = .ok (.dup, 1) := by decide +kernel
theorem d_method_2_59 : decode method_2_code 59 = .ok (.iconst 0, 1) := by decide +kernel
theorem d_method_2_60 : decode method_2_code 60 = .ok (.iload 5, 2) := by decide +kernel
theorem d_method_2_62 : decode method_2_code 62 = .ok (.castore, 1) := by decide +kernel
theorem d_method_2_63 : decode method_2_code 63 = .ok (.invokespecial 9, 3) := by decide +kernel
theorem d_method_2_66 : decode method_2_code 66 = .ok (.areturn, 1) := by decide +kernel
theorem d_method_2_67 : decode method_2_code 67 = .ok (.iload 4, 2) := by decide +kernel
theorem d_method_2_69 : decode method_2_code 69 = .ok (.iconst 2, 1) := by decide +kernel
theorem d_method_2_70 : decode method_2_code 70 = .ok (.if_icmp .ne 24, 3) := by decide +kernel
theorem d_method_2_73 : decode method_2_code 73 = .ok (.new 7, 3) := by decide +kernel
theorem d_method_2_76 : decode method_2_code 76 = .ok (.dup, 1) := by decide +kernel
theorem d_method_2_77 : decode method_2_code 77 = .ok (.iconst 2, 1) := by decide +kernel
theorem d_method_2_78 : decode method_2_code 78 = .ok (.newarray .char, 2) := by decide +kernel
theorem d_method_2_80 : decode method_2_code 80 = .ok (.dup, 1) := by decide +kernel
theorem d_method_2_81 : decode method_2_code 81 = .ok (.iconst 0, 1) := by decide +kernel
theorem d_method_2_82 : decode method_2_code 82 = .ok (.iload 5, 2) := by decide +kernel
theorem d_method_2_84 : decode method_2_code 84 = .ok (.castore, 1) := by decide +kernel
theorem d_method_2_85 : decode method_2_code 85 = .ok (.dup, 1) := by decide +kernel
theorem d_method_2_86 : decode method_2_code 86 = .ok (.iconst 1, 1) := by decide +kernel
theorem d_method_2_87 : decode method_2_code 87 = .ok (.iload 6, 2) := by decide +kernel
theorem d_method_2_89 : decode method_2_code 89 = .ok (.castore, 1) := by decide +kernel
theorem d_method_2_90 : decode method_2_code 90 = .ok (.invokespecial 9, 3) := by decide +kernel
theorem d_method_2_93 : decode method_2_code 93 = .ok (.areturn, 1) := by decide +kernel
theorem d_method_2_94 : decode method_2_code 94 = .ok (.new 7, 3) := by decide +kernel
theorem d_method_2_97 : decode method_2_code 97 = .ok (.dup, 1) := by decide +kernel
theorem d_method_2_98 : decode method_2_code 98 = .ok (.iconst 3, 1) := by decide +kernel
theorem d_method_2_99 : decode method_2_code 99 = .ok (.newarray .char, 2) := by decide +kernel
theorem d_method_2_101 : decode method_2_code 101 = .ok (.dup, 1) := by decide +kernel
theorem d_method_2_102 : decode method_2_code 102 = .ok (.iconst 0, 1) := by decide +kernel
theorem d_method_2_103 : decode method_2_code 103 = .ok (.iload 5, 2) := by decide +kernel
theorem d_method_2_105 : decode method_2_code 105 = .ok (.castore, 1) := by decide +kernel
theorem d_method_2_106 : decode method_2_code 106 = .ok (.dup, 1) := by decide +kernel
theorem d_method_2_107 : decode method_2_code 107 = .ok (.iconst 1, 1) := by decide +kernel
theorem d_method_2_108 : decode method_2_code 108 = .ok (.iload 6, 2) := by decide +kernel
theorem d_method_2_110 : decode method_2_code 110 = .ok (.castore, 1) := by decide +kernel
theorem d_method_2_111 : decode method_2_code 111 = .ok (.dup, 1) := by decide +kernel
theorem d_method_2_112 : decode method_2_code 112 = .ok (.iconst 2, 1) := by decide +kernel
theorem d_method_2_113 : decode method_2_code 113 = .ok (.iload 7, 2) := by decide +kernel
theorem d_method_2_115 : decode method_2_code 115 = .ok (.castore, 1) := by decide +kernel
theorem d_method_2_116 : decode method_2_code 116 = .ok (.invokespecial 9, 3) := by decide +kernel
theorem d_method_2_119 : decode method_2_code 119 = .ok (.areturn, 1) := by decide +kernel
theorem d_prog_3_1_0 : decode prog_3_method_1_code 0 = .ok (.aload_n 0, 1) := by decide +kernel
theorem d_prog_3_1_1 : decode prog_3_method_1_code 1 = .ok (.invokespecial 1, 3) := by decide +kernel
theorem d_prog_3_1_4 : decode prog_3_method_1_code 4 = .ok (.aload_n 0, 1) := by decide +kernel
theorem d_prog_3_1_5 : decode prog_3_method_1_code 5 = .ok (.aload_n 1, 1) := by decide +kernel
theorem d_prog_3_1_6 : decode prog_3_method_1_code 6 = .ok (.putfield 7, 3) := by decide +kernel
theorem d_prog_3_1_9 : decode prog_3_method_1_code 9 = .ok (.aload_n 0, 1) := by decide +kernel
theorem d_prog_3_1_10 : decode prog_3_method_1_code 10 = .ok (.aload_n 2, 1) := by decide +kernel
theorem d_prog_3_1_11 : decode prog_3_method_1_code 11 = .ok (.putfield 13, 3) := by decide +kernel
theorem d_prog_3_1_14 : decode prog_3_method_1_code 14 = .ok (.return_, 1) := by decide +kernel
theorem d_prog_3_2_0 : decode prog_3_method_2_code 0 = .ok (.new 8, 3) := by decide +kernel
theorem d_prog_3_2_3 : decode prog_3_method_2_code 3 = .ok (.dup, 1) := by decide +kernel
theorem d_prog_3_2_4 : decode prog_3_method_2_code 4 = .ok (.getstatic 17, 3) := by decide +kernel
theorem d_prog_3_2_7 : decode prog_3_method_2_code 7 = .ok (.aload_n 0, 1) := by decide +kernel
theorem d_prog_3_2_8 : decode prog_3_method_2_code 8 = .ok (.invokespecial 22, 3) := by decide +kernel
theorem d_prog_3_2_11 : decode prog_3_method_2_code 11 = .ok (.areturn, 1) := by decide +kernel
theorem d_prog_3_3_0 : decode prog_3_method_3_code 0 = .ok (.new 8, 3) := by decide +kernel
theorem d_prog_3_3_3 : decode prog_3_method_3_code 3 = .ok (.dup, 1) := by decide +kernel
theorem d_prog_3_3_4 : decode prog_3_method_3_code 4 = .ok (.getstatic 25, 3) := by decide +kernel
theorem d_prog_3_3_7 : decode prog_3_method_3_code 7 = .ok (.aload_n 0, 1) := by decide +kernel
theorem d_prog_3_3_8 : decode prog_3_method_3_code 8 = .ok (.invokespecial 22, 3) := by decide +kernel
theorem d_prog_3_3_11 : decode prog_3_method_3_code 11 = .ok (.areturn, 1) := by decide +kernel
theorem d_prog_3_4_0 : decode prog_3_method_4_code 0 = .ok (.aload_n 0, 1) := by decide +kernel
theorem d_prog_3_4_1 : decode prog_3_method_4_code 1 = .ok (.getfield 7, 3) := by decide +kernel
theorem d_prog_3_4_4 : decode prog_3_method_4_code 4 = .ok (.areturn, 1) := by decide +kernel
theorem d_prog_3_5_0 : decode prog_3_method_5_code 0 = .ok (.aload_n 0, 1) := by decide +kernel
theorem d_prog_3_5_1 : decode prog_3_method_5_code 1 = .ok (.getfield 13, 3) := by decide +kernel
theorem d_prog_3_5_4 : decode prog_3_method_5_code 4 = .ok (.areturn, 1) := by decide +kernel
theorem pd_0 : parseMethodDescriptor "([CI[BII)I" = some ⟨[(.array .char), .int, (.array .byte), .int, .int], some .int⟩ := by decide +kernel
theorem pd_1 : parseMethodDescriptor "([CII)[B" = some ⟨[(.array .char), .int, .int], some (.array .byte)⟩ := by decide +kernel
theorem pd_2 : parseMethodDescriptor "([BI)B" = some ⟨[(.array .byte), .int], some .byte⟩ := by decide +kernel
theorem pd_3 : parseMethodDescriptor "([CIILjava/lang/Void;)V" = some ⟨[(.array .char), .int, .int, (.object "java/lang/Void")], none⟩ := by decide +kernel
theorem pd_4 : parseMethodDescriptor "([C)V" = some ⟨[(.array .char)], none⟩ := by decide +kernel
theorem pd_5 : parseMethodDescriptor "(Lcom/example/usher/usher/model/Principal$Kind;Ljava/lang/String;)V" = some ⟨[(.object "com/example/usher/usher/model/Principal$Kind"), (.object "java/lang/String")], none⟩ := by decide +kernel
theorem pd_6 : parseMethodDescriptor "(IIII)Ljava/lang/String;" = some ⟨[.int, .int, .int, .int], some (.object "java/lang/String")⟩ := by decide +kernel
theorem pd_7 : parseMethodDescriptor "(Ljava/lang/String;)Lcom/example/usher/usher/model/Principal;" = some ⟨[(.object "java/lang/String")], some (.object "com/example/usher/usher/model/Principal")⟩ := by decide +kernel
theorem pd_8 : parseMethodDescriptor "()Ljava/lang/String;" = some ⟨[], some (.object "java/lang/String")⟩ := by decide +kernel
theorem pd_9 : parseMethodDescriptor "(Ljava/lang/Object;)Z" = some ⟨[(.object "java/lang/Object")], some .boolean⟩ := by decide +kernel
theorem pd_10 : parseMethodDescriptor "()Lcom/example/usher/usher/model/Principal$Kind;" = some ⟨[], some (.object "com/example/usher/usher/model/Principal$Kind")⟩ := by decide +kernel
theorem pn_0 : plainName "java/lang/StringUTF16" = true := by first | (simp [plainName, overriddenIn]; done) | decide +kernel
theorem pn_1 : plainName "java/lang/String" = true := by first | (simp [plainName, overriddenIn]; done) | decide +kernel
theorem pn_2 : plainName "com/example/usher/usher/model/PrincipalGroupPinLaw" = true := by first | (simp [plainName, overriddenIn]; done) | decide +kernel
theorem pn_3 : plainName "com/example/usher/usher/model/Principal" = true := by first | (simp [plainName, overriddenIn]; done) | decide +kernel
theorem own_fldI {s : State} {args : Array Value} {t : Term} {a : Addr} {C f : String} {z : Int32} (e : t.eval args s none [] s = some (.ref a)) (h : (Jvm.Cond.eq (Jvm.Term.field t C f "I") (Jvm.Term.int z)).value args s none s [] = some true) : Fld s s.heap a C f "I" (.int z) := by
  have q := eqv_i (Z := s) (F := Jvm.Term.int z) (y := z) rfl h
  rw [fld_at e] at q
  exact Fld.start q
theorem own_fldJ {s : State} {args : Array Value} {t : Term} {a : Addr} {C f : String} {z : Int64} (e : t.eval args s none [] s = some (.ref a)) (h : (Jvm.Cond.eq (Jvm.Term.field t C f "J") (Jvm.Term.long z)).value args s none s [] = some true) : Fld s s.heap a C f "J" (.long z) := by
  have q := eqv_l (Z := s) (F := Jvm.Term.long z) (y := z) rfl h
  rw [fld_at e] at q
  exact Fld.start q
theorem own_fldR {s : State} {args : Array Value} {t u : Term} {a b : Addr} {C f d : String} (e : t.eval args s none [] s = some (.ref a)) (eu : u.eval args s none [] s = some (.ref b)) (h : (Jvm.Cond.eq (Jvm.Term.field t C f d) u).value args s none s [] = some true) : Fld s s.heap a C f d (.ref b) := by
  obtain ⟨x, y, e1, e2, k1, k2⟩ := cmp_v (Or.inl h)
  cases eu.symm.trans e2
  have hx : x.isRef = true := k2.2
  have q := gotT (eq_R e1 e2 hx rfl) h
  subst q
  rw [fld_at e] at e1
  exact Fld.start e1
theorem own_fitsO {C : String} {v : Value} (h : v.isRef = true) : fits (.object C) v = true := by cases v <;> simp [Value.isRef, fits] at h ⊢
theorem own_narO {C : String} {v : Value} (h : v.isRef = true) : narrow (.object C) v = v := by cases v <;> first | rfl | simp [Value.isRef] at h
theorem own_all0 {P : Int32 → Prop} : ∀ c ∈ ([] : List Int32), P c := fun _ q => nomatch q
theorem own_allS {P : Int32 → Prop} {a : Int32} {L : List Int32} (q : P a) (r : ∀ c ∈ L, P c) : ∀ c ∈ a :: L, P c := fun x z => (List.mem_cons.mp z).elim (fun u => u ▸ q) (r x)
def latB (c : Int32) : Value := .int c.toInt8.toInt32
/-- the object at a is a Latin-1 String of the chars cs; its bytes lie at b -/
def SL (Z : State) (h : Heap) (a b : Nat) (cs : List Int32) : Prop := Exa Z h a "java/lang/String" ∧ Fld Z h a "java/lang/String" "coder" "B" (.int 0) ∧ Fld Z h a "java/lang/String" "value" "[B" (.ref b) ∧ Ary Z h b .byte (cs.map latB) ∧ ∀ c ∈ cs, 0 ≤ c.toInt ∧ c.toInt ≤ 255
theorem SL.keep {Z : State} {h h' : Heap} {a b : Addr} {cs : List Int32} {ws : List Addr} (S : SL Z h a b cs) (K : Keep h h' ws) (qa : a ∉ ws) (qb : b ∉ ws) : SL Z h' a b cs := by
  obtain ⟨E, F1, F2, V, q⟩ := S
  exact ⟨E.keep K, F1.keep K qa, F2.keep K qa, V.keep K qb, q⟩
theorem SL.lt {Z : State} {h : Heap} {a b : Addr} {cs : List Int32} (S : SL Z h a b cs) : a < h.size := S.1.lt
theorem SL.ltb {Z : State} {h : Heap} {a b : Addr} {cs : List Int32} (S : SL Z h a b cs) : b < h.size := S.2.2.2.1.lt
theorem own_b8 (c : Int32) : c.toInt8.toInt32.toInt8.toInt32 = c.toInt8.toInt32 := by simp
theorem own_toInt {n : Nat} (h : n < 2 ^ 31) : n.toInt32.toInt = n := len_toInt h
theorem own_ltn {i n : Nat} (h : i < n) (hn : n < 2 ^ 31) : i.toInt32 < n.toInt32 := by
  rw [Int32.lt_iff_toInt_lt, own_toInt (by omega), own_toInt hn]; omega
theorem own_nltn {i n : Nat} (h : n ≤ i) (hn : i < 2 ^ 31) : ¬ i.toInt32 < n.toInt32 := by
  rw [Int32.lt_iff_toInt_lt, own_toInt hn, own_toInt (by omega)]; omega
theorem own_nneg {n : Nat} (hn : n < 2 ^ 31) : ¬ n.toInt32 < 0 := by
  rw [Int32.lt_iff_toInt_lt, own_toInt hn]; simp
theorem own_succ (i : Nat) : i.toInt32 + Int32.ofInt 1 = (i + 1).toInt32 := by
  show Int32.ofNat i + Int32.ofInt 1 = Int32.ofNat (i + 1)
  rw [Int32.ofNat_add]; rfl
theorem own_fill {cs : List Int32} {bs : List Value} {i : Nat} {c : Int32} (hl : bs.length = cs.length) (hc : cs[i]? = some c) : ((cs.take i).map latB ++ bs.drop i).set i (latB c) = (cs.take (i + 1)).map latB ++ bs.drop (i + 1) := by
  have hi : i < cs.length := (List.getElem?_eq_some_iff.mp hc).1
  have e1 : ((cs.take i).map latB).length = i := by simp; omega
  have e2 : bs.drop i = bs[i] :: bs.drop (i + 1) := List.drop_eq_getElem_cons (by omega)
  have e3 : cs.take (i + 1) = cs.take i ++ [c] := by rw [List.take_add_one, hc]; rfl
  rw [List.set_append_right _ _ (by omega), e1, e2, e3, Nat.sub_self, List.set_cons_zero, List.map_append, List.append_assoc]
  rfl
theorem own_back (c : Int32) (h : 0 ≤ c.toInt ∧ c.toInt ≤ 255) : nar .char (c.toInt8.toInt32 &&& 255).toUInt32.toUInt16.toUInt32.toInt32 = c := by
  have e : ∀ n : Fin 256, nar .char ((Int32.ofNat n.1).toInt8.toInt32 &&& 255).toUInt32.toUInt16.toUInt32.toInt32 = Int32.ofNat n.1 := by decide +kernel
  have q : c = Int32.ofNat c.toInt.toNat := by
    apply Int32.toInt_inj.mp
    rw [show Int32.ofNat c.toInt.toNat = c.toInt.toNat.toInt32 from rfl, own_toInt (by omega)]; omega
  rw [q]
  exact e ⟨c.toInt.toNat, by omega⟩
theorem own_csub (n : Int32) : (((n - n).toUInt32 >>> ((31 : Int32) &&& 31).toUInt32).toInt32).toInt8.toInt32 = 0 := by
  rw [Int32.sub_self]; decide
theorem own_nchar {c : Int32} (h : 0 ≤ c.toInt ∧ c.toInt < 65536) : nar .char c = c := by
  have q := c_i2c c
  apply Int32.toInt_inj.mp
  show c.toUInt32.toUInt16.toUInt32.toInt32.toInt = c.toInt
  omega
/-- the JDK's statics that String's methods read -/
def SEnv (Z : State) (cc : Int32) (fm : Value) : Prop := Sta Z Z.heap "java/lang/String" "COMPACT_STRINGS" "Z" (.int cc) ∧ ¬ cc = 0 ∧ Sta Z Z.heap "jdk/internal/util/Preconditions" "SIOOBE_FORMATTER" "Ljava/util/function/BiFunction;" fm ∧ fm.isRef = true
set_option maxRecDepth 65536 in
set_option maxHeartbeats 40000000 in
theorem c_compr (l : Launch) (Z : State) (a0 : Array Value) (hw : ∀ d ∈ tables_1, d.before a0 Z = true) (hE : EW Z a0 consts_1) (ca ba : Nat) (cs : List Int32) (bs : List Value) (h0 : Heap) (O : Ext Z.heap h0) (hn : cs.length ≤ 3) (hch : ∀ c ∈ cs, 0 ≤ c.toInt ∧ c.toInt ≤ 255) (VA : Ary Z h0 ca .char (cs.map Value.int)) (VB : Ary Z h0 ba .byte bs) (hbl : bs.length = cs.length) (hne : ca ≠ ba) (hz : Z.heap.size ≤ ba) :
    Con l Z consts_1 (⟨"java/lang/StringUTF16", "compress", "([CI[BII)I"⟩ : MethodName) jdk_52_method_21_code 7 (Option.some Jvm.ClassFile.FieldType.int) ({ frames := 0, cells := 0, slots := 0, locals := 0 } : Room) #[(.ref ca), (.int (0 : Int32)), (.ref ba), (.int (0 : Int32)), (.int cs.length.toInt32)] h0 [ba] (fun v h => v = some (.int cs.length.toInt32) ∧ Ary Z h ba .byte (cs.map latB)) := by
  refine Con.of (a0 := a0) #[.val (.ref ca), .val (.int (0 : Int32)), .val (.ref ba), .val (.int (0 : Int32)), .val (.int cs.length.toInt32), .unset, .unset] (plainFor_of_name pn_0) hE O (allS ⟨hz, VB.lt⟩ all0) (fun m => by first | (simp [entryFrame, mkF, argsToLocals, Value.category]; done) | rfl) ?_
  intro p e s m below meth c T0 hx hby hml hnm hret hlk hh W0
  have hn31 : cs.length < 2 ^ 31 := by omega
  refine g_iconst (0 : Int32) (pc' := 1) W0.here hx (hb hby d_jdk_52_21_0) rfl rfl ?_
  refine g_istore (pc' := 3) (Ls' := #[.val (.ref ca), .val (.int (0 : Int32)), .val (.ref ba), .val (.int (0 : Int32)), .val (.int cs.length.toInt32), .val (.int (0 : Int32)), .unset]) W0.here hx (hb hby d_jdk_52_21_1) rfl rfl ?_
  have LOOP : ∀ (k i : Nat), i + k = cs.length → ∀ (TL : State) (hL : Heap) (o6 : Slot), One o6 → Wk p l e ({ frames := 0, cells := 0, slots := 0, locals := 0 } : Room) s m #[(.ref ca), (.int (0 : Int32)), (.ref ba), (.int (0 : Int32)), (.int cs.length.toInt32)] below meth c Z consts_1 "java/lang/StringUTF16" [ba] [] TL hL 0 0 → Keep h0 hL [ba] → Ary Z hL ba .byte ((cs.take i).map latB ++ bs.drop i) → Gets p.tables e below (Post s Z consts_1 ({ frames := 0, cells := 0, slots := 0, locals := 0 } : Room) h0 [ba] (fun v h => v = some (.int cs.length.toInt32) ∧ Ary Z h ba .byte (cs.map latB))) TL (mkF m 3 #[.val (.ref ca), .val (.int i.toInt32), .val (.ref ba), .val (.int i.toInt32), .val (.int cs.length.toInt32), .val (.int i.toInt32), o6] []) := by
    intro k
    induction k with
    | zero =>
      intro i hi TL hL o6 ho6 WL KL VBL
      have VAL := VA.keep KL (ninS hne nin0)
      refine g_iload (pc' := 5) WL.here hx (hb hby d_jdk_52_21_3) rfl rfl ?_
      refine g_iload (pc' := 7) WL.here hx (hb hby d_jdk_52_21_5) rfl rfl ?_
      refine g_icmpY (pc' := 44) WL.here hx (hb hby d_jdk_52_21_7) rfl (flt (show ¬ (i.toInt32 < cs.length.toInt32) from (own_nltn (by omega) (by omega)))).2.1 ?_
      refine g_iload (pc' := 46) WL.here hx (hb hby d_jdk_52_21_44) rfl rfl ?_
      refine w_retI WL hx hh hlk hret (hb hby d_jdk_52_21_46) (Nat.le_of_ble_eq_true rfl) (Nat.le_of_ble_eq_true rfl) ?_
      have e1 : i = cs.length := by omega
      subst e1
      rw [List.take_length, List.drop_eq_nil_of_le (by omega), List.append_nil] at VBL
      exact ⟨rfl, VBL⟩
    | succ k ih =>
      intro i hi TL hL o6 ho6 WL KL VBL
      have VAL := VA.keep KL (ninS hne nin0)
      have hi2 : i < cs.length := by omega
      obtain ⟨ci, hci⟩ : ∃ ci, cs[i]? = some ci := ⟨_, List.getElem?_eq_getElem hi2⟩
      have hcm : ci ∈ cs := List.mem_of_getElem? hci
      have hcr := hch ci hcm
      refine g_iload (pc' := 5) WL.here hx (hb hby d_jdk_52_21_3) rfl rfl ?_
      refine g_iload (pc' := 7) WL.here hx (hb hby d_jdk_52_21_5) rfl rfl ?_
      refine g_icmpN (pc' := 10) WL.here hx (hb hby d_jdk_52_21_7) rfl (tlt (show i.toInt32 < cs.length.toInt32 from (own_ltn hi2 hn31))).2.1 ?_
      refine g_aloadN (pc' := 11) WL.here hx (hb hby d_jdk_52_21_10) rfl rfl rfl ?_
      refine g_iloadN (pc' := 12) WL.here hx (hb hby d_jdk_52_21_11) rfl rfl ?_
      refine w_caload (pc' := 13) (v := (.int ci)) WL hx VAL (own_nneg (by omega)) (by rw [i32_nat (by omega), List.getElem?_map, hci]; rfl) (hb hby d_jdk_52_21_12) rfl ?_
      refine g_istore (pc' := 15) (Ls' := #[.val (.ref ca), .val (.int i.toInt32), .val (.ref ba), .val (.int i.toInt32), .val (.int cs.length.toInt32), .val (.int i.toInt32), .val (.int ci)]) WL.here hx (hb hby d_jdk_52_21_13) (XS.store1 (o := o6) rfl ho6 rfl) rfl ?_
      refine g_iload (pc' := 17) WL.here hx (hb hby d_jdk_52_21_15) rfl rfl ?_
      refine g_sipush (255 : Int32) (pc' := 20) WL.here hx (hb hby d_jdk_52_21_17) rfl rfl ?_
      refine g_icmpY (pc' := 26) WL.here hx (hb hby d_jdk_52_21_20) rfl (flt (show ¬ ((255 : Int32) < ci) from (by rw [Int32.lt_iff_toInt_lt]; have : (255 : Int32).toInt = 255 := rfl; omega))).2.2.2 ?_
      refine g_aloadN (pc' := 27) WL.here hx (hb hby d_jdk_52_21_26) rfl rfl rfl ?_
      refine g_iloadN (pc' := 28) WL.here hx (hb hby d_jdk_52_21_27) rfl rfl ?_
      refine g_iload (pc' := 30) WL.here hx (hb hby d_jdk_52_21_28) rfl rfl ?_
      refine g_i2b (pc' := 31) WL.here hx (hb hby d_jdk_52_21_30) rfl ?_
      refine w_bastore (pc' := 32) (x' := ci.toInt8.toInt32) WL hx VBL (own_nneg (by omega)) (by rw [i32_nat (by omega)]; simp; omega) (List.mem_of_getElem? (i := 0) rfl) (own_b8 ci) (hb hby d_jdk_52_21_31) rfl fun T1 h1 W1 K1 V1 => ?_
      have z_K1 : hL.size ≤ h1.size := K1.1
      have V1 : Ary Z h1 ba .byte ((cs.take (i + 1)).map latB ++ bs.drop (i + 1)) := by rw [i32_nat (by omega)] at V1; rw [← own_fill hbl hci]; exact V1
      refine g_iincV (i + 1).toInt32 (pc' := 35) (Ls' := #[.val (.ref ca), .val (.int (i + 1).toInt32), .val (.ref ba), .val (.int i.toInt32), .val (.int cs.length.toInt32), .val (.int i.toInt32), .val (.int ci)]) W1.here hx (hb hby d_jdk_52_21_32) (own_succ i) rfl rfl rfl ?_
      refine g_iincV (i + 1).toInt32 (pc' := 38) (Ls' := #[.val (.ref ca), .val (.int (i + 1).toInt32), .val (.ref ba), .val (.int (i + 1).toInt32), .val (.int cs.length.toInt32), .val (.int i.toInt32), .val (.int ci)]) W1.here hx (hb hby d_jdk_52_21_35) (own_succ i) rfl rfl rfl ?_
      refine g_iincV (i + 1).toInt32 (pc' := 41) (Ls' := #[.val (.ref ca), .val (.int (i + 1).toInt32), .val (.ref ba), .val (.int (i + 1).toInt32), .val (.int cs.length.toInt32), .val (.int (i + 1).toInt32), .val (.int ci)]) W1.here hx (hb hby d_jdk_52_21_38) (own_succ i) rfl rfl rfl ?_
      refine g_goto (pc' := 3) W1.here hx (hb hby d_jdk_52_21_41) rfl ?_
      exact ih (i + 1) (by omega) _ _ _ (One.val rfl) W1 (KL.trans K1 (fun x q => Or.inl q)) V1
  exact LOOP cs.length 0 (by omega) _ _ _ One.u W0 (Keep.refl _ _) (by simpa using VB)
set_option maxRecDepth 65536 in
set_option maxHeartbeats 40000000 in
theorem c_compress (l : Launch) (Z : State) (a0 : Array Value) (hw : ∀ d ∈ tables_1, d.before a0 Z = true) (hE : EW Z a0 consts_1) (ca : Nat) (cs : List Int32) (h0 : Heap) (O : Ext Z.heap h0) (hn : cs.length ≤ 3) (hch : ∀ c ∈ cs, 0 ≤ c.toInt ∧ c.toInt ≤ 255) (VA : Ary Z h0 ca .char (cs.map Value.int))  :
    Con l Z consts_1 (⟨"java/lang/StringUTF16", "compress", "([CII)[B"⟩ : MethodName) jdk_52_method_16_code 6 (Option.some (Jvm.ClassFile.FieldType.array Jvm.ClassFile.FieldType.byte)) ({ frames := 1, cells := 1, slots := 3, locals := 18 } : Room) #[(.ref ca), (.int (0 : Int32)), (.int cs.length.toInt32)] h0 [] (fun v h => ∃ ba : Nat, v = some (.ref ba) ∧ h0.size ≤ ba ∧ Ary Z h ba .byte (cs.map latB)) := by
  refine Con.of (a0 := a0) #[.val (.ref ca), .val (.int (0 : Int32)), .val (.int cs.length.toInt32), .unset, .unset, .unset] (plainFor_of_name pn_0) hE O all0 (fun m => by first | (simp [entryFrame, mkF, argsToLocals, Value.category]; done) | rfl) ?_
  intro p e s m below meth c T0 hx hby hml hnm hret hlk hh W0
  have hn31 : cs.length < 2 ^ 31 := by omega
  have lt_ca : ca < h0.size := VA.lt
  refine g_iloadN (pc' := 1) W0.here hx (hb hby d_jdk_52_16_0) rfl rfl ?_
  refine w_newarr (pc' := 3) (cap := 3) W0 hx (hw _ (List.mem_of_getElem? w_19)) (hb hby d_jdk_52_16_1) (own_nneg hn31) (by rw [i32_nat hn31]; exact hn) (Nat.le_of_ble_eq_true rfl) (Nat.le_of_ble_eq_true rfl) (Nat.le_of_ble_eq_true rfl) rfl rfl fun T2 h2 b2 g2 W2 K2 V2 => ?_
  have z_K2 : h0.size ≤ h2.size := K2.1
  have ne_ca_b2 : ca ≠ b2 := by omega
  have lt_b2 : b2 < h2.size := W2.lt (List.mem_cons_self ..)
  have V3 : Ary Z h2 b2 .byte (List.replicate cs.length (.int 0)) := by rw [i32_nat hn31] at V2; exact V2
  refine g_astoreN (pc' := 4) (Ls' := #[.val (.ref ca), .val (.int (0 : Int32)), .val (.int cs.length.toInt32), .val (.ref b2), .unset, .unset]) W2.here hx (hb hby d_jdk_52_16_3) rfl rfl rfl ?_
  refine g_aloadN (pc' := 5) W2.here hx (hb hby d_jdk_52_16_4) rfl rfl rfl ?_
  refine g_iloadN (pc' := 6) W2.here hx (hb hby d_jdk_52_16_5) rfl rfl ?_
  refine g_aloadN (pc' := 7) W2.here hx (hb hby d_jdk_52_16_6) rfl rfl rfl ?_
  refine g_iconst (0 : Int32) (pc' := 8) W2.here hx (hb hby d_jdk_52_16_7) rfl rfl ?_
  refine g_iloadN (pc' := 9) W2.here hx (hb hby d_jdk_52_16_8) rfl rfl ?_
  have c4 := (VA.keep K2 nin0)
  refine w_callS (pc' := 12) (st := []) (y := (⟨"java/lang/StringUTF16", "compress", "([CI[BII)I"⟩ : MethodName)) W2 hx [(.ref ca), (.int (0 : Int32)), (.ref b2), (.int (0 : Int32)), (.int cs.length.toInt32)] (hw _ (List.mem_of_getElem? w_69)) (hw _ (List.mem_of_getElem? w_70)) (hw _ (List.mem_of_getElem? w_67)) (hw _ (List.mem_of_getElem? w_71)) (by decide) (c_compr l Z a0 hw hE ca b2 cs _ h2 W2.old hn hch c4 V3 (by simp) ne_ca_b2 (by have := O.1; omega)) (allS (List.mem_of_getElem? (i := 0) rfl) all0) (by rw [hml]; rfl) (lenOf pd_0 rfl) rfl (hb hby d_jdk_52_16_9) (Nat.le_of_ble_eq_true rfl) (Nat.le_of_ble_eq_true rfl) (Nat.le_of_ble_eq_true rfl) (Nat.le_of_ble_eq_true rfl) rfl fun v5 T5 h5 W5 K5 Q5 => ?_
  have z_K5 : h2.size ≤ h5.size := K5.1
  obtain ⟨rfl, V6⟩ := Q5
  refine g_istore (pc' := 14) (Ls' := #[.val (.ref ca), .val (.int (0 : Int32)), .val (.int cs.length.toInt32), .val (.ref b2), .val (.int cs.length.toInt32), .unset]) W5.here hx (hb hby d_jdk_52_16_12) rfl rfl ?_
  refine g_iload (pc' := 16) W5.here hx (hb hby d_jdk_52_16_14) rfl rfl ?_
  refine g_iloadN (pc' := 17) W5.here hx (hb hby d_jdk_52_16_16) rfl rfl ?_
  refine g_icmpY (pc' := 57) W5.here hx (hb hby d_jdk_52_16_17) rfl (teq (show cs.length.toInt32 = cs.length.toInt32 from rfl)).1 ?_
  refine g_aloadN (pc' := 58) W5.here hx (hb hby d_jdk_52_16_57) rfl rfl rfl ?_
  refine w_retA W5 hx hh hlk hret rfl rfl (hb hby d_jdk_52_16_58) (Nat.le_of_ble_eq_true rfl) (Nat.le_of_ble_eq_true rfl) ?_
  exact ⟨_, rfl, by omega, V6⟩
set_option maxRecDepth 65536 in
set_option maxHeartbeats 40000000 in
theorem c_coderFrom (l : Launch) (Z : State) (a0 : Array Value) (hw : ∀ d ∈ tables_1, d.before a0 Z = true) (hE : EW Z a0 consts_1) (ba : Nat) (cs : List Int32) (bs : List Value) (h0 : Heap) (O : Ext Z.heap h0) (VB : Ary Z h0 ba .byte bs) (hbl : bs.length = cs.length) :
    Con l Z consts_1 (⟨"java/lang/StringUTF16", "coderFromArrayLen", "([BI)B"⟩ : MethodName) jdk_52_method_15_code 2 (Option.some Jvm.ClassFile.FieldType.byte) ({ frames := 0, cells := 0, slots := 0, locals := 0 } : Room) #[(.ref ba), (.int cs.length.toInt32)] h0 [] (pureQ (some (.int 0)) h0) := by
  refine Con.of (a0 := a0) #[.val (.ref ba), .val (.int cs.length.toInt32)] (plainFor_of_name pn_0) hE O all0 (fun m => by first | (simp [entryFrame, mkF, argsToLocals, Value.category]; done) | rfl) ?_
  intro p e s m below meth c T0 hx hby hml hnm hret hlk hh W0
  refine g_iloadN (pc' := 1) W0.here hx (hb hby d_jdk_52_15_0) rfl rfl ?_
  refine g_aloadN (pc' := 2) W0.here hx (hb hby d_jdk_52_15_1) rfl rfl rfl ?_
  refine w_len (pc' := 3) W0 hx VB (hb hby d_jdk_52_15_2) rfl ?_
  refine g_name (w := .int cs.length.toInt32) (congrArg Value.int (by rw [hbl])) ?_
  refine g_isub (pc' := 4) W0.here hx (hb hby d_jdk_52_15_3) rfl ?_
  refine g_bipush (31 : Int32) (pc' := 6) W0.here hx (hb hby d_jdk_52_15_4) rfl rfl ?_
  refine g_iushr (pc' := 7) W0.here hx (hb hby d_jdk_52_15_6) rfl ?_
  refine g_i2b (pc' := 8) W0.here hx (hb hby d_jdk_52_15_7) rfl ?_
  refine w_retN (t := .byte) W0 hx hh hlk hret (by simp) (hb hby d_jdk_52_15_8) (Nat.le_of_ble_eq_true rfl) (Nat.le_of_ble_eq_true rfl) ?_
  exact ⟨congrArg (fun z => some (Value.int z)) (by rw [own_csub]; rfl), rfl⟩
theorem own_pos0 {n : Nat} (h : 0 < n) (hn : n < 2 ^ 31) : ¬ n.toInt32 = 0 := fun q => by
  have := congrArg Int32.toInt q
  rw [own_toInt hn] at this
  simp at this; omega
theorem own_nil {cs : List Int32} (hn : cs.length < 2 ^ 31) (q : cs.length.toInt32 = (0 : Int32)) : cs = [] := by
  cases cs with
  | nil => rfl
  | cons a t => exact absurd q (own_pos0 (by simp) hn)
theorem own_atoms {Z : State} {a0 : Array Value} (hw : ∀ d ∈ tables_1, d.before a0 Z = true) : ∀ a ∈ Bundle.stringAtoms, a.before a0 Z = true := fun d hd => by
  simp only [Bundle.stringAtoms, Bundle.sN, List.mem_cons, List.not_mem_nil, or_false] at hd
  rcases hd with rfl | rfl | rfl | rfl | rfl | rfl | rfl
  · exact (hw _ (List.mem_of_getElem? w_6))
  · exact (hw _ (List.mem_of_getElem? w_5))
  · exact (hw _ (List.mem_of_getElem? w_19))
  · exact (hw _ (List.mem_of_getElem? w_20))
  · exact (hw _ (List.mem_of_getElem? w_21))
  · exact (hw _ (List.mem_of_getElem? w_22))
  · exact (hw _ (List.mem_of_getElem? w_23))
set_option maxRecDepth 65536 in
set_option maxHeartbeats 40000000 in
theorem c_str4 (l : Launch) (Z : State) (a0 : Array Value) (hw : ∀ d ∈ tables_1, d.before a0 Z = true) (hE : EW Z a0 consts_1) (cc : Int32) (fm : Value) (o ca : Nat) (cs : List Int32) (h0 : Heap) (O : Ext Z.heap h0) (G : SEnv Z cc fm) (hn : cs.length ≤ 3) (hch : ∀ c ∈ cs, 0 ≤ c.toInt ∧ c.toInt ≤ 255) (VA : Ary Z h0 ca .char (cs.map Value.int)) (hz : Z.heap.size ≤ o) (E0 : Exa Z h0 o "java/lang/String") (u1 u2 : Value) (F1 : Fld Z h0 o "java/lang/String" "coder" "B" u1) (F2 : Fld Z h0 o "java/lang/String" "value" "[B" u2) (hoc : o ≠ ca)  :
    Con l Z consts_1 (⟨"java/lang/String", "<init>", "([CIILjava/lang/Void;)V"⟩ : MethodName) jdk_42_method_149_code 6 (Option.none : Option Jvm.ClassFile.FieldType) ({ frames := 2, cells := 4, slots := 8, locals := 35 } : Room) #[(.ref o), (.ref ca), (.int (0 : Int32)), (.int cs.length.toInt32), .null] h0 [o] (fun v h => v = none ∧ ∃ b : Nat, SL Z h o b cs) := by
  refine Con.of (a0 := a0) #[.val (.ref o), .val (.ref ca), .val (.int (0 : Int32)), .val (.int cs.length.toInt32), .val .null, .unset] (plainFor_of_name pn_1) hE O (allS ⟨hz, E0.lt⟩ all0) (fun m => by first | (simp [entryFrame, mkF, argsToLocals, Value.category]; done) | rfl) ?_
  intro p e s m below meth c T0 hx hby hml hnm hret hlk hh W0
  have hn31 : cs.length < 2 ^ 31 := by omega
  have lt_ca : ca < h0.size := VA.lt
  have lt_o : o < h0.size := E0.lt
  refine g_aloadN (pc' := 1) W0.here hx (hb hby d_jdk_42_149_0) rfl rfl rfl ?_
  refine w_initO (pc' := 4) W0 hx (hw _ (List.mem_of_getElem? w_15)) (hw _ (List.mem_of_getElem? w_16)) (hw _ (List.mem_of_getElem? w_17)) (by rw [hml]; rfl) (hb hby d_jdk_42_149_1) (Nat.le_of_ble_eq_true rfl) (Nat.le_of_ble_eq_true rfl) rfl fun T7 W7 => ?_
  refine g_iloadN (pc' := 5) W7.here hx (hb hby d_jdk_42_149_4) rfl rfl ?_
  by_cases hc5_8 : cs.length.toInt32 = (0 : Int32)
  · refine g_ifN (pc' := 8) W7.here hx (hb hby d_jdk_42_149_5) rfl (teq hc5_8).2 ?_
    have e0 : cs = [] := own_nil hn31 hc5_8
    refine g_aloadN (pc' := 9) W7.here hx (hb hby d_jdk_42_149_8) rfl rfl rfl ?_
    refine w_ldcS (pc' := 11) (vs := []) (z := 0) W7 hx (hw _ (List.mem_of_getElem? w_18)) (own_atoms hw) (List.mem_of_getElem? (i := 0) rfl) ⟨fun _ q => (nomatch q), rfl⟩ (by decide) rfl (hb hby d_jdk_42_149_9) 0 (Nat.le_of_ble_eq_true rfl) (Nat.le_of_ble_eq_true rfl) (Nat.le_of_ble_eq_true rfl) (Nat.le_of_ble_eq_true rfl) rfl fun T9 h9 sa9 sb9 W9 K9 A9 C9 F9 V9 N9 => ?_
    have z_K9 : h0.size ≤ h9.size := K9.1
    obtain ⟨ne_o_sa9, ne_o_sb9⟩ := N9 o (List.mem_of_getElem? (i := 0) rfl)
    refine w_get (pc' := 14) W9 hx (hw _ (List.mem_of_getElem? w_24)) Via.refl F9 (hb hby d_jdk_42_149_11) rfl fun T10 W10 => ?_
    have c11 := (F2.keep K9 nin0)
    have c12 := (E0.keep K9)
    refine w_put (pc' := 17) W10 hx (hw _ (List.mem_of_getElem? w_24)) Via.refl c11 c12 (Or.inr ⟨(hw _ (List.mem_of_getElem? w_20)), rfl, hnm⟩) (hw _ (List.mem_of_getElem? w_5)) (ty := (.array .byte)) (by decide) rfl rfl (List.mem_of_getElem? (i := 0) rfl) (hb hby d_jdk_42_149_14) rfl fun T13 h13 W13 K13 R13 F13 A13 => ?_
    have c14 := (F1.keep K9 nin0)
    have z_K13 : h9.size ≤ h13.size := K13.1
    have c15 := (c14.other R13 (Or.inr (slot_ne (Or.inr (hw _ (List.mem_of_getElem? w_21))) (Or.inr (hw _ (List.mem_of_getElem? w_20))) (by decide) (t := .byte) (t' := (.array .byte)) (by decide) (by decide))))
    refine g_aloadN (pc' := 18) W13.here hx (hb hby d_jdk_42_149_17) rfl rfl rfl ?_
    refine w_ldcS (pc' := 20) (vs := []) (z := 0) W13 hx (hw _ (List.mem_of_getElem? w_18)) (own_atoms hw) (List.mem_of_getElem? (i := 0) rfl) ⟨fun _ q => (nomatch q), rfl⟩ (by decide) rfl (hb hby d_jdk_42_149_18) 0 (Nat.le_of_ble_eq_true rfl) (Nat.le_of_ble_eq_true rfl) (Nat.le_of_ble_eq_true rfl) (Nat.le_of_ble_eq_true rfl) rfl fun T16 h16 sa16 sb16 W16 K16 A16 C16 F16 V16 N16 => ?_
    have z_K16 : h13.size ≤ h16.size := K16.1
    obtain ⟨ne_o_sa16, ne_o_sb16⟩ := N16 o (List.mem_of_getElem? (i := 0) rfl)
    refine w_get (pc' := 23) W16 hx (hw _ (List.mem_of_getElem? w_25)) Via.refl C16 (hb hby d_jdk_42_149_20) rfl fun T17 W17 => ?_
    have c18 := (c15.keep K16 nin0)
    have c19 := (A13.keep K16)
    refine w_putN (pc' := 26) (v' := (.int (0 : Int32))) W17 hx (hw _ (List.mem_of_getElem? w_25)) Via.refl c18 c19 (Or.inr ⟨(hw _ (List.mem_of_getElem? w_21)), rfl, hnm⟩) (hw _ (List.mem_of_getElem? w_5)) (ty := .byte) (by decide) rfl rfl (List.mem_of_getElem? (i := 0) rfl) (hb hby d_jdk_42_149_23) rfl fun T20 h20 W20 K20 R20 F20 A20 => ?_
    have c21 := (F13.keep K16 nin0)
    have z_K20 : h16.size ≤ h20.size := K20.1
    have c22 := (c21.other R20 (Or.inr (slot_ne (Or.inr (hw _ (List.mem_of_getElem? w_20))) (Or.inr (hw _ (List.mem_of_getElem? w_21))) (by decide) (t := (.array .byte)) (t' := .byte) (by decide) (by decide))))
    have c23 := (((V9.keep K13 (ninS (Ne.symm ne_o_sb9) nin0)).keep K16 nin0).keep K20 (ninS (Ne.symm ne_o_sb9) nin0))
    refine w_retV W20 hx hh hlk hret (hb hby d_jdk_42_149_26) (Nat.le_of_ble_eq_true rfl) (Nat.le_of_ble_eq_true rfl) ?_
    refine ⟨rfl, sb9, A20, F20, c22, ?_, hch⟩
    rw [e0]; exact c23
  · refine g_ifY (pc' := 27) W7.here hx (hb hby d_jdk_42_149_5) rfl (feq hc5_8).2 ?_
    refine w_getS (pc' := 30) W7 hx (hw _ (List.mem_of_getElem? w_64)) Via.refl G.1 (hb hby d_jdk_42_149_27) rfl fun T24 W24 => ?_
    refine g_ifN (pc' := 33) W24.here hx (hb hby d_jdk_42_149_30) rfl (feq (show ¬ (cc = (0 : Int32)) from G.2.1)).1 ?_
    refine g_aloadN (pc' := 34) W24.here hx (hb hby d_jdk_42_149_33) rfl rfl rfl ?_
    refine g_iloadN (pc' := 35) W24.here hx (hb hby d_jdk_42_149_34) rfl rfl ?_
    refine g_iloadN (pc' := 36) W24.here hx (hb hby d_jdk_42_149_35) rfl rfl ?_
    refine w_callS (pc' := 39) (st := []) (y := (⟨"java/lang/StringUTF16", "compress", "([CII)[B"⟩ : MethodName)) W24 hx [(.ref ca), (.int (0 : Int32)), (.int cs.length.toInt32)] (hw _ (List.mem_of_getElem? w_65)) (hw _ (List.mem_of_getElem? w_66)) (hw _ (List.mem_of_getElem? w_67)) (hw _ (List.mem_of_getElem? w_68)) (by decide) (c_compress l Z a0 hw hE ca cs h0 W24.old hn hch VA) all0 (by rw [hml]; rfl) (lenOf pd_1 rfl) rfl (hb hby d_jdk_42_149_36) (Nat.le_of_ble_eq_true rfl) (Nat.le_of_ble_eq_true rfl) (Nat.le_of_ble_eq_true rfl) (Nat.le_of_ble_eq_true rfl) rfl fun v25 T25 h25 W25 K25 Q25 => ?_
    have z_K25 : h0.size ≤ h25.size := K25.1
    obtain ⟨ba26, rfl, gz26, V26⟩ := Q25
    have ne_ca_ba26 : ca ≠ ba26 := by omega
    have ne_o_ba26 : o ≠ ba26 := by omega
    have lt_ba26 : ba26 < h25.size := V26.lt
    refine g_astore (pc' := 41) (Ls' := #[.val (.ref o), .val (.ref ca), .val (.int (0 : Int32)), .val (.int cs.length.toInt32), .val .null, .val (.ref ba26)]) W25.here hx (hb hby d_jdk_42_149_39) rfl rfl rfl ?_
    refine g_aloadN (pc' := 42) W25.here hx (hb hby d_jdk_42_149_41) rfl rfl rfl ?_
    refine g_aload (pc' := 44) W25.here hx (hb hby d_jdk_42_149_42) rfl rfl rfl ?_
    refine g_iloadN (pc' := 45) W25.here hx (hb hby d_jdk_42_149_44) rfl rfl ?_
    refine w_callSp (pc' := 48) (st := [(.ref o)]) (y := (⟨"java/lang/StringUTF16", "coderFromArrayLen", "([BI)B"⟩ : MethodName)) W25 hx [(.ref ba26), (.int cs.length.toInt32)] (hw _ (List.mem_of_getElem? w_72)) (hw _ (List.mem_of_getElem? w_73)) (hw _ (List.mem_of_getElem? w_67)) (hw _ (List.mem_of_getElem? w_74)) (by decide) (c_coderFrom l Z a0 hw hE ba26 cs _ h25 W25.old V26 (by simp)) (by rw [hml]; rfl) (lenOf pd_2 rfl) rfl (hb hby d_jdk_42_149_45) (Nat.le_of_ble_eq_true rfl) (Nat.le_of_ble_eq_true rfl) rfl rfl (Nat.le_of_ble_eq_true rfl) (Nat.le_of_ble_eq_true rfl) rfl fun T27 W27 => ?_
    have c28 := (F1.keep K25 nin0)
    have c29 := (E0.keep K25)
    refine w_putN (pc' := 51) (v' := (.int (0 : Int32))) W27 hx (hw _ (List.mem_of_getElem? w_25)) Via.refl c28 c29 (Or.inr ⟨(hw _ (List.mem_of_getElem? w_21)), rfl, hnm⟩) (hw _ (List.mem_of_getElem? w_5)) (ty := .byte) (by decide) rfl rfl (List.mem_of_getElem? (i := 0) rfl) (hb hby d_jdk_42_149_48) rfl fun T30 h30 W30 K30 R30 F30 A30 => ?_
    have c31 := (F2.keep K25 nin0)
    have z_K30 : h25.size ≤ h30.size := K30.1
    have c32 := (c31.other R30 (Or.inr (slot_ne (Or.inr (hw _ (List.mem_of_getElem? w_20))) (Or.inr (hw _ (List.mem_of_getElem? w_21))) (by decide) (t := (.array .byte)) (t' := .byte) (by decide) (by decide))))
    refine g_aloadN (pc' := 52) W30.here hx (hb hby d_jdk_42_149_51) rfl rfl rfl ?_
    refine g_aload (pc' := 54) W30.here hx (hb hby d_jdk_42_149_52) rfl rfl rfl ?_
    refine w_put (pc' := 57) W30 hx (hw _ (List.mem_of_getElem? w_24)) Via.refl c32 A30 (Or.inr ⟨(hw _ (List.mem_of_getElem? w_20)), rfl, hnm⟩) (hw _ (List.mem_of_getElem? w_5)) (ty := (.array .byte)) (by decide) rfl rfl (List.mem_of_getElem? (i := 0) rfl) (hb hby d_jdk_42_149_54) rfl fun T33 h33 W33 K33 R33 F33 A33 => ?_
    have z_K33 : h30.size ≤ h33.size := K33.1
    have c34 := (F30.other R33 (Or.inr (slot_ne (Or.inr (hw _ (List.mem_of_getElem? w_21))) (Or.inr (hw _ (List.mem_of_getElem? w_20))) (by decide) (t := .byte) (t' := (.array .byte)) (by decide) (by decide))))
    have c35 := ((V26.keep K30 (ninS (Ne.symm ne_o_ba26) nin0)).keep K33 (ninS (Ne.symm ne_o_ba26) nin0))
    refine w_retV W33 hx hh hlk hret (hb hby d_jdk_42_149_57) (Nat.le_of_ble_eq_true rfl) (Nat.le_of_ble_eq_true rfl) ?_
    exact ⟨rfl, ba26, A33, c34, F33, c35, hch⟩
set_option maxRecDepth 65536 in
set_option maxHeartbeats 40000000 in
theorem c_strC (l : Launch) (Z : State) (a0 : Array Value) (hw : ∀ d ∈ tables_1, d.before a0 Z = true) (hE : EW Z a0 consts_1) (cc : Int32) (fm : Value) (o ca : Nat) (cs : List Int32) (h0 : Heap) (O : Ext Z.heap h0) (G : SEnv Z cc fm) (hn : cs.length ≤ 3) (hch : ∀ c ∈ cs, 0 ≤ c.toInt ∧ c.toInt ≤ 255) (VA : Ary Z h0 ca .char (cs.map Value.int)) (hz : Z.heap.size ≤ o) (E0 : Exa Z h0 o "java/lang/String") (u1 u2 : Value) (F1 : Fld Z h0 o "java/lang/String" "coder" "B" u1) (F2 : Fld Z h0 o "java/lang/String" "value" "[B" u2) (hoc : o ≠ ca)  :
    Con l Z consts_1 (⟨"java/lang/String", "<init>", "([C)V"⟩ : MethodName) jdk_42_method_3_code 2 (Option.none : Option Jvm.ClassFile.FieldType) ({ frames := 3, cells := 4, slots := 8, locals := 52 } : Room) #[(.ref o), (.ref ca)] h0 [o] (fun v h => v = none ∧ ∃ b : Nat, SL Z h o b cs) := by
  refine Con.of (a0 := a0) #[.val (.ref o), .val (.ref ca)] (plainFor_of_name pn_1) hE O (allS ⟨hz, E0.lt⟩ all0) (fun m => by first | (simp [entryFrame, mkF, argsToLocals, Value.category]; done) | rfl) ?_
  intro p e s m below meth c T0 hx hby hml hnm hret hlk hh W0
  have hn31 : cs.length < 2 ^ 31 := by omega
  have lt_ca : ca < h0.size := VA.lt
  have lt_o : o < h0.size := E0.lt
  refine g_aloadN (pc' := 1) W0.here hx (hb hby d_jdk_42_3_0) rfl rfl rfl ?_
  refine g_aloadN (pc' := 2) W0.here hx (hb hby d_jdk_42_3_1) rfl rfl rfl ?_
  refine g_iconst (0 : Int32) (pc' := 3) W0.here hx (hb hby d_jdk_42_3_2) rfl rfl ?_
  refine g_aloadN (pc' := 4) W0.here hx (hb hby d_jdk_42_3_3) rfl rfl rfl ?_
  refine w_len (pc' := 5) W0 hx VA (hb hby d_jdk_42_3_4) rfl ?_
  refine g_name (w := .int cs.length.toInt32) (congrArg Value.int (by rw [List.length_map])) ?_
  refine g_aconstNull (pc' := 6) W0.here hx (hb hby d_jdk_42_3_5) rfl ?_
  refine w_special (pc' := 9) (st := []) (y := (⟨"java/lang/String", "<init>", "([CIILjava/lang/Void;)V"⟩ : MethodName)) (a := o) W0 hx [(.ref ca), (.int (0 : Int32)), (.int cs.length.toInt32), .null] rfl (hw _ (List.mem_of_getElem? w_11)) (hw _ (List.mem_of_getElem? w_12)) (hw _ (List.mem_of_getElem? w_6)) (hw _ (List.mem_of_getElem? w_14)) (by decide) (c_str4 l Z a0 hw hE cc fm o ca cs h0 W0.old G hn hch VA (by have := O.1; omega) E0 _ _ F1 F2 hoc) (allS (List.mem_of_getElem? (i := 0) rfl) all0) (by rw [hml]; rfl) (lenOf pd_3 rfl) rfl (hb hby d_jdk_42_3_6) (Nat.le_of_ble_eq_true rfl) (Nat.le_of_ble_eq_true rfl) (Nat.le_of_ble_eq_true rfl) (Nat.le_of_ble_eq_true rfl) rfl fun v36 T36 h36 W36 K36 Q36 => ?_
  have z_K36 : h0.size ≤ h36.size := K36.1
  obtain ⟨rfl, sb37, S37⟩ := Q36
  have ES37 := S37.1
  have lt_sb37 : sb37 < h36.size := S37.ltb
  refine w_retV W36 hx hh hlk hret (hb hby d_jdk_42_3_9) (Nat.le_of_ble_eq_true rfl) (Nat.le_of_ble_eq_true rfl) ?_
  exact ⟨rfl, _, S37⟩
theorem own_byte (x : Int32) : 0 ≤ ((x &&& (255 : Int32)).toUInt32.toUInt16.toUInt32.toInt32).toInt ∧ ((x &&& (255 : Int32)).toUInt32.toUInt16.toUInt32.toInt32).toInt ≤ 255 := by
  rw [i2c_mask, c_mask x 255 8 (by decide) (by decide)]
  omega
theorem own_c16 {c : Int32} (h : 0 ≤ c.toInt ∧ c.toInt ≤ 255) : 0 ≤ c.toInt ∧ c.toInt < 65536 := by omega
set_option maxRecDepth 65536 in
set_option maxHeartbeats 40000000 in
theorem c_draw (l : Launch) (Z : State) (a0 : Array Value) (hw : ∀ d ∈ tables_1, d.before a0 Z = true) (hE : EW Z a0 consts_1) (cc : Int32) (fm : Value) (n x y z : Int32) (h0 : Heap) (O : Ext Z.heap h0) (G : SEnv Z cc fm)  :
    Con l Z consts_1 (⟨"com/example/usher/usher/model/PrincipalGroupPinLaw", "draw", "(IIII)Ljava/lang/String;"⟩ : MethodName) method_2_code 8 (Option.some (Jvm.ClassFile.FieldType.object "java/lang/String")) ({ frames := 4, cells := 6, slots := 15, locals := 66 } : Room) #[(.int n), (.int x), (.int y), (.int z)] h0 [] (fun v h => ∃ a : Nat, v = some (.ref a) ∧ Exa Z h a "java/lang/String") := by
  refine Con.of (a0 := a0) #[.val (.int n), .val (.int x), .val (.int y), .val (.int z), .unset, .unset, .unset, .unset] (plainFor_of_name pn_2) hE O all0 (fun m => by first | (simp [entryFrame, mkF, argsToLocals, Value.category]; done) | rfl) ?_
  intro p e s m below meth c T0 hx hby hml hnm hret hlk hh W0
  refine g_iloadN (pc' := 1) W0.here hx (hb hby d_method_2_0) rfl rfl ?_
  refine g_iconst (3 : Int32) (pc' := 2) W0.here hx (hb hby d_method_2_1) rfl rfl ?_
  refine g_iand (pc' := 3) W0.here hx (hb hby d_method_2_2) rfl ?_
  refine g_istore (pc' := 5) (Ls' := #[.val (.int n), .val (.int x), .val (.int y), .val (.int z), .val (.int (n &&& (3 : Int32))), .unset, .unset, .unset]) W0.here hx (hb hby d_method_2_3) rfl rfl ?_
  refine g_iloadN (pc' := 6) W0.here hx (hb hby d_method_2_5) rfl rfl ?_
  refine g_sipush (255 : Int32) (pc' := 9) W0.here hx (hb hby d_method_2_6) rfl rfl ?_
  refine g_iand (pc' := 10) W0.here hx (hb hby d_method_2_9) rfl ?_
  refine g_i2c (pc' := 11) W0.here hx (hb hby d_method_2_10) rfl ?_
  obtain ⟨k0, hk0⟩ : ∃ zz_ : Int32, zz_ = ((x &&& (255 : Int32)).toUInt32.toUInt16.toUInt32.toInt32) := ⟨_, rfl⟩
  refine g_name (congrArg Value.int hk0) ?_
  have hl0 : 0 ≤ k0.toInt ∧ k0.toInt ≤ 255 := by rw [hk0]; exact own_byte _
  refine g_istore (pc' := 13) (Ls' := #[.val (.int n), .val (.int x), .val (.int y), .val (.int z), .val (.int (n &&& (3 : Int32))), .val (.int k0), .unset, .unset]) W0.here hx (hb hby d_method_2_11) rfl rfl ?_
  refine g_iloadN (pc' := 14) W0.here hx (hb hby d_method_2_13) rfl rfl ?_
  refine g_sipush (255 : Int32) (pc' := 17) W0.here hx (hb hby d_method_2_14) rfl rfl ?_
  refine g_iand (pc' := 18) W0.here hx (hb hby d_method_2_17) rfl ?_
  refine g_i2c (pc' := 19) W0.here hx (hb hby d_method_2_18) rfl ?_
  obtain ⟨k1, hk1⟩ : ∃ zz_ : Int32, zz_ = ((y &&& (255 : Int32)).toUInt32.toUInt16.toUInt32.toInt32) := ⟨_, rfl⟩
  refine g_name (congrArg Value.int hk1) ?_
  have hl1 : 0 ≤ k1.toInt ∧ k1.toInt ≤ 255 := by rw [hk1]; exact own_byte _
  refine g_istore (pc' := 21) (Ls' := #[.val (.int n), .val (.int x), .val (.int y), .val (.int z), .val (.int (n &&& (3 : Int32))), .val (.int k0), .val (.int k1), .unset]) W0.here hx (hb hby d_method_2_19) rfl rfl ?_
  refine g_iloadN (pc' := 22) W0.here hx (hb hby d_method_2_21) rfl rfl ?_
  refine g_sipush (255 : Int32) (pc' := 25) W0.here hx (hb hby d_method_2_22) rfl rfl ?_
  refine g_iand (pc' := 26) W0.here hx (hb hby d_method_2_25) rfl ?_
  refine g_i2c (pc' := 27) W0.here hx (hb hby d_method_2_26) rfl ?_
  obtain ⟨k2, hk2⟩ : ∃ zz_ : Int32, zz_ = ((z &&& (255 : Int32)).toUInt32.toUInt16.toUInt32.toInt32) := ⟨_, rfl⟩
  refine g_name (congrArg Value.int hk2) ?_
  have hl2 : 0 ≤ k2.toInt ∧ k2.toInt ≤ 255 := by rw [hk2]; exact own_byte _
  refine g_istore (pc' := 29) (Ls' := #[.val (.int n), .val (.int x), .val (.int y), .val (.int z), .val (.int (n &&& (3 : Int32))), .val (.int k0), .val (.int k1), .val (.int k2)]) W0.here hx (hb hby d_method_2_27) rfl rfl ?_
  refine g_iload (pc' := 31) W0.here hx (hb hby d_method_2_29) rfl rfl ?_
  by_cases hc31_38 : (n &&& (3 : Int32)) = (0 : Int32)
  · refine g_ifN (pc' := 34) W0.here hx (hb hby d_method_2_31) rfl (teq hc31_38).2 ?_
    refine w_new (pc' := 37) W0 hx (hw _ (List.mem_of_getElem? w_4)) (hw _ (List.mem_of_getElem? w_5)) (hw _ (List.mem_of_getElem? w_6)) (hb hby d_method_2_34) (Nat.le_of_ble_eq_true rfl) (Nat.le_of_ble_eq_true rfl) rfl fun T39 h39 b39 g39 W39 K39 A39 D39 => ?_
    have z_K39 : h0.size ≤ h39.size := K39.1
    have lt_b39 : b39 < h39.size := W39.lt (List.mem_cons_self ..)
    have F39_value : Fld Z h39 b39 "java/lang/String" "value" "[B" .null := D39 (Or.inr (hw _ (List.mem_of_getElem? w_20))) (ty := (.array .byte)) (by decide)
    have F39_coder : Fld Z h39 b39 "java/lang/String" "coder" "B" (.int (0 : Int32)) := D39 (Or.inr (hw _ (List.mem_of_getElem? w_21))) (ty := .byte) (by decide)
    refine g_dup (pc' := 38) W39.here hx (hb hby d_method_2_37) rfl rfl ?_
    refine g_iconst (0 : Int32) (pc' := 39) W39.here hx (hb hby d_method_2_38) rfl rfl ?_
    refine w_newarr (pc' := 41) (cap := 0) W39 hx (hw _ (List.mem_of_getElem? w_7)) (hb hby d_method_2_39) (by decide) (Nat.le_refl _) (Nat.le_of_ble_eq_true rfl) (Nat.le_of_ble_eq_true rfl) (Nat.le_of_ble_eq_true rfl) rfl rfl fun T40 h40 b40 g40 W40 K40 V40 => ?_
    have z_K40 : h39.size ≤ h40.size := K40.1
    have ne_b39_b40 : b39 ≠ b40 := by omega
    have lt_b40 : b40 < h40.size := W40.lt (List.mem_cons_self ..)
    have V40 : Ary Z h40 b40 .char [] := V40
    have c41 := (A39.keep K40)
    have c42 := (F39_coder.keep K40 nin0)
    have c43 := (F39_value.keep K40 nin0)
    refine w_special (pc' := 44) (st := [(.ref b39)]) (y := (⟨"java/lang/String", "<init>", "([C)V"⟩ : MethodName)) (a := b39) W40 hx [(.ref b40)] rfl (hw _ (List.mem_of_getElem? w_8)) (hw _ (List.mem_of_getElem? w_9)) (hw _ (List.mem_of_getElem? w_6)) (hw _ (List.mem_of_getElem? w_10)) (by decide) (c_strC l Z a0 hw hE cc fm b39 b40 [] h40 W40.old G (Nat.le_of_ble_eq_true rfl) own_all0 V40 (by have := O.1; omega) c41 _ _ c42 c43 ne_b39_b40) (allS (List.mem_of_getElem? (i := 1) rfl) all0) (by rw [hml]; rfl) (lenOf pd_4 rfl) rfl (hb hby d_method_2_41) (Nat.le_of_ble_eq_true rfl) (Nat.le_of_ble_eq_true rfl) (Nat.le_of_ble_eq_true rfl) (Nat.le_of_ble_eq_true rfl) rfl fun v44 T44 h44 W44 K44 Q44 => ?_
    have z_K44 : h40.size ≤ h44.size := K44.1
    obtain ⟨rfl, sb45, S45⟩ := Q44
    have ES45 := S45.1
    have lt_sb45 : sb45 < h44.size := S45.ltb
    refine w_retA W44 hx hh hlk hret rfl rfl (hb hby d_method_2_44) (Nat.le_of_ble_eq_true rfl) (Nat.le_of_ble_eq_true rfl) ?_
    exact ⟨_, rfl, ES45⟩
  · refine g_ifY (pc' := 45) W0.here hx (hb hby d_method_2_31) rfl (feq hc31_38).2 ?_
    refine g_iload (pc' := 47) W0.here hx (hb hby d_method_2_45) rfl rfl ?_
    refine g_iconst (1 : Int32) (pc' := 48) W0.here hx (hb hby d_method_2_47) rfl rfl ?_
    by_cases hc48_46 : (n &&& (3 : Int32)) = (1 : Int32)
    · refine g_icmpN (pc' := 51) W0.here hx (hb hby d_method_2_48) rfl (teq hc48_46).2 ?_
      refine w_new (pc' := 54) W0 hx (hw _ (List.mem_of_getElem? w_4)) (hw _ (List.mem_of_getElem? w_5)) (hw _ (List.mem_of_getElem? w_6)) (hb hby d_method_2_51) (Nat.le_of_ble_eq_true rfl) (Nat.le_of_ble_eq_true rfl) rfl fun T47 h47 b47 g47 W47 K47 A47 D47 => ?_
      have z_K47 : h0.size ≤ h47.size := K47.1
      have lt_b47 : b47 < h47.size := W47.lt (List.mem_cons_self ..)
      have F47_value : Fld Z h47 b47 "java/lang/String" "value" "[B" .null := D47 (Or.inr (hw _ (List.mem_of_getElem? w_20))) (ty := (.array .byte)) (by decide)
      have F47_coder : Fld Z h47 b47 "java/lang/String" "coder" "B" (.int (0 : Int32)) := D47 (Or.inr (hw _ (List.mem_of_getElem? w_21))) (ty := .byte) (by decide)
      refine g_dup (pc' := 55) W47.here hx (hb hby d_method_2_54) rfl rfl ?_
      refine g_iconst (1 : Int32) (pc' := 56) W47.here hx (hb hby d_method_2_55) rfl rfl ?_
      refine w_newarr (pc' := 58) (cap := 1) W47 hx (hw _ (List.mem_of_getElem? w_7)) (hb hby d_method_2_56) (by decide) (Nat.le_refl _) (Nat.le_of_ble_eq_true rfl) (Nat.le_of_ble_eq_true rfl) (Nat.le_of_ble_eq_true rfl) rfl rfl fun T48 h48 b48 g48 W48 K48 V48 => ?_
      have z_K48 : h47.size ≤ h48.size := K48.1
      have ne_b47_b48 : b47 ≠ b48 := by omega
      have lt_b48 : b48 < h48.size := W48.lt (List.mem_cons_self ..)
      have V48 : Ary Z h48 b48 .char [(.int (0 : Int32))] := V48
      refine g_dup (pc' := 59) W48.here hx (hb hby d_method_2_58) rfl rfl ?_
      refine g_iconst (0 : Int32) (pc' := 60) W48.here hx (hb hby d_method_2_59) rfl rfl ?_
      refine g_iload (pc' := 62) W48.here hx (hb hby d_method_2_60) rfl rfl ?_
      refine w_castore (pc' := 63) (x' := k0) W48 hx V48 (by decide) (Nat.lt_of_lt_of_le (Nat.lt_succ_self _) (Nat.le_of_ble_eq_true rfl)) (List.mem_of_getElem? (i := 0) rfl) (own_nchar (own_c16 hl0)) (hb hby d_method_2_62) rfl fun T49 h49 W49 K49 V49 => ?_
      have z_K49 : h48.size ≤ h49.size := K49.1
      have V49 : Ary Z h49 b48 .char [(.int k0)] := V49
      have c50 := ((A47.keep K48).keep K49)
      have c51 := ((F47_coder.keep K48 nin0).keep K49 (ninS ne_b47_b48 nin0))
      have c52 := ((F47_value.keep K48 nin0).keep K49 (ninS ne_b47_b48 nin0))
      refine w_special (pc' := 66) (st := [(.ref b47)]) (y := (⟨"java/lang/String", "<init>", "([C)V"⟩ : MethodName)) (a := b47) W49 hx [(.ref b48)] rfl (hw _ (List.mem_of_getElem? w_8)) (hw _ (List.mem_of_getElem? w_9)) (hw _ (List.mem_of_getElem? w_6)) (hw _ (List.mem_of_getElem? w_10)) (by decide) (c_strC l Z a0 hw hE cc fm b47 b48 [k0] h49 W49.old G (Nat.le_of_ble_eq_true rfl) (own_allS hl0 own_all0) V49 (by have := O.1; omega) c50 _ _ c51 c52 ne_b47_b48) (allS (List.mem_of_getElem? (i := 1) rfl) all0) (by rw [hml]; rfl) (lenOf pd_4 rfl) rfl (hb hby d_method_2_63) (Nat.le_of_ble_eq_true rfl) (Nat.le_of_ble_eq_true rfl) (Nat.le_of_ble_eq_true rfl) (Nat.le_of_ble_eq_true rfl) rfl fun v53 T53 h53 W53 K53 Q53 => ?_
      have z_K53 : h49.size ≤ h53.size := K53.1
      obtain ⟨rfl, sb54, S54⟩ := Q53
      have ES54 := S54.1
      have lt_sb54 : sb54 < h53.size := S54.ltb
      refine w_retA W53 hx hh hlk hret rfl rfl (hb hby d_method_2_66) (Nat.le_of_ble_eq_true rfl) (Nat.le_of_ble_eq_true rfl) ?_
      exact ⟨_, rfl, ES54⟩
    · refine g_icmpY (pc' := 67) W0.here hx (hb hby d_method_2_48) rfl (feq hc48_46).2 ?_
      refine g_iload (pc' := 69) W0.here hx (hb hby d_method_2_67) rfl rfl ?_
      refine g_iconst (2 : Int32) (pc' := 70) W0.here hx (hb hby d_method_2_69) rfl rfl ?_
      by_cases hc70_55 : (n &&& (3 : Int32)) = (2 : Int32)
      · refine g_icmpN (pc' := 73) W0.here hx (hb hby d_method_2_70) rfl (teq hc70_55).2 ?_
        refine w_new (pc' := 76) W0 hx (hw _ (List.mem_of_getElem? w_4)) (hw _ (List.mem_of_getElem? w_5)) (hw _ (List.mem_of_getElem? w_6)) (hb hby d_method_2_73) (Nat.le_of_ble_eq_true rfl) (Nat.le_of_ble_eq_true rfl) rfl fun T56 h56 b56 g56 W56 K56 A56 D56 => ?_
        have z_K56 : h0.size ≤ h56.size := K56.1
        have lt_b56 : b56 < h56.size := W56.lt (List.mem_cons_self ..)
        have F56_value : Fld Z h56 b56 "java/lang/String" "value" "[B" .null := D56 (Or.inr (hw _ (List.mem_of_getElem? w_20))) (ty := (.array .byte)) (by decide)
        have F56_coder : Fld Z h56 b56 "java/lang/String" "coder" "B" (.int (0 : Int32)) := D56 (Or.inr (hw _ (List.mem_of_getElem? w_21))) (ty := .byte) (by decide)
        refine g_dup (pc' := 77) W56.here hx (hb hby d_method_2_76) rfl rfl ?_
        refine g_iconst (2 : Int32) (pc' := 78) W56.here hx (hb hby d_method_2_77) rfl rfl ?_
        refine w_newarr (pc' := 80) (cap := 2) W56 hx (hw _ (List.mem_of_getElem? w_7)) (hb hby d_method_2_78) (by decide) (Nat.le_refl _) (Nat.le_of_ble_eq_true rfl) (Nat.le_of_ble_eq_true rfl) (Nat.le_of_ble_eq_true rfl) rfl rfl fun T57 h57 b57 g57 W57 K57 V57 => ?_
        have z_K57 : h56.size ≤ h57.size := K57.1
        have ne_b56_b57 : b56 ≠ b57 := by omega
        have lt_b57 : b57 < h57.size := W57.lt (List.mem_cons_self ..)
        have V57 : Ary Z h57 b57 .char [(.int (0 : Int32)), (.int (0 : Int32))] := V57
        refine g_dup (pc' := 81) W57.here hx (hb hby d_method_2_80) rfl rfl ?_
        refine g_iconst (0 : Int32) (pc' := 82) W57.here hx (hb hby d_method_2_81) rfl rfl ?_
        refine g_iload (pc' := 84) W57.here hx (hb hby d_method_2_82) rfl rfl ?_
        refine w_castore (pc' := 85) (x' := k0) W57 hx V57 (by decide) (Nat.lt_of_lt_of_le (Nat.lt_succ_self _) (Nat.le_of_ble_eq_true rfl)) (List.mem_of_getElem? (i := 0) rfl) (own_nchar (own_c16 hl0)) (hb hby d_method_2_84) rfl fun T58 h58 W58 K58 V58 => ?_
        have z_K58 : h57.size ≤ h58.size := K58.1
        have V58 : Ary Z h58 b57 .char [(.int k0), (.int (0 : Int32))] := V58
        refine g_dup (pc' := 86) W58.here hx (hb hby d_method_2_85) rfl rfl ?_
        refine g_iconst (1 : Int32) (pc' := 87) W58.here hx (hb hby d_method_2_86) rfl rfl ?_
        refine g_iload (pc' := 89) W58.here hx (hb hby d_method_2_87) rfl rfl ?_
        refine w_castore (pc' := 90) (x' := k1) W58 hx V58 (by decide) (Nat.lt_of_lt_of_le (Nat.lt_succ_self _) (Nat.le_of_ble_eq_true rfl)) (List.mem_of_getElem? (i := 0) rfl) (own_nchar (own_c16 hl1)) (hb hby d_method_2_89) rfl fun T59 h59 W59 K59 V59 => ?_
        have z_K59 : h58.size ≤ h59.size := K59.1
        have V59 : Ary Z h59 b57 .char [(.int k0), (.int k1)] := V59
        have c60 := (((A56.keep K57).keep K58).keep K59)
        have c61 := (((F56_coder.keep K57 nin0).keep K58 (ninS ne_b56_b57 nin0)).keep K59 (ninS ne_b56_b57 nin0))
        have c62 := (((F56_value.keep K57 nin0).keep K58 (ninS ne_b56_b57 nin0)).keep K59 (ninS ne_b56_b57 nin0))
        refine w_special (pc' := 93) (st := [(.ref b56)]) (y := (⟨"java/lang/String", "<init>", "([C)V"⟩ : MethodName)) (a := b56) W59 hx [(.ref b57)] rfl (hw _ (List.mem_of_getElem? w_8)) (hw _ (List.mem_of_getElem? w_9)) (hw _ (List.mem_of_getElem? w_6)) (hw _ (List.mem_of_getElem? w_10)) (by decide) (c_strC l Z a0 hw hE cc fm b56 b57 [k0, k1] h59 W59.old G (Nat.le_of_ble_eq_true rfl) (own_allS hl0 (own_allS hl1 own_all0)) V59 (by have := O.1; omega) c60 _ _ c61 c62 ne_b56_b57) (allS (List.mem_of_getElem? (i := 1) rfl) all0) (by rw [hml]; rfl) (lenOf pd_4 rfl) rfl (hb hby d_method_2_90) (Nat.le_of_ble_eq_true rfl) (Nat.le_of_ble_eq_true rfl) (Nat.le_of_ble_eq_true rfl) (Nat.le_of_ble_eq_true rfl) rfl fun v63 T63 h63 W63 K63 Q63 => ?_
        have z_K63 : h59.size ≤ h63.size := K63.1
        obtain ⟨rfl, sb64, S64⟩ := Q63
        have ES64 := S64.1
        have lt_sb64 : sb64 < h63.size := S64.ltb
        refine w_retA W63 hx hh hlk hret rfl rfl (hb hby d_method_2_93) (Nat.le_of_ble_eq_true rfl) (Nat.le_of_ble_eq_true rfl) ?_
        exact ⟨_, rfl, ES64⟩
      · refine g_icmpY (pc' := 94) W0.here hx (hb hby d_method_2_70) rfl (feq hc70_55).2 ?_
        refine w_new (pc' := 97) W0 hx (hw _ (List.mem_of_getElem? w_4)) (hw _ (List.mem_of_getElem? w_5)) (hw _ (List.mem_of_getElem? w_6)) (hb hby d_method_2_94) (Nat.le_of_ble_eq_true rfl) (Nat.le_of_ble_eq_true rfl) rfl fun T65 h65 b65 g65 W65 K65 A65 D65 => ?_
        have z_K65 : h0.size ≤ h65.size := K65.1
        have lt_b65 : b65 < h65.size := W65.lt (List.mem_cons_self ..)
        have F65_value : Fld Z h65 b65 "java/lang/String" "value" "[B" .null := D65 (Or.inr (hw _ (List.mem_of_getElem? w_20))) (ty := (.array .byte)) (by decide)
        have F65_coder : Fld Z h65 b65 "java/lang/String" "coder" "B" (.int (0 : Int32)) := D65 (Or.inr (hw _ (List.mem_of_getElem? w_21))) (ty := .byte) (by decide)
        refine g_dup (pc' := 98) W65.here hx (hb hby d_method_2_97) rfl rfl ?_
        refine g_iconst (3 : Int32) (pc' := 99) W65.here hx (hb hby d_method_2_98) rfl rfl ?_
        refine w_newarr (pc' := 101) (cap := 3) W65 hx (hw _ (List.mem_of_getElem? w_7)) (hb hby d_method_2_99) (by decide) (Nat.le_refl _) (Nat.le_of_ble_eq_true rfl) (Nat.le_of_ble_eq_true rfl) (Nat.le_of_ble_eq_true rfl) rfl rfl fun T66 h66 b66 g66 W66 K66 V66 => ?_
        have z_K66 : h65.size ≤ h66.size := K66.1
        have ne_b65_b66 : b65 ≠ b66 := by omega
        have lt_b66 : b66 < h66.size := W66.lt (List.mem_cons_self ..)
        have V66 : Ary Z h66 b66 .char [(.int (0 : Int32)), (.int (0 : Int32)), (.int (0 : Int32))] := V66
        refine g_dup (pc' := 102) W66.here hx (hb hby d_method_2_101) rfl rfl ?_
        refine g_iconst (0 : Int32) (pc' := 103) W66.here hx (hb hby d_method_2_102) rfl rfl ?_
        refine g_iload (pc' := 105) W66.here hx (hb hby d_method_2_103) rfl rfl ?_
        refine w_castore (pc' := 106) (x' := k0) W66 hx V66 (by decide) (Nat.lt_of_lt_of_le (Nat.lt_succ_self _) (Nat.le_of_ble_eq_true rfl)) (List.mem_of_getElem? (i := 0) rfl) (own_nchar (own_c16 hl0)) (hb hby d_method_2_105) rfl fun T67 h67 W67 K67 V67 => ?_
        have z_K67 : h66.size ≤ h67.size := K67.1
        have V67 : Ary Z h67 b66 .char [(.int k0), (.int (0 : Int32)), (.int (0 : Int32))] := V67
        refine g_dup (pc' := 107) W67.here hx (hb hby d_method_2_106) rfl rfl ?_
        refine g_iconst (1 : Int32) (pc' := 108) W67.here hx (hb hby d_method_2_107) rfl rfl ?_
        refine g_iload (pc' := 110) W67.here hx (hb hby d_method_2_108) rfl rfl ?_
        refine w_castore (pc' := 111) (x' := k1) W67 hx V67 (by decide) (Nat.lt_of_lt_of_le (Nat.lt_succ_self _) (Nat.le_of_ble_eq_true rfl)) (List.mem_of_getElem? (i := 0) rfl) (own_nchar (own_c16 hl1)) (hb hby d_method_2_110) rfl fun T68 h68 W68 K68 V68 => ?_
        have z_K68 : h67.size ≤ h68.size := K68.1
        have V68 : Ary Z h68 b66 .char [(.int k0), (.int k1), (.int (0 : Int32))] := V68
        refine g_dup (pc' := 112) W68.here hx (hb hby d_method_2_111) rfl rfl ?_
        refine g_iconst (2 : Int32) (pc' := 113) W68.here hx (hb hby d_method_2_112) rfl rfl ?_
        refine g_iload (pc' := 115) W68.here hx (hb hby d_method_2_113) rfl rfl ?_
        refine w_castore (pc' := 116) (x' := k2) W68 hx V68 (by decide) (Nat.lt_of_lt_of_le (Nat.lt_succ_self _) (Nat.le_of_ble_eq_true rfl)) (List.mem_of_getElem? (i := 0) rfl) (own_nchar (own_c16 hl2)) (hb hby d_method_2_115) rfl fun T69 h69 W69 K69 V69 => ?_
        have z_K69 : h68.size ≤ h69.size := K69.1
        have V69 : Ary Z h69 b66 .char [(.int k0), (.int k1), (.int k2)] := V69
        have c70 := ((((A65.keep K66).keep K67).keep K68).keep K69)
        have c71 := ((((F65_coder.keep K66 nin0).keep K67 (ninS ne_b65_b66 nin0)).keep K68 (ninS ne_b65_b66 nin0)).keep K69 (ninS ne_b65_b66 nin0))
        have c72 := ((((F65_value.keep K66 nin0).keep K67 (ninS ne_b65_b66 nin0)).keep K68 (ninS ne_b65_b66 nin0)).keep K69 (ninS ne_b65_b66 nin0))
        refine w_special (pc' := 119) (st := [(.ref b65)]) (y := (⟨"java/lang/String", "<init>", "([C)V"⟩ : MethodName)) (a := b65) W69 hx [(.ref b66)] rfl (hw _ (List.mem_of_getElem? w_8)) (hw _ (List.mem_of_getElem? w_9)) (hw _ (List.mem_of_getElem? w_6)) (hw _ (List.mem_of_getElem? w_10)) (by decide) (c_strC l Z a0 hw hE cc fm b65 b66 [k0, k1, k2] h69 W69.old G (Nat.le_of_ble_eq_true rfl) (own_allS hl0 (own_allS hl1 (own_allS hl2 own_all0))) V69 (by have := O.1; omega) c70 _ _ c71 c72 ne_b65_b66) (allS (List.mem_of_getElem? (i := 1) rfl) all0) (by rw [hml]; rfl) (lenOf pd_4 rfl) rfl (hb hby d_method_2_116) (Nat.le_of_ble_eq_true rfl) (Nat.le_of_ble_eq_true rfl) (Nat.le_of_ble_eq_true rfl) (Nat.le_of_ble_eq_true rfl) rfl fun v73 T73 h73 W73 K73 Q73 => ?_
        have z_K73 : h69.size ≤ h73.size := K73.1
        obtain ⟨rfl, sb74, S74⟩ := Q73
        have ES74 := S74.1
        have lt_sb74 : sb74 < h73.size := S74.ltb
        refine w_retA W73 hx hh hlk hret rfl rfl (hb hby d_method_2_119) (Nat.le_of_ble_eq_true rfl) (Nat.le_of_ble_eq_true rfl) ?_
        exact ⟨_, rfl, ES74⟩
set_option maxRecDepth 65536 in
set_option maxHeartbeats 40000000 in
theorem c_pinit (l : Launch) (Z : State) (a0 : Array Value) (hw : ∀ d ∈ tables_1, d.before a0 Z = true) (hE : EW Z a0 consts_1) (o : Nat) (u0 : Value) (u1 : Value) (h0 : Heap) (O : Ext Z.heap h0) (hz : Z.heap.size ≤ o) (E0 : Exa Z h0 o "com/example/usher/usher/model/Principal") (hu0 : u0.isRef = true) (hu1 : u1.isRef = true) (x0 : Value) (F0 : Fld Z h0 o "com/example/usher/usher/model/Principal" "kind" "Lcom/example/usher/usher/model/Principal$Kind;" x0) (x1 : Value) (F1 : Fld Z h0 o "com/example/usher/usher/model/Principal" "name" "Ljava/lang/String;" x1)  :
    Con l Z consts_1 (⟨"com/example/usher/usher/model/Principal", "<init>", "(Lcom/example/usher/usher/model/Principal$Kind;Ljava/lang/String;)V"⟩ : MethodName) prog_3_method_1_code 3 (Option.none : Option Jvm.ClassFile.FieldType) ({ frames := 1, cells := 0, slots := 0, locals := 12 } : Room) #[(.ref o), u0, u1] h0 [o] (fun v h => v = none ∧ Exa Z h o "com/example/usher/usher/model/Principal" ∧ Fld Z h o "com/example/usher/usher/model/Principal" "kind" "Lcom/example/usher/usher/model/Principal$Kind;" u0 ∧ Fld Z h o "com/example/usher/usher/model/Principal" "name" "Ljava/lang/String;" u1) := by
  refine Con.of (a0 := a0) #[.val (.ref o), .val u0, .val u1] (plainFor_of_name pn_3) hE O (allS ⟨hz, E0.lt⟩ all0) (fun m => by rcases ref_cases hu0 with rfl | ⟨_, rfl⟩ <;> rcases ref_cases hu1 with rfl | ⟨_, rfl⟩ <;> rfl) ?_
  intro p e s m below meth c T0 hx hby hml hnm hret hlk hh W0
  refine g_aloadN (pc' := 1) W0.here hx (hb hby d_prog_3_1_0) rfl rfl rfl ?_
  refine w_initO (pc' := 4) W0 hx (hw _ (List.mem_of_getElem? w_38)) (hw _ (List.mem_of_getElem? w_16)) (hw _ (List.mem_of_getElem? w_17)) (by rw [hml]; rfl) (hb hby d_prog_3_1_1) (Nat.le_of_ble_eq_true rfl) (Nat.le_of_ble_eq_true rfl) rfl fun T75 W75 => ?_
  refine g_aloadN (pc' := 5) W75.here hx (hb hby d_prog_3_1_4) rfl rfl rfl ?_
  refine g_aloadN (pc' := 6) W75.here hx (hb hby d_prog_3_1_5) rfl hu0 rfl ?_
  refine w_put (pc' := 9) W75 hx (hw _ (List.mem_of_getElem? w_39)) Via.refl F0 E0 (Or.inr ⟨(hw _ (List.mem_of_getElem? w_40)), rfl, hnm⟩) (hw _ (List.mem_of_getElem? w_31)) (ty := (.object "com/example/usher/usher/model/Principal$Kind")) (by decide) (own_narO hu0) (own_fitsO hu0) (List.mem_of_getElem? (i := 0) rfl) (hb hby d_prog_3_1_6) rfl fun T76 h76 W76 K76 R76 F76 A76 => ?_
  have z_K76 : h0.size ≤ h76.size := K76.1
  have c77 := (F1.other R76 (Or.inr (slot_ne (Or.inr (hw _ (List.mem_of_getElem? w_42))) (Or.inr (hw _ (List.mem_of_getElem? w_40))) (by decide) (t := (.object "java/lang/String")) (t' := (.object "com/example/usher/usher/model/Principal$Kind")) (by decide) (by decide))))
  refine g_aloadN (pc' := 10) W76.here hx (hb hby d_prog_3_1_9) rfl rfl rfl ?_
  refine g_aloadN (pc' := 11) W76.here hx (hb hby d_prog_3_1_10) rfl hu1 rfl ?_
  refine w_put (pc' := 14) W76 hx (hw _ (List.mem_of_getElem? w_41)) Via.refl c77 A76 (Or.inr ⟨(hw _ (List.mem_of_getElem? w_42)), rfl, hnm⟩) (hw _ (List.mem_of_getElem? w_31)) (ty := (.object "java/lang/String")) (by decide) (own_narO hu1) (own_fitsO hu1) (List.mem_of_getElem? (i := 0) rfl) (hb hby d_prog_3_1_11) rfl fun T78 h78 W78 K78 R78 F78 A78 => ?_
  have z_K78 : h76.size ≤ h78.size := K78.1
  have c79 := (F76.other R78 (Or.inr (slot_ne (Or.inr (hw _ (List.mem_of_getElem? w_40))) (Or.inr (hw _ (List.mem_of_getElem? w_42))) (by decide) (t := (.object "com/example/usher/usher/model/Principal$Kind")) (t' := (.object "java/lang/String")) (by decide) (by decide))))
  refine w_retV W78 hx hh hlk hret (hb hby d_prog_3_1_14) (Nat.le_of_ble_eq_true rfl) (Nat.le_of_ble_eq_true rfl) ?_
  exact ⟨rfl, A78, c79, F78⟩
set_option maxRecDepth 65536 in
set_option maxHeartbeats 40000000 in
theorem c_user (l : Launch) (Z : State) (a0 : Array Value) (hw : ∀ d ∈ tables_1, d.before a0 Z = true) (hE : EW Z a0 consts_1) (nv : Value) (kU : Nat) (h0 : Heap) (O : Ext Z.heap h0) (hnv : nv.isRef = true) (S_U : Sta Z Z.heap "com/example/usher/usher/model/Principal$Kind" "USER" "Lcom/example/usher/usher/model/Principal$Kind;" (.ref kU))  :
    Con l Z consts_1 (⟨"com/example/usher/usher/model/Principal", "user", "(Ljava/lang/String;)Lcom/example/usher/usher/model/Principal;"⟩ : MethodName) prog_3_method_2_code 1 (Option.some (Jvm.ClassFile.FieldType.object "com/example/usher/usher/model/Principal")) ({ frames := 2, cells := 1, slots := 2, locals := 27 } : Room) #[nv] h0 [] (fun v h => ∃ o : Nat, v = some (.ref o) ∧ h0.size ≤ o ∧ Exa Z h o "com/example/usher/usher/model/Principal" ∧ Fld Z h o "com/example/usher/usher/model/Principal" "kind" "Lcom/example/usher/usher/model/Principal$Kind;" (.ref kU) ∧ Fld Z h o "com/example/usher/usher/model/Principal" "name" "Ljava/lang/String;" nv) := by
  refine Con.of (a0 := a0) #[.val nv] (plainFor_of_name pn_3) hE O all0 (fun m => by rcases ref_cases hnv with rfl | ⟨_, rfl⟩ <;> rfl) ?_
  intro p e s m below meth c T0 hx hby hml hnm hret hlk hh W0
  refine w_new (pc' := 3) W0 hx (hw _ (List.mem_of_getElem? w_30)) (hw _ (List.mem_of_getElem? w_31)) (hw _ (List.mem_of_getElem? w_28)) (hb hby d_prog_3_2_0) (Nat.le_of_ble_eq_true rfl) (Nat.le_of_ble_eq_true rfl) rfl fun T80 h80 b80 g80 W80 K80 A80 D80 => ?_
  have z_K80 : h0.size ≤ h80.size := K80.1
  have lt_b80 : b80 < h80.size := W80.lt (List.mem_cons_self ..)
  have F80_kind : Fld Z h80 b80 "com/example/usher/usher/model/Principal" "kind" "Lcom/example/usher/usher/model/Principal$Kind;" .null := D80 (Or.inr (hw _ (List.mem_of_getElem? w_40))) (ty := (.object "com/example/usher/usher/model/Principal$Kind")) (by decide)
  have F80_name : Fld Z h80 b80 "com/example/usher/usher/model/Principal" "name" "Ljava/lang/String;" .null := D80 (Or.inr (hw _ (List.mem_of_getElem? w_42))) (ty := (.object "java/lang/String")) (by decide)
  refine g_dup (pc' := 4) W80.here hx (hb hby d_prog_3_2_3) rfl rfl ?_
  refine w_getS (pc' := 7) W80 hx (hw _ (List.mem_of_getElem? w_46)) Via.refl S_U (hb hby d_prog_3_2_4) rfl fun T81 W81 => ?_
  refine g_aloadN (pc' := 8) W81.here hx (hb hby d_prog_3_2_7) rfl hnv rfl ?_
  refine w_special (pc' := 11) (st := [(.ref b80)]) (y := (⟨"com/example/usher/usher/model/Principal", "<init>", "(Lcom/example/usher/usher/model/Principal$Kind;Ljava/lang/String;)V"⟩ : MethodName)) (a := b80) W81 hx [(.ref kU), nv] rfl (hw _ (List.mem_of_getElem? w_35)) (hw _ (List.mem_of_getElem? w_36)) (hw _ (List.mem_of_getElem? w_28)) (hw _ (List.mem_of_getElem? w_37)) (by decide) (c_pinit l Z a0 hw hE b80 (.ref kU) nv h80 W81.old (by have := O.1; omega) A80 rfl hnv _ F80_kind _ F80_name) (allS (List.mem_of_getElem? (i := 0) rfl) all0) (by rw [hml]; rfl) (lenOf pd_5 rfl) rfl (hb hby d_prog_3_2_8) (Nat.le_of_ble_eq_true rfl) (Nat.le_of_ble_eq_true rfl) (Nat.le_of_ble_eq_true rfl) (Nat.le_of_ble_eq_true rfl) rfl fun v82 T82 h82 W82 K82 Q82 => ?_
  have z_K82 : h80.size ≤ h82.size := K82.1
  obtain ⟨rfl, E83, F83_0, F83_1⟩ := Q82
  refine w_retA W82 hx hh hlk hret rfl rfl (hb hby d_prog_3_2_11) (Nat.le_of_ble_eq_true rfl) (Nat.le_of_ble_eq_true rfl) ?_
  exact ⟨_, rfl, by omega, E83, F83_0, F83_1⟩
set_option maxRecDepth 65536 in
set_option maxHeartbeats 40000000 in
theorem c_group (l : Launch) (Z : State) (a0 : Array Value) (hw : ∀ d ∈ tables_1, d.before a0 Z = true) (hE : EW Z a0 consts_1) (nv : Value) (kP : Nat) (h0 : Heap) (O : Ext Z.heap h0) (hnv : nv.isRef = true) (S_P : Sta Z Z.heap "com/example/usher/usher/model/Principal$Kind" "GROUP" "Lcom/example/usher/usher/model/Principal$Kind;" (.ref kP))  :
    Con l Z consts_1 (⟨"com/example/usher/usher/model/Principal", "group", "(Ljava/lang/String;)Lcom/example/usher/usher/model/Principal;"⟩ : MethodName) prog_3_method_3_code 1 (Option.some (Jvm.ClassFile.FieldType.object "com/example/usher/usher/model/Principal")) ({ frames := 2, cells := 1, slots := 2, locals := 27 } : Room) #[nv] h0 [] (fun v h => ∃ o : Nat, v = some (.ref o) ∧ h0.size ≤ o ∧ Exa Z h o "com/example/usher/usher/model/Principal" ∧ Fld Z h o "com/example/usher/usher/model/Principal" "kind" "Lcom/example/usher/usher/model/Principal$Kind;" (.ref kP) ∧ Fld Z h o "com/example/usher/usher/model/Principal" "name" "Ljava/lang/String;" nv) := by
  refine Con.of (a0 := a0) #[.val nv] (plainFor_of_name pn_3) hE O all0 (fun m => by rcases ref_cases hnv with rfl | ⟨_, rfl⟩ <;> rfl) ?_
  intro p e s m below meth c T0 hx hby hml hnm hret hlk hh W0
  refine w_new (pc' := 3) W0 hx (hw _ (List.mem_of_getElem? w_30)) (hw _ (List.mem_of_getElem? w_31)) (hw _ (List.mem_of_getElem? w_28)) (hb hby d_prog_3_3_0) (Nat.le_of_ble_eq_true rfl) (Nat.le_of_ble_eq_true rfl) rfl fun T84 h84 b84 g84 W84 K84 A84 D84 => ?_
  have z_K84 : h0.size ≤ h84.size := K84.1
  have lt_b84 : b84 < h84.size := W84.lt (List.mem_cons_self ..)
  have F84_kind : Fld Z h84 b84 "com/example/usher/usher/model/Principal" "kind" "Lcom/example/usher/usher/model/Principal$Kind;" .null := D84 (Or.inr (hw _ (List.mem_of_getElem? w_40))) (ty := (.object "com/example/usher/usher/model/Principal$Kind")) (by decide)
  have F84_name : Fld Z h84 b84 "com/example/usher/usher/model/Principal" "name" "Ljava/lang/String;" .null := D84 (Or.inr (hw _ (List.mem_of_getElem? w_42))) (ty := (.object "java/lang/String")) (by decide)
  refine g_dup (pc' := 4) W84.here hx (hb hby d_prog_3_3_3) rfl rfl ?_
  refine w_getS (pc' := 7) W84 hx (hw _ (List.mem_of_getElem? w_32)) Via.refl S_P (hb hby d_prog_3_3_4) rfl fun T85 W85 => ?_
  refine g_aloadN (pc' := 8) W85.here hx (hb hby d_prog_3_3_7) rfl hnv rfl ?_
  refine w_special (pc' := 11) (st := [(.ref b84)]) (y := (⟨"com/example/usher/usher/model/Principal", "<init>", "(Lcom/example/usher/usher/model/Principal$Kind;Ljava/lang/String;)V"⟩ : MethodName)) (a := b84) W85 hx [(.ref kP), nv] rfl (hw _ (List.mem_of_getElem? w_35)) (hw _ (List.mem_of_getElem? w_36)) (hw _ (List.mem_of_getElem? w_28)) (hw _ (List.mem_of_getElem? w_37)) (by decide) (c_pinit l Z a0 hw hE b84 (.ref kP) nv h84 W85.old (by have := O.1; omega) A84 rfl hnv _ F84_kind _ F84_name) (allS (List.mem_of_getElem? (i := 0) rfl) all0) (by rw [hml]; rfl) (lenOf pd_5 rfl) rfl (hb hby d_prog_3_3_8) (Nat.le_of_ble_eq_true rfl) (Nat.le_of_ble_eq_true rfl) (Nat.le_of_ble_eq_true rfl) (Nat.le_of_ble_eq_true rfl) rfl fun v86 T86 h86 W86 K86 Q86 => ?_
  have z_K86 : h84.size ≤ h86.size := K86.1
  obtain ⟨rfl, E87, F87_0, F87_1⟩ := Q86
  refine w_retA W86 hx hh hlk hret rfl rfl (hb hby d_prog_3_3_11) (Nat.le_of_ble_eq_true rfl) (Nat.le_of_ble_eq_true rfl) ?_
  exact ⟨_, rfl, by omega, E87, F87_0, F87_1⟩
set_option maxRecDepth 65536 in
set_option maxHeartbeats 40000000 in
theorem c_getKind (l : Launch) (Z : State) (a0 : Array Value) (hw : ∀ d ∈ tables_1, d.before a0 Z = true) (hE : EW Z a0 consts_1) (o : Nat) (u : Value) (h0 : Heap) (O : Ext Z.heap h0) (hu : u.isRef = true) (F1 : Fld Z h0 o "com/example/usher/usher/model/Principal" "kind" "Lcom/example/usher/usher/model/Principal$Kind;" u) :
    Con l Z consts_1 (⟨"com/example/usher/usher/model/Principal", "getKind", "()Lcom/example/usher/usher/model/Principal$Kind;"⟩ : MethodName) prog_3_method_4_code 1 (Option.some (Jvm.ClassFile.FieldType.object "com/example/usher/usher/model/Principal$Kind")) ({ frames := 0, cells := 0, slots := 0, locals := 0 } : Room) #[(.ref o)] h0 [] (pureQ (some u) h0) := by
  refine Con.of (a0 := a0) #[.val (.ref o)] (plainFor_of_name pn_3) hE O all0 (fun m => by first | (simp [entryFrame, mkF, argsToLocals, Value.category]; done) | rfl) ?_
  intro p e s m below meth c T0 hx hby hml hnm hret hlk hh W0
  refine g_aloadN (pc' := 1) W0.here hx (hb hby d_prog_3_4_0) rfl rfl rfl ?_
  refine w_get (pc' := 4) W0 hx (hw _ (List.mem_of_getElem? w_39)) Via.refl F1 (hb hby d_prog_3_4_1) rfl fun T88 W88 => ?_
  refine w_retA W88 hx hh hlk hret rfl hu (hb hby d_prog_3_4_4) (Nat.le_of_ble_eq_true rfl) (Nat.le_of_ble_eq_true rfl) ?_
  exact ⟨rfl, rfl⟩
set_option maxRecDepth 65536 in
set_option maxHeartbeats 40000000 in
theorem c_getName (l : Launch) (Z : State) (a0 : Array Value) (hw : ∀ d ∈ tables_1, d.before a0 Z = true) (hE : EW Z a0 consts_1) (o : Nat) (u : Value) (h0 : Heap) (O : Ext Z.heap h0) (hu : u.isRef = true) (F1 : Fld Z h0 o "com/example/usher/usher/model/Principal" "name" "Ljava/lang/String;" u) :
    Con l Z consts_1 (⟨"com/example/usher/usher/model/Principal", "getName", "()Ljava/lang/String;"⟩ : MethodName) prog_3_method_5_code 1 (Option.some (Jvm.ClassFile.FieldType.object "java/lang/String")) ({ frames := 0, cells := 0, slots := 0, locals := 0 } : Room) #[(.ref o)] h0 [] (pureQ (some u) h0) := by
  refine Con.of (a0 := a0) #[.val (.ref o)] (plainFor_of_name pn_3) hE O all0 (fun m => by first | (simp [entryFrame, mkF, argsToLocals, Value.category]; done) | rfl) ?_
  intro p e s m below meth c T0 hx hby hml hnm hret hlk hh W0
  refine g_aloadN (pc' := 1) W0.here hx (hb hby d_prog_3_5_0) rfl rfl rfl ?_
  refine w_get (pc' := 4) W0 hx (hw _ (List.mem_of_getElem? w_41)) Via.refl F1 (hb hby d_prog_3_5_1) rfl fun T89 W89 => ?_
  refine w_retA W89 hx hh hlk hret rfl hu (hb hby d_prog_3_5_4) (Nat.le_of_ble_eq_true rfl) (Nat.le_of_ble_eq_true rfl) ?_
  exact ⟨rfl, rfl⟩
set_option maxRecDepth 65536 in
set_option maxHeartbeats 40000000 in
theorem c_eqSelf (l : Launch) (Z : State) (a0 : Array Value) (hw : ∀ d ∈ tables_1, d.before a0 Z = true) (hE : EW Z a0 consts_1) (a : Nat) (h0 : Heap) (O : Ext Z.heap h0)  :
    Con l Z consts_1 (⟨"java/lang/String", "equals", "(Ljava/lang/Object;)Z"⟩ : MethodName) jdk_42_method_66_code 3 (Option.some Jvm.ClassFile.FieldType.boolean) ({ frames := 0, cells := 0, slots := 0, locals := 0 } : Room) #[(.ref a), (.ref a)] h0 [] (pureQ (some (.int 1)) h0) := by
  refine Con.of (a0 := a0) #[.val (.ref a), .val (.ref a), .unset] (plainFor_of_name pn_1) hE O all0 (fun m => by first | (simp [entryFrame, mkF, argsToLocals, Value.category]; done) | rfl) ?_
  intro p e s m below meth c T0 hx hby hml hnm hret hlk hh W0
  refine g_aloadN (pc' := 1) W0.here hx (hb hby d_jdk_42_66_0) rfl rfl rfl ?_
  refine g_aloadN (pc' := 2) W0.here hx (hb hby d_jdk_42_66_1) rfl rfl rfl ?_
  refine w_acmp (pc' := 5) W0 hx rfl rfl true (hb hby d_jdk_42_66_2) (decide_eq_true rfl) (by decide) (by decide) ?_
  refine g_iconst (1 : Int32) (pc' := 6) W0.here hx (hb hby d_jdk_42_66_5) rfl rfl ?_
  refine w_retN (t := .boolean) W0 hx hh hlk hret (by simp) (hb hby d_jdk_42_66_6) (Nat.le_of_ble_eq_true rfl) (Nat.le_of_ble_eq_true rfl) ?_
  exact ⟨rfl, rfl⟩
set_option maxRecDepth 65536 in
set_option maxHeartbeats 40000000 in
theorem c_law (l : Launch) (Z : State) (a0 : Array Value) (hw : ∀ d ∈ tables_1, d.before a0 Z = true) (hE : EW Z a0 consts_1) (cc : Int32) (fm : Value) (p0 p1 p2 p3 p4 : Int32) (kU kP : Nat) (h0 : Heap) (O : Ext Z.heap h0) (G : SEnv Z cc fm) (S_U : Sta Z Z.heap "com/example/usher/usher/model/Principal$Kind" "USER" "Lcom/example/usher/usher/model/Principal$Kind;" (.ref kU)) (S_P : Sta Z Z.heap "com/example/usher/usher/model/Principal$Kind" "GROUP" "Lcom/example/usher/usher/model/Principal$Kind;" (.ref kP)) (neK : kU ≠ kP) :
    ConL tables_1 l Z consts_1 x code maxLocals ret room_1 #[(.int p0), (.int p1), (.int p2), (.int p3), (.int p4)] h0 [] (fun v _ => v = some (.int 1)) := by
  refine Con.of (a0 := a0) #[.val (.int p0), .val (.int p1), .val (.int p2), .val (.int p3), .val (.int p4), .unset, .unset, .unset, .unset, .unset, .unset, .unset, .unset] (plainFor_of_name pn_2) hE O all0 (fun m => by first | (simp [entryFrame, mkF, argsToLocals, Value.category, maxLocals]; done) | rfl) ?_
  intro p e s m below meth c T0 hx hby hml hnm hret hlk hh W0
  refine g_iload (pc' := 2) W0.here hx (hb hby at_0) rfl rfl ?_
  refine g_iconst (1 : Int32) (pc' := 3) W0.here hx (hb hby at_2) rfl rfl ?_
  refine g_iand (pc' := 4) W0.here hx (hb hby at_3) rfl ?_
  by_cases hc4_90 : (p4 &&& (1 : Int32)) = (0 : Int32)
  · refine g_ifY (pc' := 11) W0.here hx (hb hby at_4) rfl (teq hc4_90).1 ?_
    refine g_iconst (0 : Int32) (pc' := 12) W0.here hx (hb hby at_11) rfl rfl ?_
    refine g_istore (pc' := 14) (Ls' := #[.val (.int p0), .val (.int p1), .val (.int p2), .val (.int p3), .val (.int p4), .val (.int (0 : Int32)), .unset, .unset, .unset, .unset, .unset, .unset, .unset]) W0.here hx (hb hby at_12) rfl rfl ?_
    refine g_iload (pc' := 16) W0.here hx (hb hby at_14) rfl rfl ?_
    refine g_ifY (pc' := 23) W0.here hx (hb hby at_16) rfl (teq (show (0 : Int32) = (0 : Int32) from (by decide))).1 ?_
    refine g_iloadN (pc' := 24) W0.here hx (hb hby at_23) rfl rfl ?_
    refine g_iloadN (pc' := 25) W0.here hx (hb hby at_24) rfl rfl ?_
    refine g_iloadN (pc' := 26) W0.here hx (hb hby at_25) rfl rfl ?_
    refine g_iloadN (pc' := 27) W0.here hx (hb hby at_26) rfl rfl ?_
    refine w_callS (pc' := 30) (st := []) (y := (⟨"com/example/usher/usher/model/PrincipalGroupPinLaw", "draw", "(IIII)Ljava/lang/String;"⟩ : MethodName)) W0 hx [(.int p0), (.int p1), (.int p2), (.int p3)] (hw _ (List.mem_of_getElem? w_0)) (hw _ (List.mem_of_getElem? w_1)) (hw _ (List.mem_of_getElem? w_2)) (hw _ (List.mem_of_getElem? w_3)) (by decide) (c_draw l Z a0 hw hE cc fm p0 p1 p2 p3 h0 W0.old G) all0 (by rw [hml]; rfl) (lenOf pd_6 rfl) rfl (hb hby at_27) (Nat.le_of_ble_eq_true rfl) (Nat.le_of_ble_eq_true rfl) (Nat.le_of_ble_eq_true rfl) (Nat.le_of_ble_eq_true rfl) rfl fun v91 T91 h91 W91 K91 Q91 => ?_
    have z_K91 : h0.size ≤ h91.size := K91.1
    obtain ⟨a92, rfl, E92⟩ := Q91
    have lt_a92 : a92 < h91.size := E92.lt
    refine g_astore (pc' := 32) (Ls' := #[.val (.int p0), .val (.int p1), .val (.int p2), .val (.int p3), .val (.int p4), .val (.int (0 : Int32)), .val (.ref a92), .unset, .unset, .unset, .unset, .unset, .unset]) W91.here hx (hb hby at_30) rfl rfl rfl ?_
    refine g_aload (pc' := 34) W91.here hx (hb hby at_32) rfl rfl rfl ?_
    refine w_callS (pc' := 37) (st := []) (y := (⟨"com/example/usher/usher/model/Principal", "group", "(Ljava/lang/String;)Lcom/example/usher/usher/model/Principal;"⟩ : MethodName)) W91 hx [(.ref a92)] (hw _ (List.mem_of_getElem? w_26)) (hw _ (List.mem_of_getElem? w_27)) (hw _ (List.mem_of_getElem? w_28)) (hw _ (List.mem_of_getElem? w_29)) (by decide) (c_group l Z a0 hw hE (.ref a92) kP h91 W91.old rfl S_P) all0 (by rw [hml]; rfl) (lenOf pd_7 rfl) rfl (hb hby at_34) (Nat.le_of_ble_eq_true rfl) (Nat.le_of_ble_eq_true rfl) (Nat.le_of_ble_eq_true rfl) (Nat.le_of_ble_eq_true rfl) rfl fun v93 T93 h93 W93 K93 Q93 => ?_
    have z_K93 : h91.size ≤ h93.size := K93.1
    obtain ⟨o94, rfl, gz94, E94, F94, G94⟩ := Q93
    have ne_a92_o94 : a92 ≠ o94 := by omega
    have lt_o94 : o94 < h93.size := E94.lt
    refine g_astore (pc' := 39) (Ls' := #[.val (.int p0), .val (.int p1), .val (.int p2), .val (.int p3), .val (.int p4), .val (.int (0 : Int32)), .val (.ref a92), .val (.ref o94), .unset, .unset, .unset, .unset, .unset]) W93.here hx (hb hby at_37) rfl rfl rfl ?_
    refine g_aload (pc' := 41) W93.here hx (hb hby at_39) rfl rfl rfl ?_
    refine w_callS (pc' := 44) (st := []) (y := (⟨"com/example/usher/usher/model/Principal", "user", "(Ljava/lang/String;)Lcom/example/usher/usher/model/Principal;"⟩ : MethodName)) W93 hx [(.ref a92)] (hw _ (List.mem_of_getElem? w_43)) (hw _ (List.mem_of_getElem? w_44)) (hw _ (List.mem_of_getElem? w_28)) (hw _ (List.mem_of_getElem? w_45)) (by decide) (c_user l Z a0 hw hE (.ref a92) kU h93 W93.old rfl S_U) all0 (by rw [hml]; rfl) (lenOf pd_7 rfl) rfl (hb hby at_41) (Nat.le_of_ble_eq_true rfl) (Nat.le_of_ble_eq_true rfl) (Nat.le_of_ble_eq_true rfl) (Nat.le_of_ble_eq_true rfl) rfl fun v95 T95 h95 W95 K95 Q95 => ?_
    have z_K95 : h93.size ≤ h95.size := K95.1
    obtain ⟨o96, rfl, gz96, E96, F96, G96⟩ := Q95
    have ne_a92_o96 : a92 ≠ o96 := by omega
    have ne_o94_o96 : o94 ≠ o96 := by omega
    have lt_o96 : o96 < h95.size := E96.lt
    refine g_astore (pc' := 46) (Ls' := #[.val (.int p0), .val (.int p1), .val (.int p2), .val (.int p3), .val (.int p4), .val (.int (0 : Int32)), .val (.ref a92), .val (.ref o94), .val (.ref o96), .unset, .unset, .unset, .unset]) W95.here hx (hb hby at_44) rfl rfl rfl ?_
    refine g_aload (pc' := 48) W95.here hx (hb hby at_46) rfl rfl rfl ?_
    have c97 := (G94.keep K95 nin0)
    have c99 := (E94.keep K95)
    refine w_virtualp (pc' := 51) (st := []) (y := (⟨"com/example/usher/usher/model/Principal", "getName", "()Ljava/lang/String;"⟩ : MethodName)) (z := (⟨"com/example/usher/usher/model/Principal", "getName", "()Ljava/lang/String;"⟩ : MethodName)) (a := o94) W95 hx [] (hw _ (List.mem_of_getElem? w_48)) (hw _ (List.mem_of_getElem? w_49)) (nfS (z := (⟨"com/example/usher/usher/model/Principal", "getName", "()Ljava/lang/String;"⟩ : MethodName)) (hw _ (List.mem_of_getElem? w_51))) (hw _ (List.mem_of_getElem? w_51)) (hw _ (List.mem_of_getElem? w_50)) (hw _ (List.mem_of_getElem? w_28)) (hw _ (List.mem_of_getElem? w_52)) (by decide) (c_getName l Z a0 hw hE o94 (.ref a92) h95 W95.old rfl c97) c99 (by rw [hml]; rfl) (lenOf pd_8 rfl) rfl (hb hby at_48) (Nat.le_of_ble_eq_true rfl) (Nat.le_of_ble_eq_true rfl) rfl rfl (Nat.le_of_ble_eq_true rfl) (Nat.le_of_ble_eq_true rfl) rfl fun T98 W98 => ?_
    refine g_astore (pc' := 53) (Ls' := #[.val (.int p0), .val (.int p1), .val (.int p2), .val (.int p3), .val (.int p4), .val (.int (0 : Int32)), .val (.ref a92), .val (.ref o94), .val (.ref o96), .val (.ref a92), .unset, .unset, .unset]) W98.here hx (hb hby at_51) rfl rfl rfl ?_
    refine g_aload (pc' := 55) W98.here hx (hb hby at_53) rfl rfl rfl ?_
    refine g_nonnullY (pc' := 71) W98.here hx (hb hby at_55) rfl ?_
    refine g_aload (pc' := 73) W98.here hx (hb hby at_71) rfl rfl rfl ?_
    refine g_aload (pc' := 75) W98.here hx (hb hby at_73) rfl rfl rfl ?_
    have c101 := ((E92.keep K93).keep K95)
    refine w_virtualp (pc' := 78) (st := []) (y := (⟨"java/lang/String", "equals", "(Ljava/lang/Object;)Z"⟩ : MethodName)) (z := (⟨"java/lang/String", "equals", "(Ljava/lang/Object;)Z"⟩ : MethodName)) (a := a92) W98 hx [(.ref a92)] (hw _ (List.mem_of_getElem? w_53)) (hw _ (List.mem_of_getElem? w_54)) (nfS (z := (⟨"java/lang/String", "equals", "(Ljava/lang/Object;)Z"⟩ : MethodName)) (hw _ (List.mem_of_getElem? w_56))) (hw _ (List.mem_of_getElem? w_56)) (hw _ (List.mem_of_getElem? w_55)) (hw _ (List.mem_of_getElem? w_6)) (hw _ (List.mem_of_getElem? w_57)) (by decide) (c_eqSelf l Z a0 hw hE a92 h95 W98.old) c101 (by rw [hml]; rfl) (lenOf pd_9 rfl) rfl (hb hby at_75) (Nat.le_of_ble_eq_true rfl) (Nat.le_of_ble_eq_true rfl) rfl rfl (Nat.le_of_ble_eq_true rfl) (Nat.le_of_ble_eq_true rfl) rfl fun T100 W100 => ?_
    refine g_istore (pc' := 80) (Ls' := #[.val (.int p0), .val (.int p1), .val (.int p2), .val (.int p3), .val (.int p4), .val (.int (0 : Int32)), .val (.ref a92), .val (.ref o94), .val (.ref o96), .val (.ref a92), .val (.int (1 : Int32)), .unset, .unset]) W100.here hx (hb hby at_78) rfl rfl ?_
    refine g_aload (pc' := 82) W100.here hx (hb hby at_80) rfl rfl rfl ?_
    have c102 := (F94.keep K95 nin0)
    refine w_virtualp (pc' := 85) (st := []) (y := (⟨"com/example/usher/usher/model/Principal", "getKind", "()Lcom/example/usher/usher/model/Principal$Kind;"⟩ : MethodName)) (z := (⟨"com/example/usher/usher/model/Principal", "getKind", "()Lcom/example/usher/usher/model/Principal$Kind;"⟩ : MethodName)) (a := o94) W100 hx [] (hw _ (List.mem_of_getElem? w_58)) (hw _ (List.mem_of_getElem? w_59)) (nfS (z := (⟨"com/example/usher/usher/model/Principal", "getKind", "()Lcom/example/usher/usher/model/Principal$Kind;"⟩ : MethodName)) (hw _ (List.mem_of_getElem? w_61))) (hw _ (List.mem_of_getElem? w_61)) (hw _ (List.mem_of_getElem? w_60)) (hw _ (List.mem_of_getElem? w_28)) (hw _ (List.mem_of_getElem? w_62)) (by decide) (c_getKind l Z a0 hw hE o94 (.ref kP) h95 W100.old rfl c102) c99 (by rw [hml]; rfl) (lenOf pd_10 rfl) rfl (hb hby at_82) (Nat.le_of_ble_eq_true rfl) (Nat.le_of_ble_eq_true rfl) rfl rfl (Nat.le_of_ble_eq_true rfl) (Nat.le_of_ble_eq_true rfl) rfl fun T103 W103 => ?_
    refine w_getS (pc' := 88) W103 hx (hw _ (List.mem_of_getElem? w_63)) Via.refl S_P (hb hby at_85) rfl fun T104 W104 => ?_
    refine w_acmp (pc' := 91) W104 hx rfl rfl true (hb hby at_88) (decide_eq_true rfl) (by decide) (by decide) ?_
    refine g_iconst (1 : Int32) (pc' := 92) W104.here hx (hb hby at_91) rfl rfl ?_
    refine g_goto (pc' := 96) W104.here hx (hb hby at_92) rfl ?_
    refine g_istore (pc' := 98) (Ls' := #[.val (.int p0), .val (.int p1), .val (.int p2), .val (.int p3), .val (.int p4), .val (.int (0 : Int32)), .val (.ref a92), .val (.ref o94), .val (.ref o96), .val (.ref a92), .val (.int (1 : Int32)), .val (.int (1 : Int32)), .unset]) W104.here hx (hb hby at_96) rfl rfl ?_
    refine g_aload (pc' := 100) W104.here hx (hb hby at_98) rfl rfl rfl ?_
    refine w_virtualp (pc' := 103) (st := []) (y := (⟨"com/example/usher/usher/model/Principal", "getKind", "()Lcom/example/usher/usher/model/Principal$Kind;"⟩ : MethodName)) (z := (⟨"com/example/usher/usher/model/Principal", "getKind", "()Lcom/example/usher/usher/model/Principal$Kind;"⟩ : MethodName)) (a := o96) W104 hx [] (hw _ (List.mem_of_getElem? w_58)) (hw _ (List.mem_of_getElem? w_59)) (nfS (z := (⟨"com/example/usher/usher/model/Principal", "getKind", "()Lcom/example/usher/usher/model/Principal$Kind;"⟩ : MethodName)) (hw _ (List.mem_of_getElem? w_61))) (hw _ (List.mem_of_getElem? w_61)) (hw _ (List.mem_of_getElem? w_60)) (hw _ (List.mem_of_getElem? w_28)) (hw _ (List.mem_of_getElem? w_62)) (by decide) (c_getKind l Z a0 hw hE o96 (.ref kU) h95 W104.old rfl F96) E96 (by rw [hml]; rfl) (lenOf pd_10 rfl) rfl (hb hby at_100) (Nat.le_of_ble_eq_true rfl) (Nat.le_of_ble_eq_true rfl) rfl rfl (Nat.le_of_ble_eq_true rfl) (Nat.le_of_ble_eq_true rfl) rfl fun T105 W105 => ?_
    refine g_aload (pc' := 105) W105.here hx (hb hby at_103) rfl rfl rfl ?_
    refine w_virtualp (pc' := 108) (st := [(.ref kU)]) (y := (⟨"com/example/usher/usher/model/Principal", "getKind", "()Lcom/example/usher/usher/model/Principal$Kind;"⟩ : MethodName)) (z := (⟨"com/example/usher/usher/model/Principal", "getKind", "()Lcom/example/usher/usher/model/Principal$Kind;"⟩ : MethodName)) (a := o94) W105 hx [] (hw _ (List.mem_of_getElem? w_58)) (hw _ (List.mem_of_getElem? w_59)) (nfS (z := (⟨"com/example/usher/usher/model/Principal", "getKind", "()Lcom/example/usher/usher/model/Principal$Kind;"⟩ : MethodName)) (hw _ (List.mem_of_getElem? w_61))) (hw _ (List.mem_of_getElem? w_61)) (hw _ (List.mem_of_getElem? w_60)) (hw _ (List.mem_of_getElem? w_28)) (hw _ (List.mem_of_getElem? w_62)) (by decide) (c_getKind l Z a0 hw hE o94 (.ref kP) h95 W105.old rfl c102) c99 (by rw [hml]; rfl) (lenOf pd_10 rfl) rfl (hb hby at_105) (Nat.le_of_ble_eq_true rfl) (Nat.le_of_ble_eq_true rfl) rfl rfl (Nat.le_of_ble_eq_true rfl) (Nat.le_of_ble_eq_true rfl) rfl fun T106 W106 => ?_
    refine w_acmp (pc' := 111) W106 hx rfl rfl false (hb hby at_108) (decide_eq_false fun q => neK (Value.ref.inj q)) (by decide) (by decide) ?_
    refine g_iconst (1 : Int32) (pc' := 112) W106.here hx (hb hby at_111) rfl rfl ?_
    refine g_goto (pc' := 116) W106.here hx (hb hby at_112) rfl ?_
    refine g_istore (pc' := 118) (Ls' := #[.val (.int p0), .val (.int p1), .val (.int p2), .val (.int p3), .val (.int p4), .val (.int (0 : Int32)), .val (.ref a92), .val (.ref o94), .val (.ref o96), .val (.ref a92), .val (.int (1 : Int32)), .val (.int (1 : Int32)), .val (.int (1 : Int32))]) W106.here hx (hb hby at_116) rfl rfl ?_
    refine g_iload (pc' := 120) W106.here hx (hb hby at_118) rfl rfl ?_
    refine g_ifN (pc' := 123) W106.here hx (hb hby at_120) rfl (feq (show ¬ ((1 : Int32) = (0 : Int32)) from (by decide))).1 ?_
    refine g_iload (pc' := 125) W106.here hx (hb hby at_123) rfl rfl ?_
    refine g_ifN (pc' := 128) W106.here hx (hb hby at_125) rfl (feq (show ¬ ((1 : Int32) = (0 : Int32)) from (by decide))).1 ?_
    refine g_iload (pc' := 130) W106.here hx (hb hby at_128) rfl rfl ?_
    refine g_ifN (pc' := 133) W106.here hx (hb hby at_130) rfl (feq (show ¬ ((1 : Int32) = (0 : Int32)) from (by decide))).1 ?_
    refine g_iconst (1 : Int32) (pc' := 134) W106.here hx (hb hby at_133) rfl rfl ?_
    refine g_goto (pc' := 138) W106.here hx (hb hby at_134) rfl ?_
    refine w_retN (t := .boolean) W106 hx hh hlk hret (by simp) (hb hby at_138) (Nat.le_of_ble_eq_true rfl) (Nat.le_of_ble_eq_true rfl) ?_
    exact rfl
  · refine g_ifN (pc' := 7) W0.here hx (hb hby at_4) rfl (feq hc4_90).1 ?_
    refine g_iconst (1 : Int32) (pc' := 8) W0.here hx (hb hby at_7) rfl rfl ?_
    refine g_goto (pc' := 12) W0.here hx (hb hby at_8) rfl ?_
    refine g_istore (pc' := 14) (Ls' := #[.val (.int p0), .val (.int p1), .val (.int p2), .val (.int p3), .val (.int p4), .val (.int (1 : Int32)), .unset, .unset, .unset, .unset, .unset, .unset, .unset]) W0.here hx (hb hby at_12) rfl rfl ?_
    refine g_iload (pc' := 16) W0.here hx (hb hby at_14) rfl rfl ?_
    refine g_ifN (pc' := 19) W0.here hx (hb hby at_16) rfl (feq (show ¬ ((1 : Int32) = (0 : Int32)) from (by decide))).1 ?_
    refine g_aconstNull (pc' := 20) W0.here hx (hb hby at_19) rfl ?_
    refine g_goto (pc' := 30) W0.here hx (hb hby at_20) rfl ?_
    refine g_astore (pc' := 32) (Ls' := #[.val (.int p0), .val (.int p1), .val (.int p2), .val (.int p3), .val (.int p4), .val (.int (1 : Int32)), .val .null, .unset, .unset, .unset, .unset, .unset, .unset]) W0.here hx (hb hby at_30) rfl rfl rfl ?_
    refine g_aload (pc' := 34) W0.here hx (hb hby at_32) rfl rfl rfl ?_
    refine w_callS (pc' := 37) (st := []) (y := (⟨"com/example/usher/usher/model/Principal", "group", "(Ljava/lang/String;)Lcom/example/usher/usher/model/Principal;"⟩ : MethodName)) W0 hx [.null] (hw _ (List.mem_of_getElem? w_26)) (hw _ (List.mem_of_getElem? w_27)) (hw _ (List.mem_of_getElem? w_28)) (hw _ (List.mem_of_getElem? w_29)) (by decide) (c_group l Z a0 hw hE .null kP h0 W0.old rfl S_P) all0 (by rw [hml]; rfl) (lenOf pd_7 rfl) rfl (hb hby at_34) (Nat.le_of_ble_eq_true rfl) (Nat.le_of_ble_eq_true rfl) (Nat.le_of_ble_eq_true rfl) (Nat.le_of_ble_eq_true rfl) rfl fun v107 T107 h107 W107 K107 Q107 => ?_
    have z_K107 : h0.size ≤ h107.size := K107.1
    obtain ⟨o108, rfl, gz108, E108, F108, G108⟩ := Q107
    have lt_o108 : o108 < h107.size := E108.lt
    refine g_astore (pc' := 39) (Ls' := #[.val (.int p0), .val (.int p1), .val (.int p2), .val (.int p3), .val (.int p4), .val (.int (1 : Int32)), .val .null, .val (.ref o108), .unset, .unset, .unset, .unset, .unset]) W107.here hx (hb hby at_37) rfl rfl rfl ?_
    refine g_aload (pc' := 41) W107.here hx (hb hby at_39) rfl rfl rfl ?_
    refine w_callS (pc' := 44) (st := []) (y := (⟨"com/example/usher/usher/model/Principal", "user", "(Ljava/lang/String;)Lcom/example/usher/usher/model/Principal;"⟩ : MethodName)) W107 hx [.null] (hw _ (List.mem_of_getElem? w_43)) (hw _ (List.mem_of_getElem? w_44)) (hw _ (List.mem_of_getElem? w_28)) (hw _ (List.mem_of_getElem? w_45)) (by decide) (c_user l Z a0 hw hE .null kU h107 W107.old rfl S_U) all0 (by rw [hml]; rfl) (lenOf pd_7 rfl) rfl (hb hby at_41) (Nat.le_of_ble_eq_true rfl) (Nat.le_of_ble_eq_true rfl) (Nat.le_of_ble_eq_true rfl) (Nat.le_of_ble_eq_true rfl) rfl fun v109 T109 h109 W109 K109 Q109 => ?_
    have z_K109 : h107.size ≤ h109.size := K109.1
    obtain ⟨o110, rfl, gz110, E110, F110, G110⟩ := Q109
    have ne_o108_o110 : o108 ≠ o110 := by omega
    have lt_o110 : o110 < h109.size := E110.lt
    refine g_astore (pc' := 46) (Ls' := #[.val (.int p0), .val (.int p1), .val (.int p2), .val (.int p3), .val (.int p4), .val (.int (1 : Int32)), .val .null, .val (.ref o108), .val (.ref o110), .unset, .unset, .unset, .unset]) W109.here hx (hb hby at_44) rfl rfl rfl ?_
    refine g_aload (pc' := 48) W109.here hx (hb hby at_46) rfl rfl rfl ?_
    have c111 := (G108.keep K109 nin0)
    have c113 := (E108.keep K109)
    refine w_virtualp (pc' := 51) (st := []) (y := (⟨"com/example/usher/usher/model/Principal", "getName", "()Ljava/lang/String;"⟩ : MethodName)) (z := (⟨"com/example/usher/usher/model/Principal", "getName", "()Ljava/lang/String;"⟩ : MethodName)) (a := o108) W109 hx [] (hw _ (List.mem_of_getElem? w_48)) (hw _ (List.mem_of_getElem? w_49)) (nfS (z := (⟨"com/example/usher/usher/model/Principal", "getName", "()Ljava/lang/String;"⟩ : MethodName)) (hw _ (List.mem_of_getElem? w_51))) (hw _ (List.mem_of_getElem? w_51)) (hw _ (List.mem_of_getElem? w_50)) (hw _ (List.mem_of_getElem? w_28)) (hw _ (List.mem_of_getElem? w_52)) (by decide) (c_getName l Z a0 hw hE o108 .null h109 W109.old rfl c111) c113 (by rw [hml]; rfl) (lenOf pd_8 rfl) rfl (hb hby at_48) (Nat.le_of_ble_eq_true rfl) (Nat.le_of_ble_eq_true rfl) rfl rfl (Nat.le_of_ble_eq_true rfl) (Nat.le_of_ble_eq_true rfl) rfl fun T112 W112 => ?_
    refine g_astore (pc' := 53) (Ls' := #[.val (.int p0), .val (.int p1), .val (.int p2), .val (.int p3), .val (.int p4), .val (.int (1 : Int32)), .val .null, .val (.ref o108), .val (.ref o110), .val .null, .unset, .unset, .unset]) W112.here hx (hb hby at_51) rfl rfl rfl ?_
    refine g_aload (pc' := 55) W112.here hx (hb hby at_53) rfl rfl rfl ?_
    refine g_nonnullN (pc' := 58) W112.here hx (hb hby at_55) rfl ?_
    refine g_aload (pc' := 60) W112.here hx (hb hby at_58) rfl rfl rfl ?_
    refine g_nonnullN (pc' := 63) W112.here hx (hb hby at_60) rfl ?_
    refine g_iconst (1 : Int32) (pc' := 64) W112.here hx (hb hby at_63) rfl rfl ?_
    refine g_goto (pc' := 78) W112.here hx (hb hby at_64) rfl ?_
    refine g_istore (pc' := 80) (Ls' := #[.val (.int p0), .val (.int p1), .val (.int p2), .val (.int p3), .val (.int p4), .val (.int (1 : Int32)), .val .null, .val (.ref o108), .val (.ref o110), .val .null, .val (.int (1 : Int32)), .unset, .unset]) W112.here hx (hb hby at_78) rfl rfl ?_
    refine g_aload (pc' := 82) W112.here hx (hb hby at_80) rfl rfl rfl ?_
    have c114 := (F108.keep K109 nin0)
    refine w_virtualp (pc' := 85) (st := []) (y := (⟨"com/example/usher/usher/model/Principal", "getKind", "()Lcom/example/usher/usher/model/Principal$Kind;"⟩ : MethodName)) (z := (⟨"com/example/usher/usher/model/Principal", "getKind", "()Lcom/example/usher/usher/model/Principal$Kind;"⟩ : MethodName)) (a := o108) W112 hx [] (hw _ (List.mem_of_getElem? w_58)) (hw _ (List.mem_of_getElem? w_59)) (nfS (z := (⟨"com/example/usher/usher/model/Principal", "getKind", "()Lcom/example/usher/usher/model/Principal$Kind;"⟩ : MethodName)) (hw _ (List.mem_of_getElem? w_61))) (hw _ (List.mem_of_getElem? w_61)) (hw _ (List.mem_of_getElem? w_60)) (hw _ (List.mem_of_getElem? w_28)) (hw _ (List.mem_of_getElem? w_62)) (by decide) (c_getKind l Z a0 hw hE o108 (.ref kP) h109 W112.old rfl c114) c113 (by rw [hml]; rfl) (lenOf pd_10 rfl) rfl (hb hby at_82) (Nat.le_of_ble_eq_true rfl) (Nat.le_of_ble_eq_true rfl) rfl rfl (Nat.le_of_ble_eq_true rfl) (Nat.le_of_ble_eq_true rfl) rfl fun T115 W115 => ?_
    refine w_getS (pc' := 88) W115 hx (hw _ (List.mem_of_getElem? w_63)) Via.refl S_P (hb hby at_85) rfl fun T116 W116 => ?_
    refine w_acmp (pc' := 91) W116 hx rfl rfl true (hb hby at_88) (decide_eq_true rfl) (by decide) (by decide) ?_
    refine g_iconst (1 : Int32) (pc' := 92) W116.here hx (hb hby at_91) rfl rfl ?_
    refine g_goto (pc' := 96) W116.here hx (hb hby at_92) rfl ?_
    refine g_istore (pc' := 98) (Ls' := #[.val (.int p0), .val (.int p1), .val (.int p2), .val (.int p3), .val (.int p4), .val (.int (1 : Int32)), .val .null, .val (.ref o108), .val (.ref o110), .val .null, .val (.int (1 : Int32)), .val (.int (1 : Int32)), .unset]) W116.here hx (hb hby at_96) rfl rfl ?_
    refine g_aload (pc' := 100) W116.here hx (hb hby at_98) rfl rfl rfl ?_
    refine w_virtualp (pc' := 103) (st := []) (y := (⟨"com/example/usher/usher/model/Principal", "getKind", "()Lcom/example/usher/usher/model/Principal$Kind;"⟩ : MethodName)) (z := (⟨"com/example/usher/usher/model/Principal", "getKind", "()Lcom/example/usher/usher/model/Principal$Kind;"⟩ : MethodName)) (a := o110) W116 hx [] (hw _ (List.mem_of_getElem? w_58)) (hw _ (List.mem_of_getElem? w_59)) (nfS (z := (⟨"com/example/usher/usher/model/Principal", "getKind", "()Lcom/example/usher/usher/model/Principal$Kind;"⟩ : MethodName)) (hw _ (List.mem_of_getElem? w_61))) (hw _ (List.mem_of_getElem? w_61)) (hw _ (List.mem_of_getElem? w_60)) (hw _ (List.mem_of_getElem? w_28)) (hw _ (List.mem_of_getElem? w_62)) (by decide) (c_getKind l Z a0 hw hE o110 (.ref kU) h109 W116.old rfl F110) E110 (by rw [hml]; rfl) (lenOf pd_10 rfl) rfl (hb hby at_100) (Nat.le_of_ble_eq_true rfl) (Nat.le_of_ble_eq_true rfl) rfl rfl (Nat.le_of_ble_eq_true rfl) (Nat.le_of_ble_eq_true rfl) rfl fun T117 W117 => ?_
    refine g_aload (pc' := 105) W117.here hx (hb hby at_103) rfl rfl rfl ?_
    refine w_virtualp (pc' := 108) (st := [(.ref kU)]) (y := (⟨"com/example/usher/usher/model/Principal", "getKind", "()Lcom/example/usher/usher/model/Principal$Kind;"⟩ : MethodName)) (z := (⟨"com/example/usher/usher/model/Principal", "getKind", "()Lcom/example/usher/usher/model/Principal$Kind;"⟩ : MethodName)) (a := o108) W117 hx [] (hw _ (List.mem_of_getElem? w_58)) (hw _ (List.mem_of_getElem? w_59)) (nfS (z := (⟨"com/example/usher/usher/model/Principal", "getKind", "()Lcom/example/usher/usher/model/Principal$Kind;"⟩ : MethodName)) (hw _ (List.mem_of_getElem? w_61))) (hw _ (List.mem_of_getElem? w_61)) (hw _ (List.mem_of_getElem? w_60)) (hw _ (List.mem_of_getElem? w_28)) (hw _ (List.mem_of_getElem? w_62)) (by decide) (c_getKind l Z a0 hw hE o108 (.ref kP) h109 W117.old rfl c114) c113 (by rw [hml]; rfl) (lenOf pd_10 rfl) rfl (hb hby at_105) (Nat.le_of_ble_eq_true rfl) (Nat.le_of_ble_eq_true rfl) rfl rfl (Nat.le_of_ble_eq_true rfl) (Nat.le_of_ble_eq_true rfl) rfl fun T118 W118 => ?_
    refine w_acmp (pc' := 111) W118 hx rfl rfl false (hb hby at_108) (decide_eq_false fun q => neK (Value.ref.inj q)) (by decide) (by decide) ?_
    refine g_iconst (1 : Int32) (pc' := 112) W118.here hx (hb hby at_111) rfl rfl ?_
    refine g_goto (pc' := 116) W118.here hx (hb hby at_112) rfl ?_
    refine g_istore (pc' := 118) (Ls' := #[.val (.int p0), .val (.int p1), .val (.int p2), .val (.int p3), .val (.int p4), .val (.int (1 : Int32)), .val .null, .val (.ref o108), .val (.ref o110), .val .null, .val (.int (1 : Int32)), .val (.int (1 : Int32)), .val (.int (1 : Int32))]) W118.here hx (hb hby at_116) rfl rfl ?_
    refine g_iload (pc' := 120) W118.here hx (hb hby at_118) rfl rfl ?_
    refine g_ifN (pc' := 123) W118.here hx (hb hby at_120) rfl (feq (show ¬ ((1 : Int32) = (0 : Int32)) from (by decide))).1 ?_
    refine g_iload (pc' := 125) W118.here hx (hb hby at_123) rfl rfl ?_
    refine g_ifN (pc' := 128) W118.here hx (hb hby at_125) rfl (feq (show ¬ ((1 : Int32) = (0 : Int32)) from (by decide))).1 ?_
    refine g_iload (pc' := 130) W118.here hx (hb hby at_128) rfl rfl ?_
    refine g_ifN (pc' := 133) W118.here hx (hb hby at_130) rfl (feq (show ¬ ((1 : Int32) = (0 : Int32)) from (by decide))).1 ?_
    refine g_iconst (1 : Int32) (pc' := 134) W118.here hx (hb hby at_133) rfl rfl ?_
    refine g_goto (pc' := 138) W118.here hx (hb hby at_134) rfl ?_
    refine w_retN (t := .boolean) W118 hx hh hlk hret (by simp) (hb hby at_138) (Nat.le_of_ble_eq_true rfl) (Nat.le_of_ble_eq_true rfl) ?_
    exact rfl
set_option maxRecDepth 65536 in
set_option maxHeartbeats 40000000 in
theorem comes_1 {Post : Tables → Env → Array Value → State → Outcome → State → Prop} (hpost : ∀ tb e args s v u, (limb_1_1.after args s (.returned v) u = true ∧ limb_1_2.after args s (.returned v) u = true ∧ True) → ReturnedEndW s (.returned v) u (Jvm.fieldLocs frame_1_writes args s ++ Jvm.arrayLocs frame_1_arrays args s ++ Jvm.staticLocs frame_1_statics s) 24 1152 → Post tb e args s (.returned v) u) :
    ArmFor flags0 classFile x code maxLocals ret World_1 tables_1 room_1 Calls_1 rest_1 Pre_1 Post := by
  intro l hfl _ _ p e ha hc hk s m args below hf hA hF happ hP
  obtain ⟨hcalls, hrest, hpre⟩ := hP
  obtain ⟨-, -, -, hnamed, -, -, -, hat⟩ := (Spec.applies_iff hf).mp happ
  obtain ⟨hg, hn⟩ := and_e (Cond.before_iff.mp (show (Jvm.Cond.and given_1 narrow_1).before args s = true from hpre))
  obtain ⟨hg0, hg⟩ := and_e hg
  obtain ⟨w0, w1, w2, w3, w4, rfl⟩ : ∃ w0 w1 w2 w3 w4 : Value, args = #[w0, w1, w2, w3, w4] := by
    have hs : args.size = 5 := by simpa [Cond.value, given_1] using hg0
    obtain ⟨L⟩ := args
    match L, hs with
    | [w0, w1, w2, w3, w4], _ => exact ⟨w0, w1, w2, w3, w4, rfl⟩
  have hw := fun d (hd : d ∈ tables_1) => atoms_spec (ws := Jvm.Cond.code x code maxLocals ret :: tables_1) hat d (List.mem_cons_of_mem _ hd)
  have hfit : Fit s := fun {y c} hc i hi => by
    obtain ⟨ha, rfl⟩ := Array.getElem?_eq_some_iff.mp hc
    have q := List.all_eq_true.mp ((Array.all_eq_true_iff_forall_mem.mp hF) _ (Array.getElem_mem ha)) i (List.mem_range.mpr hi)
    simpa [Array.getElem?_eq_getElem hi] using q
  obtain ⟨hg1, hg⟩ := and_e hg
  obtain ⟨p0, ep0⟩ := is_v hg1
  obtain rfl : w0 = (.int p0) := Option.some.inj ep0
  obtain ⟨hg2, hg⟩ := and_e hg
  obtain ⟨p1, ep1⟩ := is_v hg2
  obtain rfl : w1 = (.int p1) := Option.some.inj ep1
  obtain ⟨hg3, hg⟩ := and_e hg
  obtain ⟨p2, ep2⟩ := is_v hg3
  obtain rfl : w2 = (.int p2) := Option.some.inj ep2
  obtain ⟨hg4, hg⟩ := and_e hg
  obtain ⟨p3, ep3⟩ := is_v hg4
  obtain rfl : w3 = (.int p3) := Option.some.inj ep3
  have hg5 := hg
  obtain ⟨p4, ep4⟩ := is_v hg5
  obtain rfl : w4 = (.int p4) := Option.some.inj ep4
  obtain ⟨n1, hn⟩ := and_e hn
  obtain ⟨n2, hn⟩ := and_e hn
  obtain ⟨n3, hn⟩ := and_e hn
  have n4 := hn
  have hsets := (atoms_of jdkStatics_1 (show (jdkStatics_1.foldr Cond.and restOwn_1).before _ s = true by rw [← rest_1_c_eq]; exact hrest)).1
  have hheld : ∀ p ∈ consts_1, Jvm.Lit.constHeld s p.1 p.2 := hcalls.1
  obtain ⟨kP, eP⟩ := exa_v n1
  obtain ⟨kU, eU⟩ := exa_v n2
  have FU := own_fldI eU n3
  have FP := own_fldI eP n4
  obtain ⟨cc, ecc⟩ := is_v (Cond.before_iff.mp (hsets _ (List.mem_of_getElem? (i := 1) rfl)))
  have hcc : ¬ cc = 0 := fun q => by
    have q1 := not_v (Cond.before_iff.mp (hsets _ (List.mem_of_getElem? (i := 2) rfl)))
    exact absurd q (gotF (Cond.eq_ints ecc (Term.int_eval 0)) q1)
  obtain ⟨fm, efm, hfm⟩ := isR_v (Cond.before_iff.mp (hsets _ (List.mem_of_getElem? (i := 8) rfl)))
  have hG : SEnv s cc fm := ⟨Sta.start ecc (Or.inl (hsets _ (List.mem_of_getElem? (i := 0) rfl))), hcc, Sta.start efm (Or.inl (hsets _ (List.mem_of_getElem? (i := 7) rfl))), hfm⟩
  have hEW : EW s _ consts_1 := (EW.cons (hw _ (List.mem_of_getElem? w_18)) (by decide) EW.nil)
  have hCH : CHv s consts_1 s.vm s.heap := CHv.start hEW hheld (a0 := _) (hsets _ (List.mem_of_getElem? (i := 2) rfl)) (hw _ (List.mem_of_getElem? w_19)) (hw _ (List.mem_of_getElem? w_5))
  obtain ⟨t, o, h1, h2, h3, v, L, rfl, ⟨rfl, N, -⟩, -, hq⟩ := c_law l s _ hw hEW cc fm p0 p1 p2 p3 p4 kU kP s.heap ⟨Nat.le_refl _, fun _ _ q => q⟩ hG (Sta.start eU (Or.inr ⟨(hw _ (List.mem_of_getElem? w_33)), (hw _ (List.mem_of_getElem? w_47))⟩)) (Sta.start eP (Or.inr ⟨(hw _ (List.mem_of_getElem? w_33)), (hw _ (List.mem_of_getElem? w_34))⟩)) (FU.ne FP (by simp))
    p e ha hc hk s m _ below hf ((Spec.applies_iff_loose hf).mp happ).1 ⟨rfl, State.Warmed39.refl s, rfl, hCH, fun _ q => nomatch q⟩ trivial
  refine ⟨t, _, h1, h2, h3, hpost _ _ _ _ _ _ ⟨Cond.after_iff.mpr rfl, Cond.after_iff.mpr (eq_i res_at (Term.int_eval (1)) rfl), trivial⟩ ⟨hq.1, hq.2.1, hq.2.2.1, (hq.2.2.2.sift fun y hy => Or.inr (N y hy)).mono (by decide) (by decide)⟩⟩
theorem main_1_1 : Claimed_1_1 := comes_1 fun _ _ _ _ _ _ h hF => ⟨h.1, hF⟩
theorem main_1_2 : Claimed_1_2 := comes_1 fun _ _ _ _ _ _ h hF => ⟨h.2.1, hF⟩
end Jvm.Pilot.@@N@@
namespace Jvm.Pilot.@@N@@
open Jvm Jvm.ClassFile Sem Op Lib Jvm.Free Jvm.Stand Jvm.Pilot.@@N@@.Jvm.D
/-! MADE BY PROGRAM (witnessworld.py) out of the Statement's table words and the real class files: 22 classes; the members and pool entries that the words name. The judged class is class 1, her method 2. -/
namespace start1
open Jvm.ClassFile
def u (s : String) : CpInfo := .utf8 (stringToUtf16 s)
/-- a pool by its gaps: so many unusable entries, then the entry; so many at the end -/
def gap : Nat → List CpInfo → List CpInfo
  | 0, r => r
  | n + 1, r => .unusable :: gap n r
def poolList (es : List (Nat × CpInfo)) (last : Nat) : List CpInfo := es.foldr (fun e r => gap e.1 (e.2 :: r)) (gap last [])
def pool (es : List (Nat × CpInfo)) (last : Nat) : Array CpInfo := ⟨poolList es last⟩
def fileOf (pool : Array CpInfo) (this : Nat) (attrs : Array Attribute := #[]) (ms : Array MethodInfo := #[]) (fl : Nat := 33) (sup : Nat := 0) (ifs : Array Nat := #[]) (fds : Array FieldInfo := #[]) : ClassFile where
  minorVersion := 0
  majorVersion := 65
  constantPool := pool
  accessFlags := fl
  thisClass := this
  superClass := sup
  interfaces := ifs
  fields := fds
  methods := ms
  attributes := attrs
def plain (name : String) (sup : Option ClassId) : Class where
  name := name
  kind := .ordinary
  loader := none
  accessFlags := 33
  super := sup
  interfaces := #[]
  cf := none
  fields := #[]
  methods := #[]
  instanceTypes := #[]
  staticTypes := #[]
  resolved := #[]
  callSites := []
  init := .initialized
  statics := none
  mirror := none

def pool0 : Array CpInfo := pool [(5, u "<init>"), (0, u "()V"), (1, .class_ 10), (1, u "java/lang/Object")] 113

def k0c0 : Code := { maxStack := 0, maxLocals := 1, code := object_method_1_code, exceptionTable := #[], attributes := #[] }
def k0m0 : Method := { name := "<init>", desc := "()V", sig := { parameters := [], returnType := none }, accessFlags := 1, code := some k0c0 }
/-- java/lang/Object -/
def k0 : Class := { plain "java/lang/Object" none with
  accessFlags := 33
  interfaces := #[]
  cf := some (fileOf pool0 8 #[] #[{ accessFlags := 1, nameIndex := 5, descriptorIndex := 6, attributes := #[] }] 33 0 #[] #[])
  fields := #[]
  methods := #[k0m0]
  instanceTypes := #[]
  staticTypes := #[]
  resolved := Array.replicate 124 none
  statics := none }

def pool1 : Array CpInfo := pool [(2, .class_ 4), (1, u "java/lang/Object"), (0, u "<init>"), (0, u "()V"), (0, .class_ 8), (0, u "java/lang/String"), (0, .methodref 7 10), (0, .nameAndType 5 11), (0, u "([C)V"), (0, .methodref 13 14), (0, .class_ 15), (0, .nameAndType 16 17), (0, u "com/example/usher/usher/model/PrincipalGroupPinLaw"), (0, u "draw"), (0, u "(IIII)Ljava/lang/String;"), (0, .methodref 19 20), (0, .class_ 21), (0, .nameAndType 22 23), (0, u "com/example/usher/usher/model/Principal"), (0, u "group"), (0, u "(Ljava/lang/String;)Lcom/example/usher/usher/model/Principal;"), (0, .methodref 19 25), (0, .nameAndType 26 23), (0, u "user"), (0, .methodref 19 28), (0, .nameAndType 29 30), (0, u "getName"), (0, u "()Ljava/lang/String;"), (0, .methodref 7 32), (0, .nameAndType 33 34), (0, u "equals"), (0, u "(Ljava/lang/Object;)Z"), (0, .methodref 19 36), (0, .nameAndType 37 38), (0, u "getKind"), (0, u "()Lcom/example/usher/usher/model/Principal$Kind;"), (0, .fieldref 40 41), (0, .class_ 42), (0, .nameAndType 43 44), (0, u "com/example/usher/usher/model/Principal$Kind"), (0, u "GROUP"), (0, u "Lcom/example/usher/usher/model/Principal$Kind;"), (3, u "law"), (0, u "(IIIII)Z")] 4

def k1m0 : Method := { name := "<init>", desc := "()V", sig := { parameters := [], returnType := none }, accessFlags := 1, code := none }
def k1c1 : Code := { maxStack := 6, maxLocals := 8, code := method_2_code, exceptionTable := #[], attributes := #[] }
def k1m1 : Method := { name := "draw", desc := "(IIII)Ljava/lang/String;", sig := { parameters := [.int, .int, .int, .int], returnType := some (.object "java/lang/String") }, accessFlags := 10, code := some k1c1 }
def k1c2 : Code := { maxStack := 4, maxLocals := 13, code := code, exceptionTable := #[], attributes := #[] }
def k1m2 : Method := { name := "law", desc := "(IIIII)Z", sig := { parameters := [.int, .int, .int, .int, .int], returnType := some .boolean }, accessFlags := 9, code := some k1c2 }
/-- com/example/usher/usher/model/PrincipalGroupPinLaw -/
def k1 : Class := { plain "com/example/usher/usher/model/PrincipalGroupPinLaw" (some 0) with
  accessFlags := 49
  interfaces := #[]
  cf := some (fileOf pool1 13 #[] #[{ accessFlags := 1, nameIndex := 5, descriptorIndex := 6, attributes := #[] }, { accessFlags := 10, nameIndex := 16, descriptorIndex := 17, attributes := #[] }, { accessFlags := 9, nameIndex := 48, descriptorIndex := 49, attributes := #[] }] 49 2 #[] #[])
  fields := #[]
  methods := #[k1m0, k1m1, k1m2]
  instanceTypes := #[]
  staticTypes := #[]
  resolved := Array.replicate 54 none
  statics := none }

def pool2 : Array CpInfo := pool [(1, .class_ 2), (0, u "java/io/Serializable"), (0, .class_ 4), (0, u "java/lang/Object")] 2

/-- java/io/Serializable -/
def k2 : Class := { plain "java/io/Serializable" (some 0) with
  accessFlags := 1537
  interfaces := #[]
  cf := some (fileOf pool2 1 #[] #[] 1537 3 #[] #[])
  fields := #[]
  methods := #[]
  instanceTypes := #[]
  staticTypes := #[]
  resolved := Array.replicate 7 none
  statics := none }

def pool3 : Array CpInfo := pool [(1, .class_ 2), (0, u "java/lang/Comparable"), (0, .class_ 4), (0, u "java/lang/Object")] 7

/-- java/lang/Comparable -/
def k3 : Class := { plain "java/lang/Comparable" (some 0) with
  accessFlags := 1537
  interfaces := #[]
  cf := some (fileOf pool3 1 #[] #[] 1537 3 #[] #[])
  fields := #[]
  methods := #[]
  instanceTypes := #[]
  staticTypes := #[]
  resolved := Array.replicate 12 none
  statics := none }

def pool4 : Array CpInfo := pool [(2, .class_ 4), (1, u "java/lang/CharSequence"), (42, .class_ 48), (0, u "java/lang/CharSequence$1CodePointIterator"), (10, .class_ 60), (0, u "java/lang/CharSequence$1CharIterator"), (5, .class_ 67), (0, u "java/lang/Object")] 63

/-- java/lang/CharSequence -/
def k4 : Class := { plain "java/lang/CharSequence" (some 0) with
  accessFlags := 1537
  interfaces := #[]
  cf := some (fileOf pool4 2 #[.nestMembers #[47, 59]] #[] 1537 66 #[] #[])
  fields := #[]
  methods := #[]
  instanceTypes := #[]
  staticTypes := #[]
  resolved := Array.replicate 131 none
  statics := none }

def pool5 : Array CpInfo := pool [(1, .class_ 2), (0, u "java/lang/constant/Constable"), (0, .class_ 4), (0, u "java/lang/Object")] 6

/-- java/lang/constant/Constable -/
def k5 : Class := { plain "java/lang/constant/Constable" (some 0) with
  accessFlags := 1537
  interfaces := #[]
  cf := some (fileOf pool5 1 #[] #[] 1537 3 #[] #[])
  fields := #[]
  methods := #[]
  instanceTypes := #[]
  staticTypes := #[]
  resolved := Array.replicate 11 none
  statics := none }

def pool6 : Array CpInfo := pool [(1, .class_ 2), (0, u "java/lang/constant/ConstantDesc"), (0, .class_ 4), (0, u "java/lang/Object")] 32

/-- java/lang/constant/ConstantDesc -/
def k6 : Class := { plain "java/lang/constant/ConstantDesc" (some 0) with
  accessFlags := 1537
  interfaces := #[]
  cf := some (fileOf pool6 1 #[] #[] 1537 3 #[] #[])
  fields := #[]
  methods := #[]
  instanceTypes := #[]
  staticTypes := #[]
  resolved := Array.replicate 37 none
  statics := none }

def pool7 : Array CpInfo := pool [(1, .methodref 2 3), (0, .class_ 4), (0, .nameAndType 5 6), (0, u "java/lang/Object"), (0, u "<init>"), (0, u "()V"), (0, .string 8), (0, u ""), (0, .fieldref 10 11), (0, .class_ 12), (0, .nameAndType 13 14), (0, u "java/lang/String"), (0, u "value"), (0, u "[B"), (0, .fieldref 10 16), (0, .nameAndType 17 18), (0, u "coder"), (0, u "B"), (2, u "hash"), (0, u "I"), (2, u "hashIsZero"), (0, u "Z"), (0, .methodref 10 28), (0, .nameAndType 5 29), (0, u "([CIILjava/lang/Void;)V"), (8, .fieldref 10 39), (0, .nameAndType 40 26), (0, u "COMPACT_STRINGS"), (1, .class_ 44), (1, u "java/lang/StringUTF16"), (0, u "compress"), (1, .methodref 42 48), (0, .nameAndType 49 50), (0, u "coderFromArrayLen"), (0, u "([BI)B"), (126, .methodref 42 178), (0, .nameAndType 45 179), (0, u "([CII)[B"), (363, u "equals"), (29, u "(Ljava/lang/Object;)Z"), (1, .class_ 576), (0, u "java/lang/CharSequence"), (22, u "CASE_INSENSITIVE_ORDER"), (0, u "Ljava/util/Comparator;"), (409, u "([C)V"), (90, u "serialPersistentFields"), (0, u "[Ljava/io/ObjectStreamField;"), (0, .class_ 1104), (0, u "java/lang/String$CaseInsensitiveComparator"), (1, .class_ 1107), (0, u "java/io/Serializable"), (0, .class_ 1109), (0, u "java/lang/Comparable"), (0, .class_ 1111), (0, u "java/lang/constant/Constable"), (0, .class_ 1113), (0, u "java/lang/constant/ConstantDesc"), (2, u "serialVersionUID"), (0, u "J"), (3, u "REPL"), (0, u "C"), (2, u "LATIN1"), (1, u "UTF16")] 323

def k7m0 : Method := { name := "<init>", desc := "()V", sig := { parameters := [], returnType := none }, accessFlags := 1, code := none }
def k7c1 : Code := { maxStack := 5, maxLocals := 2, code := jdk_42_method_3_code, exceptionTable := #[], attributes := #[] }
def k7m1 : Method := { name := "<init>", desc := "([C)V", sig := { parameters := [(.array .char)], returnType := none }, accessFlags := 1, code := some k7c1 }
def k7c2 : Code := { maxStack := 2, maxLocals := 3, code := jdk_42_method_66_code, exceptionTable := #[], attributes := #[] }
def k7m2 : Method := { name := "equals", desc := "(Ljava/lang/Object;)Z", sig := { parameters := [(.object "java/lang/Object")], returnType := some .boolean }, accessFlags := 1, code := some k7c2 }
def k7c3 : Code := { maxStack := 4, maxLocals := 6, code := jdk_42_method_149_code, exceptionTable := #[], attributes := #[] }
def k7m3 : Method := { name := "<init>", desc := "([CIILjava/lang/Void;)V", sig := { parameters := [(.array .char), .int, .int, (.object "java/lang/Void")], returnType := none }, accessFlags := 2, code := some k7c3 }
/-- java/lang/String -/
def k7 : Class := { plain "java/lang/String" (some 0) with
  accessFlags := 49
  interfaces := #[2, 3, 4, 5, 6]
  cf := some (fileOf pool7 10 #[.nestMembers #[1103]] #[{ accessFlags := 1, nameIndex := 5, descriptorIndex := 6, attributes := #[] }, { accessFlags := 1, nameIndex := 5, descriptorIndex := 1010, attributes := #[] }, { accessFlags := 1, nameIndex := 543, descriptorIndex := 573, attributes := #[] }, { accessFlags := 2, nameIndex := 5, descriptorIndex := 29, attributes := #[] }] 49 2 #[1106, 1108, 575, 1110, 1112] #[{ accessFlags := 18, nameIndex := 13, descriptorIndex := 14, attributes := #[] }, { accessFlags := 18, nameIndex := 17, descriptorIndex := 18, attributes := #[] }, { accessFlags := 2, nameIndex := 21, descriptorIndex := 22, attributes := #[] }, { accessFlags := 2, nameIndex := 25, descriptorIndex := 26, attributes := #[] }, { accessFlags := 26, nameIndex := 1116, descriptorIndex := 1117, attributes := #[] }, { accessFlags := 24, nameIndex := 40, descriptorIndex := 26, attributes := #[] }, { accessFlags := 26, nameIndex := 1101, descriptorIndex := 1102, attributes := #[] }, { accessFlags := 26, nameIndex := 1121, descriptorIndex := 1122, attributes := #[] }, { accessFlags := 25, nameIndex := 599, descriptorIndex := 600, attributes := #[] }, { accessFlags := 24, nameIndex := 1125, descriptorIndex := 18, attributes := #[] }, { accessFlags := 24, nameIndex := 1127, descriptorIndex := 18, attributes := #[] }])
  fields := #[{ name := "value", type := (.array .byte), accessFlags := 18, slot := 0, constantValue := 0 }, { name := "coder", type := .byte, accessFlags := 18, slot := 1, constantValue := 0 }, { name := "hash", type := .int, accessFlags := 2, slot := 2, constantValue := 0 }, { name := "hashIsZero", type := .boolean, accessFlags := 2, slot := 3, constantValue := 0 }, { name := "serialVersionUID", type := .long, accessFlags := 26, slot := 0, constantValue := 0 }, { name := "COMPACT_STRINGS", type := .boolean, accessFlags := 24, slot := 1, constantValue := 0 }, { name := "serialPersistentFields", type := (.array (.object "java/io/ObjectStreamField")), accessFlags := 26, slot := 2, constantValue := 0 }, { name := "REPL", type := .char, accessFlags := 26, slot := 3, constantValue := 0 }, { name := "CASE_INSENSITIVE_ORDER", type := (.object "java/util/Comparator"), accessFlags := 25, slot := 4, constantValue := 0 }, { name := "LATIN1", type := .byte, accessFlags := 24, slot := 5, constantValue := 0 }, { name := "UTF16", type := .byte, accessFlags := 24, slot := 6, constantValue := 0 }]
  methods := #[k7m0, k7m1, k7m2, k7m3]
  instanceTypes := #[(.array .byte), .byte, .int, .boolean]
  staticTypes := #[.long, .boolean, (.array (.object "java/io/ObjectStreamField")), .char, (.object "java/util/Comparator"), .byte, .byte]
  resolved := Array.replicate 1451 none
  statics := some 0 }

def pool8 : Array CpInfo := pool [(1, .methodref 2 3), (0, .class_ 4), (0, .nameAndType 5 6), (0, u "java/lang/Object"), (0, u "<init>"), (0, u "()V"), (0, .fieldref 8 9), (0, .class_ 10), (0, .nameAndType 11 12), (0, u "com/example/usher/usher/model/Principal"), (0, u "kind"), (0, u "Lcom/example/usher/usher/model/Principal$Kind;"), (0, .fieldref 8 14), (0, .nameAndType 15 16), (0, u "name"), (0, u "Ljava/lang/String;"), (0, .fieldref 18 19), (0, .class_ 20), (0, .nameAndType 21 12), (0, u "com/example/usher/usher/model/Principal$Kind"), (0, u "USER"), (0, .methodref 8 23), (0, .nameAndType 5 24), (0, u "(Lcom/example/usher/usher/model/Principal$Kind;Ljava/lang/String;)V"), (0, .fieldref 18 26), (0, .nameAndType 27 12), (0, u "GROUP"), (2, u "user"), (0, u "(Ljava/lang/String;)Lcom/example/usher/usher/model/Principal;"), (0, u "group"), (0, u "getKind"), (0, u "()Lcom/example/usher/usher/model/Principal$Kind;"), (0, u "getName"), (0, u "()Ljava/lang/String;")] 5

def k8c0 : Code := { maxStack := 2, maxLocals := 3, code := prog_3_method_1_code, exceptionTable := #[], attributes := #[] }
def k8m0 : Method := { name := "<init>", desc := "(Lcom/example/usher/usher/model/Principal$Kind;Ljava/lang/String;)V", sig := { parameters := [(.object "com/example/usher/usher/model/Principal$Kind"), (.object "java/lang/String")], returnType := none }, accessFlags := 2, code := some k8c0 }
def k8c1 : Code := { maxStack := 4, maxLocals := 1, code := prog_3_method_2_code, exceptionTable := #[], attributes := #[] }
def k8m1 : Method := { name := "user", desc := "(Ljava/lang/String;)Lcom/example/usher/usher/model/Principal;", sig := { parameters := [(.object "java/lang/String")], returnType := some (.object "com/example/usher/usher/model/Principal") }, accessFlags := 9, code := some k8c1 }
def k8c2 : Code := { maxStack := 4, maxLocals := 1, code := prog_3_method_3_code, exceptionTable := #[], attributes := #[] }
def k8m2 : Method := { name := "group", desc := "(Ljava/lang/String;)Lcom/example/usher/usher/model/Principal;", sig := { parameters := [(.object "java/lang/String")], returnType := some (.object "com/example/usher/usher/model/Principal") }, accessFlags := 9, code := some k8c2 }
def k8c3 : Code := { maxStack := 1, maxLocals := 1, code := prog_3_method_4_code, exceptionTable := #[], attributes := #[] }
def k8m3 : Method := { name := "getKind", desc := "()Lcom/example/usher/usher/model/Principal$Kind;", sig := { parameters := [], returnType := some (.object "com/example/usher/usher/model/Principal$Kind") }, accessFlags := 1, code := some k8c3 }
def k8c4 : Code := { maxStack := 1, maxLocals := 1, code := prog_3_method_5_code, exceptionTable := #[], attributes := #[] }
def k8m4 : Method := { name := "getName", desc := "()Ljava/lang/String;", sig := { parameters := [], returnType := some (.object "java/lang/String") }, accessFlags := 1, code := some k8c4 }
/-- com/example/usher/usher/model/Principal -/
def k8 : Class := { plain "com/example/usher/usher/model/Principal" (some 0) with
  accessFlags := 49
  interfaces := #[]
  cf := some (fileOf pool8 8 #[.nestMembers #[18]] #[{ accessFlags := 2, nameIndex := 5, descriptorIndex := 24, attributes := #[] }, { accessFlags := 9, nameIndex := 30, descriptorIndex := 31, attributes := #[] }, { accessFlags := 9, nameIndex := 32, descriptorIndex := 31, attributes := #[] }, { accessFlags := 1, nameIndex := 33, descriptorIndex := 34, attributes := #[] }, { accessFlags := 1, nameIndex := 35, descriptorIndex := 36, attributes := #[] }] 49 2 #[] #[{ accessFlags := 18, nameIndex := 11, descriptorIndex := 12, attributes := #[] }, { accessFlags := 18, nameIndex := 15, descriptorIndex := 16, attributes := #[] }])
  fields := #[{ name := "kind", type := (.object "com/example/usher/usher/model/Principal$Kind"), accessFlags := 18, slot := 0, constantValue := 0 }, { name := "name", type := (.object "java/lang/String"), accessFlags := 18, slot := 1, constantValue := 0 }]
  methods := #[k8m0, k8m1, k8m2, k8m3, k8m4]
  instanceTypes := #[(.object "com/example/usher/usher/model/Principal$Kind"), (.object "java/lang/String")]
  staticTypes := #[]
  resolved := Array.replicate 42 none
  statics := none }

def pool9 : Array CpInfo := pool [(2, .class_ 4), (1, u "java/lang/Enum"), (0, u "name"), (0, u "Ljava/lang/String;"), (2, u "ordinal"), (0, u "I"), (1, .class_ 14), (1, u "java/lang/Object"), (4, u "hash"), (86, .class_ 108), (1, u "java/lang/Enum$EnumDesc"), (2, .class_ 112), (0, u "java/lang/constant/Constable"), (0, .class_ 114), (0, u "java/lang/Comparable"), (0, .class_ 116), (0, u "java/io/Serializable")] 87

/-- java/lang/Enum -/
def k9 : Class := { plain "java/lang/Enum" (some 0) with
  accessFlags := 1057
  interfaces := #[5, 3, 2]
  cf := some (fileOf pool9 2 #[.nestMembers #[106]] #[] 1057 12 #[111, 113, 115] #[{ accessFlags := 18, nameIndex := 5, descriptorIndex := 6, attributes := #[] }, { accessFlags := 18, nameIndex := 9, descriptorIndex := 10, attributes := #[] }, { accessFlags := 2, nameIndex := 19, descriptorIndex := 10, attributes := #[] }])
  fields := #[{ name := "name", type := (.object "java/lang/String"), accessFlags := 18, slot := 0, constantValue := 0 }, { name := "ordinal", type := .int, accessFlags := 18, slot := 1, constantValue := 0 }, { name := "hash", type := .int, accessFlags := 2, slot := 2, constantValue := 0 }]
  methods := #[]
  instanceTypes := #[(.object "java/lang/String"), .int, .int]
  staticTypes := #[]
  resolved := Array.replicate 204 none
  statics := none }

def pool10 : Array CpInfo := pool [(1, .class_ 2), (0, u "com/example/usher/usher/model/Principal$Kind"), (2, u "USER"), (0, u "Lcom/example/usher/usher/model/Principal$Kind;"), (2, u "GROUP"), (2, u "$VALUES"), (0, u "[Lcom/example/usher/usher/model/Principal$Kind;"), (6, .class_ 22), (1, u "java/lang/Enum"), (25, .class_ 49), (0, u "com/example/usher/usher/model/Principal")] 2

/-- com/example/usher/usher/model/Principal$Kind -/
def k10 : Class := { plain "com/example/usher/usher/model/Principal$Kind" (some 9) with
  accessFlags := 16433
  interfaces := #[]
  cf := some (fileOf pool10 1 #[.nestHost 48] #[] 16433 20 #[] #[{ accessFlags := 16409, nameIndex := 5, descriptorIndex := 6, attributes := #[] }, { accessFlags := 16409, nameIndex := 9, descriptorIndex := 6, attributes := #[] }, { accessFlags := 4122, nameIndex := 12, descriptorIndex := 13, attributes := #[] }])
  fields := #[{ name := "USER", type := (.object "com/example/usher/usher/model/Principal$Kind"), accessFlags := 16409, slot := 0, constantValue := 0 }, { name := "GROUP", type := (.object "com/example/usher/usher/model/Principal$Kind"), accessFlags := 16409, slot := 1, constantValue := 0 }, { name := "$VALUES", type := (.array (.object "com/example/usher/usher/model/Principal$Kind")), accessFlags := 4122, slot := 2, constantValue := 0 }]
  methods := #[]
  instanceTypes := #[(.object "java/lang/String"), .int, .int]
  staticTypes := #[(.object "com/example/usher/usher/model/Principal$Kind"), (.object "com/example/usher/usher/model/Principal$Kind"), (.array (.object "com/example/usher/usher/model/Principal$Kind"))]
  resolved := Array.replicate 52 none
  statics := some 1 }

def pool11 : Array CpInfo := pool [(6, .class_ 8), (1, u "java/lang/Object"), (0, u "<init>"), (0, u "()V"), (1, .class_ 14), (1, u "java/lang/StringUTF16"), (31, u "$assertionsDisabled"), (0, u "Z"), (13, u "HI_BYTE_SHIFT"), (0, u "I"), (2, u "LO_BYTE_SHIFT"), (49, .methodref 12 116), (0, .nameAndType 117 118), (0, u "compress"), (0, u "([CI[BII)I"), (3, u "([CII)[B"), (138, u "coderFromArrayLen"), (0, u "([BI)B"), (106, .class_ 371), (1, u "java/lang/StringUTF16$LinesSpliterator"), (58, u "MAX_LENGTH"), (196, .class_ 628), (0, u "java/lang/StringUTF16$CodePointsSpliterator"), (0, .class_ 630), (0, u "java/lang/StringUTF16$CharsSpliterator")] 4

def k11m0 : Method := { name := "<init>", desc := "()V", sig := { parameters := [], returnType := none }, accessFlags := 0, code := none }
def k11c1 : Code := { maxStack := 2, maxLocals := 2, code := jdk_52_method_15_code, exceptionTable := #[], attributes := #[] }
def k11m1 : Method := { name := "coderFromArrayLen", desc := "([BI)B", sig := { parameters := [(.array .byte), .int], returnType := some .byte }, accessFlags := 8, code := some k11c1 }
def k11c2 : Code := { maxStack := 5, maxLocals := 6, code := jdk_52_method_16_code, exceptionTable := #[], attributes := #[] }
def k11m2 : Method := { name := "compress", desc := "([CII)[B", sig := { parameters := [(.array .char), .int, .int], returnType := some (.array .byte) }, accessFlags := 9, code := some k11c2 }
def k11c3 : Code := { maxStack := 3, maxLocals := 7, code := jdk_52_method_21_code, exceptionTable := #[], attributes := #[] }
def k11m3 : Method := { name := "compress", desc := "([CI[BII)I", sig := { parameters := [(.array .char), .int, (.array .byte), .int, .int], returnType := some .int }, accessFlags := 9, code := some k11c3 }
/-- java/lang/StringUTF16 -/
def k11 : Class := { plain "java/lang/StringUTF16" (some 0) with
  accessFlags := 48
  interfaces := #[]
  cf := some (fileOf pool11 12 #[.nestMembers #[627, 629, 369]] #[{ accessFlags := 0, nameIndex := 9, descriptorIndex := 10, attributes := #[] }, { accessFlags := 8, nameIndex := 261, descriptorIndex := 262, attributes := #[] }, { accessFlags := 9, nameIndex := 117, descriptorIndex := 122, attributes := #[] }, { accessFlags := 9, nameIndex := 117, descriptorIndex := 118, attributes := #[] }] 48 6 #[] #[{ accessFlags := 26, nameIndex := 61, descriptorIndex := 62, attributes := #[] }, { accessFlags := 26, nameIndex := 65, descriptorIndex := 62, attributes := #[] }, { accessFlags := 24, nameIndex := 430, descriptorIndex := 62, attributes := #[] }, { accessFlags := 4120, nameIndex := 46, descriptorIndex := 47, attributes := #[] }])
  fields := #[{ name := "HI_BYTE_SHIFT", type := .int, accessFlags := 26, slot := 0, constantValue := 0 }, { name := "LO_BYTE_SHIFT", type := .int, accessFlags := 26, slot := 1, constantValue := 0 }, { name := "MAX_LENGTH", type := .int, accessFlags := 24, slot := 2, constantValue := 0 }, { name := "$assertionsDisabled", type := .boolean, accessFlags := 4120, slot := 3, constantValue := 0 }]
  methods := #[k11m0, k11m1, k11m2, k11m3]
  instanceTypes := #[]
  staticTypes := #[.int, .int, .int, .boolean]
  resolved := Array.replicate 635 none
  statics := none }

def pool12 : Array CpInfo := pool [(4, .class_ 6), (1, u "java/lang/Object"), (0, u "<init>"), (0, u "()V"), (5, .class_ 16), (1, u "java/lang/StringLatin1"), (104, u "$assertionsDisabled"), (0, u "Z"), (98, .class_ 223), (1, u "java/lang/StringLatin1$LinesSpliterator"), (166, .class_ 391), (0, u "java/lang/StringLatin1$CharsSpliterator")] 3

def k12m0 : Method := { name := "<init>", desc := "()V", sig := { parameters := [], returnType := none }, accessFlags := 0, code := none }
/-- java/lang/StringLatin1 -/
def k12 : Class := { plain "java/lang/StringLatin1" (some 0) with
  accessFlags := 48
  interfaces := #[]
  cf := some (fileOf pool12 14 #[.nestMembers #[390, 221]] #[{ accessFlags := 0, nameIndex := 7, descriptorIndex := 8, attributes := #[] }] 48 4 #[] #[{ accessFlags := 4120, nameIndex := 121, descriptorIndex := 122, attributes := #[] }])
  fields := #[{ name := "$assertionsDisabled", type := .boolean, accessFlags := 4120, slot := 0, constantValue := 0 }]
  methods := #[k12m0]
  instanceTypes := #[]
  staticTypes := #[.boolean]
  resolved := Array.replicate 395 none
  statics := none }

def pool13 : Array CpInfo := pool [(2, .class_ 4), (1, u "java/lang/Object"), (0, u "<init>"), (0, u "()V"), (17, .class_ 26), (1, u "jdk/internal/util/Preconditions"), (28, .class_ 56), (0, u "jdk/internal/util/Preconditions$4"), (57, .class_ 115), (0, u "jdk/internal/util/Preconditions$1"), (7, u "SIOOBE_FORMATTER"), (0, u "Ljava/util/function/BiFunction;"), (0, .class_ 126), (0, u "jdk/internal/util/Preconditions$2"), (3, u "AIOOBE_FORMATTER"), (0, .class_ 132), (0, u "jdk/internal/util/Preconditions$3"), (3, u "IOOBE_FORMATTER")] 57

def k13m0 : Method := { name := "<init>", desc := "()V", sig := { parameters := [], returnType := none }, accessFlags := 1, code := none }
/-- jdk/internal/util/Preconditions -/
def k13 : Class := { plain "jdk/internal/util/Preconditions" (some 0) with
  accessFlags := 33
  interfaces := #[]
  cf := some (fileOf pool13 24 #[.nestMembers #[55, 131, 125, 114]] #[{ accessFlags := 1, nameIndex := 5, descriptorIndex := 6, attributes := #[] }] 33 2 #[] #[{ accessFlags := 25, nameIndex := 123, descriptorIndex := 124, attributes := #[] }, { accessFlags := 25, nameIndex := 130, descriptorIndex := 124, attributes := #[] }, { accessFlags := 25, nameIndex := 136, descriptorIndex := 124, attributes := #[] }])
  fields := #[{ name := "SIOOBE_FORMATTER", type := (.object "java/util/function/BiFunction"), accessFlags := 25, slot := 0, constantValue := 0 }, { name := "AIOOBE_FORMATTER", type := (.object "java/util/function/BiFunction"), accessFlags := 25, slot := 1, constantValue := 0 }, { name := "IOOBE_FORMATTER", type := (.object "java/util/function/BiFunction"), accessFlags := 25, slot := 2, constantValue := 0 }]
  methods := #[k13m0]
  instanceTypes := #[]
  staticTypes := #[(.object "java/util/function/BiFunction"), (.object "java/util/function/BiFunction"), (.object "java/util/function/BiFunction")]
  resolved := Array.replicate 194 none
  statics := some 2 }

def pool14 : Array CpInfo := pool [(9, u "<init>"), (6, .class_ 18), (1, u "java/lang/Object"), (0, u "()V"), (1, .class_ 23), (1, u "jdk/internal/util/ArraysSupport"), (0, u "LOG2_ARRAY_LONG_INDEX_SCALE"), (0, u "I"), (2, u "U"), (0, u "Ljdk/internal/misc/Unsafe;"), (8, u "BIG_ENDIAN"), (0, u "Z"), (8, u "LOG2_BYTE_BIT_SIZE"), (4, u "LOG2_ARRAY_INT_INDEX_SCALE"), (54, u "JLA"), (0, u "Ljdk/internal/access/JavaLangAccess;"), (11, u "LOG2_ARRAY_BOOLEAN_INDEX_SCALE"), (9, u "LOG2_ARRAY_BYTE_INDEX_SCALE"), (5, u "LOG2_ARRAY_CHAR_INDEX_SCALE"), (5, u "LOG2_ARRAY_SHORT_INDEX_SCALE"), (18, u "LOG2_ARRAY_FLOAT_INDEX_SCALE"), (24, u "LOG2_ARRAY_DOUBLE_INDEX_SCALE"), (89, u "T_BOOLEAN"), (2, u "T_CHAR"), (1, u "T_FLOAT"), (1, u "T_DOUBLE"), (1, u "T_BYTE"), (1, u "T_SHORT"), (1, u "T_INT"), (1, u "T_LONG"), (1, u "SOFT_MAX_ARRAY_LENGTH")] 83

def k14m0 : Method := { name := "<init>", desc := "()V", sig := { parameters := [], returnType := none }, accessFlags := 2, code := none }
/-- jdk/internal/util/ArraysSupport -/
def k14 : Class := { plain "jdk/internal/util/ArraysSupport" (some 0) with
  accessFlags := 33
  interfaces := #[]
  cf := some (fileOf pool14 21 #[] #[{ accessFlags := 2, nameIndex := 9, descriptorIndex := 19, attributes := #[] }] 33 16 #[] #[{ accessFlags := 24, nameIndex := 28, descriptorIndex := 29, attributes := #[] }, { accessFlags := 26, nameIndex := 38, descriptorIndex := 39, attributes := #[] }, { accessFlags := 25, nameIndex := 121, descriptorIndex := 25, attributes := #[] }, { accessFlags := 25, nameIndex := 131, descriptorIndex := 25, attributes := #[] }, { accessFlags := 25, nameIndex := 137, descriptorIndex := 25, attributes := #[] }, { accessFlags := 25, nameIndex := 143, descriptorIndex := 25, attributes := #[] }, { accessFlags := 25, nameIndex := 53, descriptorIndex := 25, attributes := #[] }, { accessFlags := 25, nameIndex := 24, descriptorIndex := 25, attributes := #[] }, { accessFlags := 25, nameIndex := 162, descriptorIndex := 25, attributes := #[] }, { accessFlags := 25, nameIndex := 187, descriptorIndex := 25, attributes := #[] }, { accessFlags := 26, nameIndex := 48, descriptorIndex := 25, attributes := #[] }, { accessFlags := 25, nameIndex := 277, descriptorIndex := 25, attributes := #[] }, { accessFlags := 25, nameIndex := 280, descriptorIndex := 25, attributes := #[] }, { accessFlags := 25, nameIndex := 282, descriptorIndex := 25, attributes := #[] }, { accessFlags := 25, nameIndex := 284, descriptorIndex := 25, attributes := #[] }, { accessFlags := 25, nameIndex := 286, descriptorIndex := 25, attributes := #[] }, { accessFlags := 25, nameIndex := 288, descriptorIndex := 25, attributes := #[] }, { accessFlags := 25, nameIndex := 290, descriptorIndex := 25, attributes := #[] }, { accessFlags := 25, nameIndex := 292, descriptorIndex := 25, attributes := #[] }, { accessFlags := 26, nameIndex := 108, descriptorIndex := 109, attributes := #[] }, { accessFlags := 25, nameIndex := 294, descriptorIndex := 25, attributes := #[] }])
  fields := #[{ name := "U", type := (.object "jdk/internal/misc/Unsafe"), accessFlags := 24, slot := 0, constantValue := 0 }, { name := "BIG_ENDIAN", type := .boolean, accessFlags := 26, slot := 1, constantValue := 0 }, { name := "LOG2_ARRAY_BOOLEAN_INDEX_SCALE", type := .int, accessFlags := 25, slot := 2, constantValue := 0 }, { name := "LOG2_ARRAY_BYTE_INDEX_SCALE", type := .int, accessFlags := 25, slot := 3, constantValue := 0 }, { name := "LOG2_ARRAY_CHAR_INDEX_SCALE", type := .int, accessFlags := 25, slot := 4, constantValue := 0 }, { name := "LOG2_ARRAY_SHORT_INDEX_SCALE", type := .int, accessFlags := 25, slot := 5, constantValue := 0 }, { name := "LOG2_ARRAY_INT_INDEX_SCALE", type := .int, accessFlags := 25, slot := 6, constantValue := 0 }, { name := "LOG2_ARRAY_LONG_INDEX_SCALE", type := .int, accessFlags := 25, slot := 7, constantValue := 0 }, { name := "LOG2_ARRAY_FLOAT_INDEX_SCALE", type := .int, accessFlags := 25, slot := 8, constantValue := 0 }, { name := "LOG2_ARRAY_DOUBLE_INDEX_SCALE", type := .int, accessFlags := 25, slot := 9, constantValue := 0 }, { name := "LOG2_BYTE_BIT_SIZE", type := .int, accessFlags := 26, slot := 10, constantValue := 0 }, { name := "T_BOOLEAN", type := .int, accessFlags := 25, slot := 11, constantValue := 0 }, { name := "T_CHAR", type := .int, accessFlags := 25, slot := 12, constantValue := 0 }, { name := "T_FLOAT", type := .int, accessFlags := 25, slot := 13, constantValue := 0 }, { name := "T_DOUBLE", type := .int, accessFlags := 25, slot := 14, constantValue := 0 }, { name := "T_BYTE", type := .int, accessFlags := 25, slot := 15, constantValue := 0 }, { name := "T_SHORT", type := .int, accessFlags := 25, slot := 16, constantValue := 0 }, { name := "T_INT", type := .int, accessFlags := 25, slot := 17, constantValue := 0 }, { name := "T_LONG", type := .int, accessFlags := 25, slot := 18, constantValue := 0 }, { name := "JLA", type := (.object "jdk/internal/access/JavaLangAccess"), accessFlags := 26, slot := 19, constantValue := 0 }, { name := "SOFT_MAX_ARRAY_LENGTH", type := .int, accessFlags := 25, slot := 20, constantValue := 0 }]
  methods := #[k14m0]
  instanceTypes := #[]
  staticTypes := #[(.object "jdk/internal/misc/Unsafe"), .boolean, .int, .int, .int, .int, .int, .int, .int, .int, .int, .int, .int, .int, .int, .int, .int, .int, .int, (.object "jdk/internal/access/JavaLangAccess"), .int]
  resolved := Array.replicate 378 none
  statics := none }

def pool15 : Array CpInfo := pool [(1, u "java/lang/Cloneable"), (0, .class_ 1), (0, u "java/lang/Object"), (0, .class_ 3)] 3

/-- java/lang/Cloneable -/
def k15 : Class := { plain "java/lang/Cloneable" (some 0) with
  accessFlags := 1537
  interfaces := #[]
  cf := some (fileOf pool15 2 #[] #[] 1537 4 #[] #[])
  fields := #[]
  methods := #[]
  instanceTypes := #[]
  staticTypes := #[]
  resolved := Array.replicate 8 none
  statics := none }

/-- the primitive byte -/
def k16 : Class := { plain "byte" none with kind := .primitive 'B', accessFlags := 0x411 }
/-- [B -/
def k17 : Class := { plain "[B" (some 0) with kind := .array 16 .byte, interfaces := #[15, 2], accessFlags := 1041 }

/-- the primitive char -/
def k18 : Class := { plain "char" none with kind := .primitive 'C', accessFlags := 0x411 }
/-- [C -/
def k19 : Class := { plain "[C" (some 0) with kind := .array 18 .char, interfaces := #[15, 2], accessFlags := 1041 }

/-- the primitive int -/
def k20 : Class := { plain "int" none with kind := .primitive 'I', accessFlags := 0x411 }
/-- [I -/
def k21 : Class := { plain "[I" (some 0) with kind := .array 20 .int, interfaces := #[15, 2], accessFlags := 1041 }

def heap : Heap := #[{ cls := 7, slots := #[.long 0, .int 1, .null, .int 0, .null, .int 0, .int 0], vm := .statics 7 },
  { cls := 10, slots := #[.ref 3, .ref 4, .null], vm := .statics 10 },
  { cls := 13, slots := #[.null, .null, .null], vm := .statics 13 },
  { cls := 10, slots := #[.null, .int 0, .int 0], vm := .none },
  { cls := 10, slots := #[.null, .int 1, .int 0], vm := .none }]
def classes : Array Class := #[k0, k1, k2, k3, k4, k5, k6, k7, k8, k9, k10, k11, k12, k13, k14, k15, k16, k17, k18, k19, k20, k21]
def interned : List (Array UInt16 × Addr) := []
def slotsUsed : Nat := 19
def theMethod : MethodId := ⟨1, 2⟩
def args0 : Array Value := #[.int 2, .int 65, .int 66, .int 67, .int 0]
def aboutOver (below : List Frame) : State where
  vm := { classes := classes, interned := interned.toArray }
  heap := heap
  slotsUsed := slotsUsed
  threads := #[{ frames := .invoking theMethod args0 :: below }]
def below0 : List Frame := [.native { method := ⟨0, 0⟩, args := #[] }]
def about1 : State := aboutOver below0
def p0 : Program := .bare "" "" ""
def e0 : Env := launch0.env 0 0 0
theorem w_frames : about1.frames = Frame.invoking theMethod args0 :: below0 := rfl
set_option maxRecDepth 65536 in
theorem w_args : argsFit about1.vm theMethod args0 = true := by decide +kernel
set_option maxRecDepth 65536 in
theorem w_heap : heapFits about1 = true := by decide +kernel
set_option maxRecDepth 65536 in
theorem w_runnable : about1.curStatus? = some .runnable := by decide +kernel
set_option maxRecDepth 65536 in
theorem w_alone : about1.alone = true := by decide +kernel
set_option maxRecDepth 65536 in
theorem w_named : about1.methodNamed? x = some theMethod := by decide +kernel
set_option maxRecDepth 65536 in
theorem w_hears : about1.hears theMethod below0 = true := by decide +kernel
set_option maxRecDepth 65536 in
theorem w_ripe : about1.ripe theMethod args0 below0 = true := by decide +kernel
theorem w_running : about1.status = .running := rfl
set_option maxRecDepth 65536 in
theorem w_room : about1.hasRoom e0.platform room_1 = true :=
  launch0.hasRoom_least _ room_1 (by decide +kernel) (by decide +kernel) (by decide +kernel) (by decide +kernel) (by decide +kernel) (by decide +kernel)
theorem allAtoms_all (ts : List Jvm.Cond) (a : Array Jvm.Value) (st : Jvm.State) : (allAtoms ts).before a st = ts.all (fun c => c.before a st) := by
  induction ts with
  | nil => rfl
  | cons c t ih =>
    show (Jvm.Cond.and c (allAtoms t)).before a st = _
    rw [Jvm.Cond.before_and, ih, List.all_cons]
def words1 : List Jvm.Cond := Jvm.Cond.code x code maxLocals ret :: tables_1
/-- a 'code' word, met by the world's own term for the bytes: nothing is compared byte by byte -/
theorem code_word {y : MethodName} {bytes : ByteArray} {mx : Nat} {rt : Option FieldType} {a : Array Value} {s : State} {m : MethodId} {meth : Method} {c : Code} (h1 : s.methodNamed? y = some m) (h2 : s.vm.method? m = some meth) (h3 : meth.code = some c) (h4 : c.code = bytes)
    (h5 : (c.maxLocals == mx && c.exceptionTable.isEmpty && decide (c.maxStack ≤ mostOperands) && decide (meth.sig.returnType = rt) && !meth.locks && decide (parseMethodDescriptor y.desc = some meth.sig)) = true) : (Jvm.Cond.code y bytes mx rt).before a s = true := by
  simp only [Bool.and_eq_true, beq_iff_eq, Bool.not_eq_true', decide_eq_true_eq] at h5
  obtain ⟨⟨⟨⟨⟨g1, g2⟩, g3⟩, g4⟩, g5⟩, g6⟩ := h5
  simp [Cond.before, Cond.holds, Cond.value, h1, h2, h3, h4, g1, g2, g3, g4, g5, g6]
def isCode : Jvm.Cond → Bool
  | .code _ _ _ _ => true
  | _ => false
theorem all_split {L : List Jvm.Cond} {P : Jvm.Cond → Bool} (h1 : L.all (fun c => isCode c || P c) = true) (h2 : ∀ c ∈ L.filter isCode, P c = true) : L.all P = true := by
  refine List.all_eq_true.mpr fun c hc => ?_
  have h := List.all_eq_true.mp h1 c hc
  rcases Bool.eq_false_or_eq_true (isCode c) with hi | hi
  · exact h2 c (List.mem_filter.mpr ⟨hc, hi⟩)
  · simpa [hi] using h
set_option maxRecDepth 65536 in
theorem w_c0 : (Jvm.Cond.code x code maxLocals ret).before args0 about1 = true := code_word (m := ⟨1, 2⟩) (meth := k1m2) (c := k1c2) (by decide +kernel) rfl rfl rfl (by decide +kernel)
set_option maxRecDepth 65536 in
theorem w_c1 : (Jvm.Cond.code ({ cls := "com/example/usher/usher/model/PrincipalGroupPinLaw", name := "draw", desc := "(IIII)Ljava/lang/String;" } : Jvm.MethodName) method_2_code (8 : Nat) (Option.some (Jvm.ClassFile.FieldType.object "java/lang/String"))).before args0 about1 = true := code_word (m := ⟨1, 1⟩) (meth := k1m1) (c := k1c1) (by decide +kernel) rfl rfl rfl (by decide +kernel)
set_option maxRecDepth 65536 in
theorem w_c2 : (Jvm.Cond.code ({ cls := "java/lang/String", name := "<init>", desc := "([C)V" } : Jvm.MethodName) jdk_42_method_3_code (2 : Nat) (Option.none : Option Jvm.ClassFile.FieldType)).before args0 about1 = true := code_word (m := ⟨7, 1⟩) (meth := k7m1) (c := k7c1) (by decide +kernel) rfl rfl rfl (by decide +kernel)
set_option maxRecDepth 65536 in
theorem w_c3 : (Jvm.Cond.code ({ cls := "java/lang/String", name := "<init>", desc := "([CIILjava/lang/Void;)V" } : Jvm.MethodName) jdk_42_method_149_code (6 : Nat) (Option.none : Option Jvm.ClassFile.FieldType)).before args0 about1 = true := code_word (m := ⟨7, 3⟩) (meth := k7m3) (c := k7c3) (by decide +kernel) rfl rfl rfl (by decide +kernel)
set_option maxRecDepth 65536 in
theorem w_c4 : (Jvm.Cond.code ({ cls := "java/lang/Object", name := "<init>", desc := "()V" } : Jvm.MethodName) object_method_1_code (1 : Nat) (Option.none : Option Jvm.ClassFile.FieldType)).before args0 about1 = true := code_word (m := ⟨0, 0⟩) (meth := k0m0) (c := k0c0) (by decide +kernel) rfl rfl rfl (by decide +kernel)
set_option maxRecDepth 65536 in
theorem w_c5 : (Jvm.Cond.code ({ cls := "com/example/usher/usher/model/Principal", name := "group", desc := "(Ljava/lang/String;)Lcom/example/usher/usher/model/Principal;" } : Jvm.MethodName) prog_3_method_3_code (1 : Nat) (Option.some (Jvm.ClassFile.FieldType.object "com/example/usher/usher/model/Principal"))).before args0 about1 = true := code_word (m := ⟨8, 2⟩) (meth := k8m2) (c := k8c2) (by decide +kernel) rfl rfl rfl (by decide +kernel)
set_option maxRecDepth 65536 in
theorem w_c6 : (Jvm.Cond.code ({ cls := "com/example/usher/usher/model/Principal", name := "<init>", desc := "(Lcom/example/usher/usher/model/Principal$Kind;Ljava/lang/String;)V" } : Jvm.MethodName) prog_3_method_1_code (3 : Nat) (Option.none : Option Jvm.ClassFile.FieldType)).before args0 about1 = true := code_word (m := ⟨8, 0⟩) (meth := k8m0) (c := k8c0) (by decide +kernel) rfl rfl rfl (by decide +kernel)
set_option maxRecDepth 65536 in
theorem w_c7 : (Jvm.Cond.code ({ cls := "com/example/usher/usher/model/Principal", name := "user", desc := "(Ljava/lang/String;)Lcom/example/usher/usher/model/Principal;" } : Jvm.MethodName) prog_3_method_2_code (1 : Nat) (Option.some (Jvm.ClassFile.FieldType.object "com/example/usher/usher/model/Principal"))).before args0 about1 = true := code_word (m := ⟨8, 1⟩) (meth := k8m1) (c := k8c1) (by decide +kernel) rfl rfl rfl (by decide +kernel)
set_option maxRecDepth 65536 in
theorem w_c8 : (Jvm.Cond.code ({ cls := "com/example/usher/usher/model/Principal", name := "getName", desc := "()Ljava/lang/String;" } : Jvm.MethodName) prog_3_method_5_code (1 : Nat) (Option.some (Jvm.ClassFile.FieldType.object "java/lang/String"))).before args0 about1 = true := code_word (m := ⟨8, 4⟩) (meth := k8m4) (c := k8c4) (by decide +kernel) rfl rfl rfl (by decide +kernel)
set_option maxRecDepth 65536 in
theorem w_c9 : (Jvm.Cond.code ({ cls := "java/lang/String", name := "equals", desc := "(Ljava/lang/Object;)Z" } : Jvm.MethodName) jdk_42_method_66_code (3 : Nat) (Option.some Jvm.ClassFile.FieldType.boolean)).before args0 about1 = true := code_word (m := ⟨7, 2⟩) (meth := k7m2) (c := k7c2) (by decide +kernel) rfl rfl rfl (by decide +kernel)
set_option maxRecDepth 65536 in
theorem w_c10 : (Jvm.Cond.code ({ cls := "com/example/usher/usher/model/Principal", name := "getKind", desc := "()Lcom/example/usher/usher/model/Principal$Kind;" } : Jvm.MethodName) prog_3_method_4_code (1 : Nat) (Option.some (Jvm.ClassFile.FieldType.object "com/example/usher/usher/model/Principal$Kind"))).before args0 about1 = true := code_word (m := ⟨8, 3⟩) (meth := k8m3) (c := k8c3) (by decide +kernel) rfl rfl rfl (by decide +kernel)
set_option maxRecDepth 65536 in
theorem w_c11 : (Jvm.Cond.code ({ cls := "java/lang/StringUTF16", name := "compress", desc := "([CII)[B" } : Jvm.MethodName) jdk_52_method_16_code (6 : Nat) (Option.some (Jvm.ClassFile.FieldType.array Jvm.ClassFile.FieldType.byte))).before args0 about1 = true := code_word (m := ⟨11, 2⟩) (meth := k11m2) (c := k11c2) (by decide +kernel) rfl rfl rfl (by decide +kernel)
set_option maxRecDepth 65536 in
theorem w_c12 : (Jvm.Cond.code ({ cls := "java/lang/StringUTF16", name := "compress", desc := "([CI[BII)I" } : Jvm.MethodName) jdk_52_method_21_code (7 : Nat) (Option.some Jvm.ClassFile.FieldType.int)).before args0 about1 = true := code_word (m := ⟨11, 3⟩) (meth := k11m3) (c := k11c3) (by decide +kernel) rfl rfl rfl (by decide +kernel)
set_option maxRecDepth 65536 in
theorem w_c13 : (Jvm.Cond.code ({ cls := "java/lang/StringUTF16", name := "coderFromArrayLen", desc := "([BI)B" } : Jvm.MethodName) jdk_52_method_15_code (2 : Nat) (Option.some Jvm.ClassFile.FieldType.byte)).before args0 about1 = true := code_word (m := ⟨11, 1⟩) (meth := k11m1) (c := k11c1) (by decide +kernel) rfl rfl rfl (by decide +kernel)
def codes1 : List Jvm.Cond := [Jvm.Cond.code x code maxLocals ret, Jvm.Cond.code ({ cls := "com/example/usher/usher/model/PrincipalGroupPinLaw", name := "draw", desc := "(IIII)Ljava/lang/String;" } : Jvm.MethodName) method_2_code (8 : Nat) (Option.some (Jvm.ClassFile.FieldType.object "java/lang/String")), Jvm.Cond.code ({ cls := "java/lang/String", name := "<init>", desc := "([C)V" } : Jvm.MethodName) jdk_42_method_3_code (2 : Nat) (Option.none : Option Jvm.ClassFile.FieldType), Jvm.Cond.code ({ cls := "java/lang/String", name := "<init>", desc := "([CIILjava/lang/Void;)V" } : Jvm.MethodName) jdk_42_method_149_code (6 : Nat) (Option.none : Option Jvm.ClassFile.FieldType), Jvm.Cond.code ({ cls := "java/lang/Object", name := "<init>", desc := "()V" } : Jvm.MethodName) object_method_1_code (1 : Nat) (Option.none : Option Jvm.ClassFile.FieldType), Jvm.Cond.code ({ cls := "com/example/usher/usher/model/Principal", name := "group", desc := "(Ljava/lang/String;)Lcom/example/usher/usher/model/Principal;" } : Jvm.MethodName) prog_3_method_3_code (1 : Nat) (Option.some (Jvm.ClassFile.FieldType.object "com/example/usher/usher/model/Principal")), Jvm.Cond.code ({ cls := "com/example/usher/usher/model/Principal", name := "<init>", desc := "(Lcom/example/usher/usher/model/Principal$Kind;Ljava/lang/String;)V" } : Jvm.MethodName) prog_3_method_1_code (3 : Nat) (Option.none : Option Jvm.ClassFile.FieldType), Jvm.Cond.code ({ cls := "com/example/usher/usher/model/Principal", name := "user", desc := "(Ljava/lang/String;)Lcom/example/usher/usher/model/Principal;" } : Jvm.MethodName) prog_3_method_2_code (1 : Nat) (Option.some (Jvm.ClassFile.FieldType.object "com/example/usher/usher/model/Principal")), Jvm.Cond.code ({ cls := "com/example/usher/usher/model/Principal", name := "getName", desc := "()Ljava/lang/String;" } : Jvm.MethodName) prog_3_method_5_code (1 : Nat) (Option.some (Jvm.ClassFile.FieldType.object "java/lang/String")), Jvm.Cond.code ({ cls := "java/lang/String", name := "equals", desc := "(Ljava/lang/Object;)Z" } : Jvm.MethodName) jdk_42_method_66_code (3 : Nat) (Option.some Jvm.ClassFile.FieldType.boolean), Jvm.Cond.code ({ cls := "com/example/usher/usher/model/Principal", name := "getKind", desc := "()Lcom/example/usher/usher/model/Principal$Kind;" } : Jvm.MethodName) prog_3_method_4_code (1 : Nat) (Option.some (Jvm.ClassFile.FieldType.object "com/example/usher/usher/model/Principal$Kind")), Jvm.Cond.code ({ cls := "java/lang/StringUTF16", name := "compress", desc := "([CII)[B" } : Jvm.MethodName) jdk_52_method_16_code (6 : Nat) (Option.some (Jvm.ClassFile.FieldType.array Jvm.ClassFile.FieldType.byte)), Jvm.Cond.code ({ cls := "java/lang/StringUTF16", name := "compress", desc := "([CI[BII)I" } : Jvm.MethodName) jdk_52_method_21_code (7 : Nat) (Option.some Jvm.ClassFile.FieldType.int), Jvm.Cond.code ({ cls := "java/lang/StringUTF16", name := "coderFromArrayLen", desc := "([BI)B" } : Jvm.MethodName) jdk_52_method_15_code (2 : Nat) (Option.some Jvm.ClassFile.FieldType.byte)]
set_option maxRecDepth 65536 in
theorem codes_eq : words1.filter isCode = codes1 := rfl
theorem w_codes : ∀ c ∈ words1.filter isCode, c.before args0 about1 = true := by
  rw [codes_eq]
  intro c hc
  simp only [codes1, List.mem_cons, List.not_mem_nil, or_false] at hc
  rcases hc with rfl | rfl | rfl | rfl | rfl | rfl | rfl | rfl | rfl | rfl | rfl | rfl | rfl | rfl
  · exact w_c0
  · exact w_c1
  · exact w_c2
  · exact w_c3
  · exact w_c4
  · exact w_c5
  · exact w_c6
  · exact w_c7
  · exact w_c8
  · exact w_c9
  · exact w_c10
  · exact w_c11
  · exact w_c12
  · exact w_c13
set_option maxRecDepth 65536 in
theorem w_t1 : (words1.take 24).all (fun c => isCode c || c.before args0 about1) = true := by decide +kernel
set_option maxRecDepth 65536 in
theorem w_t2 : ((words1.drop 24).take 24).all (fun c => isCode c || c.before args0 about1) = true := by decide +kernel
set_option maxRecDepth 65536 in
theorem w_t3 : (((words1.drop 24).drop 24).take 24).all (fun c => isCode c || c.before args0 about1) = true := by decide +kernel
set_option maxRecDepth 65536 in
theorem w_t4 : (((words1.drop 24).drop 24).drop 24).all (fun c => isCode c || c.before args0 about1) = true := by decide +kernel
theorem w_tables : (allAtoms (Jvm.Cond.code x code maxLocals ret :: tables_1)).before args0 about1 = true := by
  rw [allAtoms_all]
  show words1.all (fun c => c.before args0 about1) = true
  refine all_split ?_ w_codes
  rw [← List.take_append_drop 24 words1, List.all_append, w_t1, ← List.take_append_drop 24 (words1.drop 24), List.all_append, w_t2, ← List.take_append_drop 24 ((words1.drop 24).drop 24), List.all_append, w_t3, w_t4]
  rfl
set_option maxRecDepth 65536 in
theorem w_rest : rest_1_c.before args0 about1 = true := by decide +kernel
set_option maxRecDepth 65536 in
theorem w_case : (Jvm.Cond.and given_1 narrow_1).before args0 about1 = true := by decide +kernel
set_option maxRecDepth 65536 in
theorem w_consts : constsHeld consts_1 about1 := Jvm.Lit.constsHeldB_iff.mp (by decide +kernel)
theorem w_applies : (headSpec (Jvm.Cond.code x code maxLocals ret :: tables_1) room_1).applies x e0.platform about1 = true :=
  (Spec.applies_iff w_frames).mpr ⟨w_running, w_runnable, w_alone, w_named, w_hears, w_ripe, w_room, w_tables⟩
theorem atStart : AtStart classFile x code maxLocals ret World_1 tables_1 room_1 Calls_1 rest_1 Pre_1 launch0 p0 e0 about1 theMethod args0 below0 :=
  ⟨lists_1, trivial, launch0.admits_env _ _ _, launch0.least_env, fairChoices_fair.cas, fairChoices_fair.clock, w_frames, w_args, w_heap, w_applies, ⟨w_consts, trivial⟩, w_rest, w_case⟩
end start1
theorem witness_1 : WitnessClaimed_1 := ⟨start1.p0, start1.e0, start1.about1, start1.theMethod, start1.args0, start1.below0, start1.atStart⟩
end Jvm.Pilot.@@N@@
