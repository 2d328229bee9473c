import JvmDerived
import JvmDerived.Pilot.@@N@@Statement
import JvmDerived.Pilot.@@N@@Code
set_option linter.unusedVariables false
set_option linter.unusedSimpArgs false
namespace Jvm.Pilot.@@N@@
open Jvm Jvm.ClassFile Sem Op Lib Jvm.Free Jvm.Stand Jvm.LawKit Jvm.RoadKit Bundle Jvm.Pilot.@@N@@.Jvm.D
section OwnBase
def Gets (tb : Tables) (e : Env) (below : List Frame) (P : Outcome → State → Prop) (T : State) (g : JFrame) : Prop := ∃ t o, Steps tb e below (T.setTop g) t ∧ t.status = .running ∧ Ended t below o ∧ P o t
theorem Gets.by {tb : Tables} {e : Env} {below : List Frame} {P : Outcome → State → Prop} {T T' : State} {g g' : JFrame} (h : Gets tb e below P T' g') (k : ∀ t, Steps tb e below (T'.setTop g') t → Steps tb e below (T.setTop g) t) : Gets tb e below P T g := by
  obtain ⟨t, o, h1, h2⟩ := h
  exact ⟨t, o, k t h1, h2⟩
theorem g_iloadN {tb : Tables} [Ours tb] {e : Env} {below : List Frame} {T : State} {m : MethodId} {c : Code} {P : Outcome → State → Prop} {pc pc' : Nat} {Ls : Array Slot} {st : List Value} {j : Fin 4} {v : Int32} (H : At T m c below) (hx : tb.exec = Jvm.exec) (hd : decode c.code pc = .ok (.iload_n j, 1)) (hl : Ls[j.val]? = some (.val (.int v))) (hp : pc + 1 = pc')
    (k : Gets tb e below P T (mkF m pc' Ls (.int v :: st))) : Gets tb e below P T (mkF m pc Ls (st)) := by
  subst hp; refine k.by fun t qq => ?_; exact XS.iloadN H hx rfl hd hl qq
theorem g_iload {tb : Tables} [Ours tb] {e : Env} {below : List Frame} {T : State} {m : MethodId} {c : Code} {P : Outcome → State → Prop} {pc pc' : Nat} {Ls : Array Slot} {st : List Value} {j : Nat} {v : Int32} (H : At T m c below) (hx : tb.exec = Jvm.exec) (hd : decode c.code pc = .ok (.iload j, 2)) (hl : Ls[j]? = some (.val (.int v))) (hp : pc + 2 = pc')
    (k : Gets tb e below P T (mkF m pc' Ls (.int v :: st))) : Gets tb e below P T (mkF m pc Ls (st)) := by
  subst hp; refine k.by fun t qq => ?_; exact XS.iload H hx rfl hd hl qq
theorem g_istoreN {tb : Tables} [Ours tb] {e : Env} {below : List Frame} {T : State} {m : MethodId} {c : Code} {P : Outcome → State → Prop} {pc pc' : Nat} {Ls : Array Slot} {st : List Value} {j : Fin 4} {v : Int32} {Ls' : Array Slot} (H : At T m c below) (hx : tb.exec = Jvm.exec) (hd : decode c.code pc = .ok (.istore_n j, 1)) (hl : storeLocals Ls j.val (.int v) = some Ls') (hp : pc + 1 = pc')
    (k : Gets tb e below P T (mkF m pc' Ls' (st))) : Gets tb e below P T (mkF m pc Ls (.int v :: st)) := by
  subst hp; refine k.by fun t qq => ?_; exact XS.istoreN H hx rfl hd rfl hl qq
theorem g_istore {tb : Tables} [Ours tb] {e : Env} {below : List Frame} {T : State} {m : MethodId} {c : Code} {P : Outcome → State → Prop} {pc pc' : Nat} {Ls : Array Slot} {st : List Value} {j : Nat} {v : Int32} {Ls' : Array Slot} (H : At T m c below) (hx : tb.exec = Jvm.exec) (hd : decode c.code pc = .ok (.istore j, 2)) (hl : storeLocals Ls j (.int v) = some Ls') (hp : pc + 2 = pc')
    (k : Gets tb e below P T (mkF m pc' Ls' (st))) : Gets tb e below P T (mkF m pc Ls (.int v :: st)) := by
  subst hp; refine k.by fun t qq => ?_; exact XS.istore H hx rfl hd rfl hl qq
theorem g_lloadN {tb : Tables} [Ours tb] {e : Env} {below : List Frame} {T : State} {m : MethodId} {c : Code} {P : Outcome → State → Prop} {pc pc' : Nat} {Ls : Array Slot} {st : List Value} {j : Fin 4} {v : Int64} (H : At T m c below) (hx : tb.exec = Jvm.exec) (hd : decode c.code pc = .ok (.lload_n j, 1)) (hl : Ls[j.val]? = some (.val (.long v))) (hp : pc + 1 = pc')
    (k : Gets tb e below P T (mkF m pc' Ls (.long v :: st))) : Gets tb e below P T (mkF m pc Ls (st)) := by
  subst hp; refine k.by fun t qq => ?_; exact XS.lloadN H hx rfl hd hl qq
theorem g_lload {tb : Tables} [Ours tb] {e : Env} {below : List Frame} {T : State} {m : MethodId} {c : Code} {P : Outcome → State → Prop} {pc pc' : Nat} {Ls : Array Slot} {st : List Value} {j : Nat} {v : Int64} (H : At T m c below) (hx : tb.exec = Jvm.exec) (hd : decode c.code pc = .ok (.lload j, 2)) (hl : Ls[j]? = some (.val (.long v))) (hp : pc + 2 = pc')
    (k : Gets tb e below P T (mkF m pc' Ls (.long v :: st))) : Gets tb e below P T (mkF m pc Ls (st)) := by
  subst hp; refine k.by fun t qq => ?_; exact XS.lload H hx rfl hd hl qq
theorem g_aloadN {tb : Tables} [Ours tb] {e : Env} {below : List Frame} {T : State} {m : MethodId} {c : Code} {P : Outcome → State → Prop} {pc pc' : Nat} {Ls : Array Slot} {st : List Value} {j : Fin 4} {v : Value} (H : At T m c below) (hx : tb.exec = Jvm.exec) (hd : decode c.code pc = .ok (.aload_n j, 1)) (hl : Ls[j.val]? = some (.val v)) (hv : v.isRef = true) (hp : pc + 1 = pc')
    (k : Gets tb e below P T (mkF m pc' Ls (v :: st))) : Gets tb e below P T (mkF m pc Ls (st)) := by
  subst hp; refine k.by fun t qq => ?_; exact XS.aloadN H hx rfl hd hl hv qq
theorem g_aload {tb : Tables} [Ours tb] {e : Env} {below : List Frame} {T : State} {m : MethodId} {c : Code} {P : Outcome → State → Prop} {pc pc' : Nat} {Ls : Array Slot} {st : List Value} {j : Nat} {v : Value} (H : At T m c below) (hx : tb.exec = Jvm.exec) (hd : decode c.code pc = .ok (.aload j, 2)) (hl : Ls[j]? = some (.val v)) (hv : v.isRef = true) (hp : pc + 2 = pc')
    (k : Gets tb e below P T (mkF m pc' Ls (v :: st))) : Gets tb e below P T (mkF m pc Ls (st)) := by
  subst hp; refine k.by fun t qq => ?_; exact XS.aload H hx rfl hd hl hv qq
theorem g_astoreN {tb : Tables} [Ours tb] {e : Env} {below : List Frame} {T : State} {m : MethodId} {c : Code} {P : Outcome → State → Prop} {pc pc' : Nat} {Ls : Array Slot} {st : List Value} {j : Fin 4} {v : Value} {Ls' : Array Slot} (H : At T m c below) (hx : tb.exec = Jvm.exec) (hd : decode c.code pc = .ok (.astore_n j, 1)) (hv : v.isRef = true) (hl : storeLocals Ls j.val v = some Ls') (hp : pc + 1 = pc')
    (k : Gets tb e below P T (mkF m pc' Ls' (st))) : Gets tb e below P T (mkF m pc Ls (v :: st)) := by
  subst hp; refine k.by fun t qq => ?_; exact XS.astoreN H hx rfl hd rfl hv hl qq
theorem g_astore {tb : Tables} [Ours tb] {e : Env} {below : List Frame} {T : State} {m : MethodId} {c : Code} {P : Outcome → State → Prop} {pc pc' : Nat} {Ls : Array Slot} {st : List Value} {j : Nat} {v : Value} {Ls' : Array Slot} (H : At T m c below) (hx : tb.exec = Jvm.exec) (hd : decode c.code pc = .ok (.astore j, 2)) (hv : v.isRef = true) (hl : storeLocals Ls j v = some Ls') (hp : pc + 2 = pc')
    (k : Gets tb e below P T (mkF m pc' Ls' (st))) : Gets tb e below P T (mkF m pc Ls (v :: st)) := by
  subst hp; refine k.by fun t qq => ?_; exact XS.astore H hx rfl hd rfl hv hl qq
theorem g_iconst {tb : Tables} [Ours tb] {e : Env} {below : List Frame} {T : State} {m : MethodId} {c : Code} {P : Outcome → State → Prop} {pc pc' : Nat} {Ls : Array Slot} {st : List Value} {i : Int} (v : Int32) (H : At T m c below) (hx : tb.exec = Jvm.exec) (hd : decode c.code pc = .ok (.iconst i, 1)) (hv : Int32.ofInt i = v) (hp : pc + 1 = pc')
    (k : Gets tb e below P T (mkF m pc' Ls (.int v :: st))) : Gets tb e below P T (mkF m pc Ls st) := by
  subst hp; subst hv; refine k.by fun t qq => ?_; exact XS.iconst H hx rfl hd qq
theorem g_bipush {tb : Tables} [Ours tb] {e : Env} {below : List Frame} {T : State} {m : MethodId} {c : Code} {P : Outcome → State → Prop} {pc pc' : Nat} {Ls : Array Slot} {st : List Value} {i : Int} (v : Int32) (H : At T m c below) (hx : tb.exec = Jvm.exec) (hd : decode c.code pc = .ok (.bipush i, 2)) (hv : (Int8.ofInt i).toInt32 = v) (hp : pc + 2 = pc')
    (k : Gets tb e below P T (mkF m pc' Ls (.int v :: st))) : Gets tb e below P T (mkF m pc Ls st) := by
  subst hp; subst hv; refine k.by fun t qq => ?_; exact XS.bipush H hx rfl hd qq
theorem g_sipush {tb : Tables} [Ours tb] {e : Env} {below : List Frame} {T : State} {m : MethodId} {c : Code} {P : Outcome → State → Prop} {pc pc' : Nat} {Ls : Array Slot} {st : List Value} {i : Int} (v : Int32) (H : At T m c below) (hx : tb.exec = Jvm.exec) (hd : decode c.code pc = .ok (.sipush i, 3)) (hv : (Int16.ofInt i).toInt32 = v) (hp : pc + 3 = pc')
    (k : Gets tb e below P T (mkF m pc' Ls (.int v :: st))) : Gets tb e below P T (mkF m pc Ls st) := by
  subst hp; subst hv; refine k.by fun t qq => ?_; exact XS.sipush H hx rfl hd qq
theorem g_aconstNull {tb : Tables} [Ours tb] {e : Env} {below : List Frame} {T : State} {m : MethodId} {c : Code} {P : Outcome → State → Prop} {pc pc' : Nat} {Ls : Array Slot} {st : List Value}  (H : At T m c below) (hx : tb.exec = Jvm.exec) (hd : decode c.code pc = .ok (.aconst_null, 1))  (hp : pc + 1 = pc')
    (k : Gets tb e below P T (mkF m pc' Ls (.null :: st))) : Gets tb e below P T (mkF m pc Ls (st)) := by
  subst hp; refine k.by fun t qq => ?_; exact XS.aconstNull H hx rfl hd  qq
theorem g_iadd {tb : Tables} [Ours tb] {e : Env} {below : List Frame} {T : State} {m : MethodId} {c : Code} {P : Outcome → State → Prop} {pc pc' : Nat} {Ls : Array Slot} {st : List Value} {x y : Int32} (H : At T m c below) (hx : tb.exec = Jvm.exec) (hd : decode c.code pc = .ok (.iadd, 1))  (hp : pc + 1 = pc')
    (k : Gets tb e below P T (mkF m pc' Ls (.int (x + y) :: st))) : Gets tb e below P T (mkF m pc Ls (.int y :: .int x :: st)) := by
  subst hp; refine k.by fun t qq => ?_; exact XS.iadd H hx rfl hd rfl qq
theorem g_isub {tb : Tables} [Ours tb] {e : Env} {below : List Frame} {T : State} {m : MethodId} {c : Code} {P : Outcome → State → Prop} {pc pc' : Nat} {Ls : Array Slot} {st : List Value} {x y : Int32} (H : At T m c below) (hx : tb.exec = Jvm.exec) (hd : decode c.code pc = .ok (.isub, 1))  (hp : pc + 1 = pc')
    (k : Gets tb e below P T (mkF m pc' Ls (.int (x - y) :: st))) : Gets tb e below P T (mkF m pc Ls (.int y :: .int x :: st)) := by
  subst hp; refine k.by fun t qq => ?_; exact XS.isub H hx rfl hd rfl qq
theorem g_iand {tb : Tables} [Ours tb] {e : Env} {below : List Frame} {T : State} {m : MethodId} {c : Code} {P : Outcome → State → Prop} {pc pc' : Nat} {Ls : Array Slot} {st : List Value} {x y : Int32} (H : At T m c below) (hx : tb.exec = Jvm.exec) (hd : decode c.code pc = .ok (.iand, 1))  (hp : pc + 1 = pc')
    (k : Gets tb e below P T (mkF m pc' Ls (.int (x &&& y) :: st))) : Gets tb e below P T (mkF m pc Ls (.int y :: .int x :: st)) := by
  subst hp; refine k.by fun t qq => ?_; exact XS.iand H hx rfl hd rfl qq
theorem g_ishr {tb : Tables} [Ours tb] {e : Env} {below : List Frame} {T : State} {m : MethodId} {c : Code} {P : Outcome → State → Prop} {pc pc' : Nat} {Ls : Array Slot} {st : List Value} {x y : Int32} (H : At T m c below) (hx : tb.exec = Jvm.exec) (hd : decode c.code pc = .ok (.ishr, 1))  (hp : pc + 1 = pc')
    (k : Gets tb e below P T (mkF m pc' Ls (.int (x >>> (y &&& 31)) :: st))) : Gets tb e below P T (mkF m pc Ls (.int y :: .int x :: st)) := by
  subst hp; refine k.by fun t qq => ?_; exact XS.ishr H hx rfl hd rfl qq
theorem g_iushr {tb : Tables} [Ours tb] {e : Env} {below : List Frame} {T : State} {m : MethodId} {c : Code} {P : Outcome → State → Prop} {pc pc' : Nat} {Ls : Array Slot} {st : List Value} {x y : Int32} (H : At T m c below) (hx : tb.exec = Jvm.exec) (hd : decode c.code pc = .ok (.iushr, 1))  (hp : pc + 1 = pc')
    (k : Gets tb e below P T (mkF m pc' Ls (.int ((x.toUInt32 >>> (y &&& 31).toUInt32).toInt32) :: st))) : Gets tb e below P T (mkF m pc Ls (.int y :: .int x :: st)) := by
  subst hp; refine k.by fun t qq => ?_; exact XS.iushr H hx rfl hd rfl qq
theorem g_land {tb : Tables} [Ours tb] {e : Env} {below : List Frame} {T : State} {m : MethodId} {c : Code} {P : Outcome → State → Prop} {pc pc' : Nat} {Ls : Array Slot} {st : List Value} {x y : Int64} (H : At T m c below) (hx : tb.exec = Jvm.exec) (hd : decode c.code pc = .ok (.land, 1))  (hp : pc + 1 = pc')
    (k : Gets tb e below P T (mkF m pc' Ls (.long (x &&& y) :: st))) : Gets tb e below P T (mkF m pc Ls (.long y :: .long x :: st)) := by
  subst hp; refine k.by fun t qq => ?_; exact XS.land H hx rfl hd rfl qq
theorem g_lushr {tb : Tables} [Ours tb] {e : Env} {below : List Frame} {T : State} {m : MethodId} {c : Code} {P : Outcome → State → Prop} {pc pc' : Nat} {Ls : Array Slot} {st : List Value} {x : Int64} {y : Int32} (H : At T m c below) (hx : tb.exec = Jvm.exec) (hd : decode c.code pc = .ok (.lushr, 1))  (hp : pc + 1 = pc')
    (k : Gets tb e below P T (mkF m pc' Ls (.long ((x.toUInt64 >>> (y &&& 0x3f).toInt64.toUInt64).toInt64) :: st))) : Gets tb e below P T (mkF m pc Ls (.int y :: .long x :: st)) := by
  subst hp; refine k.by fun t qq => ?_; exact XS.lushr H hx rfl hd rfl qq
theorem g_i2b {tb : Tables} [Ours tb] {e : Env} {below : List Frame} {T : State} {m : MethodId} {c : Code} {P : Outcome → State → Prop} {pc pc' : Nat} {Ls : Array Slot} {st : List Value} {x : Int32} (H : At T m c below) (hx : tb.exec = Jvm.exec) (hd : decode c.code pc = .ok (.i2b, 1))  (hp : pc + 1 = pc')
    (k : Gets tb e below P T (mkF m pc' Ls (.int (x.toInt8.toInt32) :: st))) : Gets tb e below P T (mkF m pc Ls (.int x :: st)) := by
  subst hp; refine k.by fun t qq => ?_; exact XS.i2b H hx rfl hd rfl qq
theorem g_i2c {tb : Tables} [Ours tb] {e : Env} {below : List Frame} {T : State} {m : MethodId} {c : Code} {P : Outcome → State → Prop} {pc pc' : Nat} {Ls : Array Slot} {st : List Value} {x : Int32} (H : At T m c below) (hx : tb.exec = Jvm.exec) (hd : decode c.code pc = .ok (.i2c, 1))  (hp : pc + 1 = pc')
    (k : Gets tb e below P T (mkF m pc' Ls (.int (x.toUInt32.toUInt16.toUInt32.toInt32) :: st))) : Gets tb e below P T (mkF m pc Ls (.int x :: st)) := by
  subst hp; refine k.by fun t qq => ?_; exact XS.i2c H hx rfl hd rfl qq
theorem g_l2i {tb : Tables} [Ours tb] {e : Env} {below : List Frame} {T : State} {m : MethodId} {c : Code} {P : Outcome → State → Prop} {pc pc' : Nat} {Ls : Array Slot} {st : List Value} {x : Int64} (H : At T m c below) (hx : tb.exec = Jvm.exec) (hd : decode c.code pc = .ok (.l2i, 1))  (hp : pc + 1 = pc')
    (k : Gets tb e below P T (mkF m pc' Ls (.int x.toInt32 :: st))) : Gets tb e below P T (mkF m pc Ls (.long x :: st)) := by
  subst hp; refine k.by fun t qq => ?_; exact XS.l2i H hx rfl hd rfl qq
theorem g_dup {tb : Tables} [Ours tb] {e : Env} {below : List Frame} {T : State} {m : MethodId} {c : Code} {P : Outcome → State → Prop} {pc pc' : Nat} {Ls : Array Slot} {st : List Value} {v : Value} (H : At T m c below) (hx : tb.exec = Jvm.exec) (hd : decode c.code pc = .ok (.dup, 1)) (hv : v.category = 1) (hp : pc + 1 = pc')
    (k : Gets tb e below P T (mkF m pc' Ls (v :: v :: st))) : Gets tb e below P T (mkF m pc Ls (v :: st)) := by
  subst hp; refine k.by fun t qq => ?_; exact XS.dup H hx rfl hd rfl hv qq
theorem g_pop {tb : Tables} [Ours tb] {e : Env} {below : List Frame} {T : State} {m : MethodId} {c : Code} {P : Outcome → State → Prop} {pc pc' : Nat} {Ls : Array Slot} {st : List Value} {v : Value} (H : At T m c below) (hx : tb.exec = Jvm.exec) (hd : decode c.code pc = .ok (.pop, 1)) (hv : v.category = 1) (hp : pc + 1 = pc')
    (k : Gets tb e below P T (mkF m pc' Ls (st))) : Gets tb e below P T (mkF m pc Ls (v :: st)) := by
  subst hp; refine k.by fun t qq => ?_; exact XS.pop H hx rfl hd rfl hv qq
theorem g_dupX1 {tb : Tables} [Ours tb] {e : Env} {below : List Frame} {T : State} {m : MethodId} {c : Code} {P : Outcome → State → Prop} {pc pc' : Nat} {Ls : Array Slot} {st : List Value} {v w : Value} (H : At T m c below) (hx : tb.exec = Jvm.exec) (hd : decode c.code pc = .ok (.dup_x1, 1)) (hv : v.category = 1) (hw : w.category = 1) (hp : pc + 1 = pc')
    (k : Gets tb e below P T (mkF m pc' Ls (v :: w :: v :: st))) : Gets tb e below P T (mkF m pc Ls (v :: w :: st)) := by
  subst hp; refine k.by fun t qq => ?_; exact XS.dupX1 H hx rfl hd rfl hv hw qq
theorem g_irem {tb : Tables} [Ours tb] {e : Env} {below : List Frame} {T : State} {m : MethodId} {c : Code} {P : Outcome → State → Prop} {pc pc' : Nat} {Ls : Array Slot} {st : List Value} {x y : Int32} (H : At T m c below) (hx : tb.exec = Jvm.exec) (hd : decode c.code pc = .ok (.irem, 1)) (hy : y ≠ 0) (hp : pc + 1 = pc')
    (k : Gets tb e below P T (mkF m pc' Ls (.int (x % y) :: st))) : Gets tb e below P T (mkF m pc Ls (.int y :: .int x :: st)) := by
  subst hp
  have q : x - x / y * y = x % y := irem_eq_mod x y
  rw [← q] at k
  refine k.by fun t qq => ?_; exact XS.irem H hx rfl hd rfl hy qq
theorem g_goto {tb : Tables} [Ours tb] {e : Env} {below : List Frame} {T : State} {m : MethodId} {c : Code} {P : Outcome → State → Prop} {pc pc' : Nat} {Ls : Array Slot} {st : List Value} {o : Int} (H : At T m c below) (hx : tb.exec = Jvm.exec) (hd : decode c.code pc = .ok (.goto o, 3)) (hp : (pc : Int) + o = (pc' : Int))
    (k : Gets tb e below P T (mkF m pc' Ls st)) : Gets tb e below P T (mkF m pc Ls st) := by
  refine k.by fun t qq => ?_
  exact XS.goto H hx rfl (pc0 := pc) (pc' := pc') rfl hd (by rw [hp]; exact Int.natCast_nonneg _) (by rw [hp]; rfl) qq
theorem g_ifY {tb : Tables} [Ours tb] {e : Env} {below : List Frame} {T : State} {m : MethodId} {c : Code} {P : Outcome → State → Prop} {pc pc' : Nat} {Ls : Array Slot} {st : List Value} {o : Int} {cd : ClassFile.Cond} {x : Int32} (H : At T m c below) (hx : tb.exec = Jvm.exec) (hd : decode c.code pc = .ok (.ifCond cd o, 3)) (hp : (pc : Int) + o = (pc' : Int)) (q : if_icmp.holds cd x 0 = true)
    (k : Gets tb e below P T (mkF m pc' Ls st)) : Gets tb e below P T (mkF m pc Ls (.int x :: st)) := by
  refine k.by fun t qq => ?_
  exact XS.ifYes H hx rfl (pc0 := pc) (pc' := pc') rfl hd rfl ((if0 _ _).trans q) (by rw [hp]; exact Int.natCast_nonneg _) (by rw [hp]; rfl) qq
theorem g_ifN {tb : Tables} [Ours tb] {e : Env} {below : List Frame} {T : State} {m : MethodId} {c : Code} {P : Outcome → State → Prop} {pc pc' : Nat} {Ls : Array Slot} {st : List Value} {o : Int} {cd : ClassFile.Cond} {x : Int32} (H : At T m c below) (hx : tb.exec = Jvm.exec) (hd : decode c.code pc = .ok (.ifCond cd o, 3)) (hp : pc + 3 = pc') (q : if_icmp.holds cd x 0 = false)
    (k : Gets tb e below P T (mkF m pc' Ls st)) : Gets tb e below P T (mkF m pc Ls (.int x :: st)) := by
  subst hp; refine k.by fun t qq => ?_; exact XS.ifNo H hx rfl hd rfl ((if0 _ _).trans q) qq
theorem g_icmpY {tb : Tables} [Ours tb] {e : Env} {below : List Frame} {T : State} {m : MethodId} {c : Code} {P : Outcome → State → Prop} {pc pc' : Nat} {Ls : Array Slot} {st : List Value} {o : Int} {cd : ClassFile.Cond} {x y : Int32} (H : At T m c below) (hx : tb.exec = Jvm.exec) (hd : decode c.code pc = .ok (.if_icmp cd o, 3)) (hp : (pc : Int) + o = (pc' : Int)) (q : if_icmp.holds cd x y = true)
    (k : Gets tb e below P T (mkF m pc' Ls st)) : Gets tb e below P T (mkF m pc Ls (.int y :: .int x :: st)) := by
  refine k.by fun t qq => ?_
  exact XS.icmpYes H hx rfl (pc0 := pc) (pc' := pc') rfl hd rfl q (by rw [hp]; exact Int.natCast_nonneg _) (by rw [hp]; rfl) qq
theorem g_icmpN {tb : Tables} [Ours tb] {e : Env} {below : List Frame} {T : State} {m : MethodId} {c : Code} {P : Outcome → State → Prop} {pc pc' : Nat} {Ls : Array Slot} {st : List Value} {o : Int} {cd : ClassFile.Cond} {x y : Int32} (H : At T m c below) (hx : tb.exec = Jvm.exec) (hd : decode c.code pc = .ok (.if_icmp cd o, 3)) (hp : pc + 3 = pc') (q : if_icmp.holds cd x y = false)
    (k : Gets tb e below P T (mkF m pc' Ls st)) : Gets tb e below P T (mkF m pc Ls (.int y :: .int x :: st)) := by
  subst hp; refine k.by fun t qq => ?_; exact XS.icmpNo H hx rfl hd rfl q qq
theorem g_iincV {tb : Tables} [Ours tb] {e : Env} {below : List Frame} {T : State} {m : MethodId} {c : Code} {P : Outcome → State → Prop} {pc pc' : Nat} {Ls Ls' : Array Slot} {st : List Value} {j : Nat} {cst : Int} {x : Int32} (v : Int32) (H : At T m c below) (hx : tb.exec = Jvm.exec) (hd : decode c.code pc = .ok (.iinc j cst, 3)) (hv : x + Int32.ofInt cst = v) (hl : Ls[j]? = some (.val (.int x))) (hs : storeLocals Ls j (.int v) = some Ls') (hp : pc + 3 = pc')
    (k : Gets tb e below P T (mkF m pc' Ls' st)) : Gets tb e below P T (mkF m pc Ls st) := by
  subst hp; subst hv; refine k.by fun t qq => ?_; exact XS.iinc H hx rfl hd hl hs qq
/-- an array's exact content -/
def Ary (Z : State) (h : Heap) (a : Addr) (ty : FieldType) (vs : List Value) : Prop := ∃ cl : Cell, Arr Z h a cl ty ∧ cl.slots.toList = vs ∧ vs.length < 2 ^ 31 ∧ ∀ v ∈ vs, fits ty v = true
theorem Ary.lt {Z : State} {h : Heap} {a : Addr} {ty : FieldType} {vs : List Value} (F : Ary Z h a ty vs) : a < h.size := by obtain ⟨c, A, -⟩ := F; exact A.lt
theorem Ary.len {Z : State} {h : Heap} {a : Addr} {ty : FieldType} {vs : List Value} (F : Ary Z h a ty vs) : vs.length < 2 ^ 31 := by obtain ⟨c, A, -, q, -⟩ := F; exact q
theorem Ary.keep {Z : State} {h h' : Heap} {a : Addr} {ty : FieldType} {vs : List Value} {ws : List Addr} (F : Ary Z h a ty vs) (K : Keep h h' ws) (q : a ∉ ws) : Ary Z h' a ty vs := by obtain ⟨c, A, r⟩ := F; exact ⟨c, ⟨K.2.1 a c A.1 q, A.2⟩, r⟩
theorem Ary.ext {Z : State} {h h' : Heap} {a : Addr} {ty : FieldType} {vs : List Value} (F : Ary Z h a ty vs) (E : Ext h h') : Ary Z h' a ty vs := by obtain ⟨c, A, r⟩ := F; exact ⟨c, A.ext E, r⟩
theorem Ary.made {Z : State} {h : Heap} {a : Addr} {ty : FieldType} {k : ClassId} {n : Int32} (A : Arr Z h a (newA k ty n) ty) (hn : ¬ n < 0) (hf : fits ty (defaultValue ty) = true) : Ary Z h a ty (List.replicate n.toNatClampNeg (defaultValue ty)) :=
  ⟨_, A, by simp [newA], by rw [List.length_replicate]; exact (back32 hn).2, fun v hv => by rw [(List.mem_replicate.mp hv).2]; exact hf⟩
theorem Ary.of_arv {Z : State} {h : Heap} {a : Addr} {ty : FieldType} {k : ClassId} {z : Int32} {vs : List Value} {d : Value} (F : Arv Z h a k ty z vs d) (hl : z.toNatClampNeg = vs.length) : Ary Z h a ty vs := by
  obtain ⟨c, A, -, sz, hz, H, G⟩ := F
  have e : c.slots.toList = vs := by
    apply List.ext_getElem?
    intro i
    by_cases hi : i < c.slots.size
    · have q := H i hi
      have hi' : i < vs.length := by omega
      rw [Array.getElem?_toList, q]
      simp [List.getD_eq_getElem?_getD, hi']
    · have hi' : vs.length ≤ i := by omega
      rw [Array.getElem?_toList, Array.getElem?_eq_none (by omega), List.getElem?_eq_none hi']
  refine ⟨c, A, e, by rw [← hl]; exact (back32 hz).2, fun v hv => ?_⟩
  obtain ⟨i, hi, rfl⟩ := List.mem_iff_getElem.mp hv
  have q := G i (by omega)
  rwa [List.getD_eq_getElem?_getD, List.getElem?_eq_getElem hi] at q
theorem Ary.wrote {Z : State} {h h' : Heap} {a : Addr} {ty : FieldType} {vs : List Value} {cl : Cell} {v : Value} {i : Nat} (A : Arr Z h a cl ty) (e : cl.slots.toList = vs) (hl : vs.length < 2 ^ 31) (hf : ∀ w ∈ vs, fits ty w = true) (hv : fits ty v = true) (W : Wr h h' a i v) : Ary Z h' a ty (vs.set i v) := by
  refine ⟨cl.setSlot i v, A.same W, ?_, by rw [List.length_set]; exact hl, fun w hw => ?_⟩
  · rw [← e]; simp [Cell.setSlot]
  · rcases List.mem_or_eq_of_mem_set hw with q | q
    · exact hf w q
    · rw [q]; exact hv
theorem size_of_list {cl : Cell} {vs : List Value} (e : cl.slots.toList = vs) : cl.slots.size = vs.length := by rw [← e]; simp
theorem at_of_list {cl : Cell} {vs : List Value} (e : cl.slots.toList = vs) (i : Nat) : cl.slots[i]? = vs[i]? := by rw [← e]; simp
theorem i32_nat {n : Nat} (h : n < 2 ^ 31) : n.toInt32.toNatClampNeg = n := by simp only [Int32.toNatClampNeg, len_toInt h]; rfl
end OwnBase
section OwnWalk
variable {p : Program} {l : Launch} {e : Env} {R : Room} {s : State} {m : MethodId} {args : Array Value} {below : List Frame} {meth : Method} {c : Code} {T : State} {Z : State} {a0 : Array Value} {h : Heap} {EL : List (String × Nat)} {own : String} {cells slots : Nat} {ws nw : List Addr} {P : Outcome → State → Prop} {pc pc' : Nat} {Ls : Array Slot} {st : List Value}
/-- where a walk stands -/
def Wk (p : Program) (l : Launch) (e : Env) (R : Room) (s : State) (m : MethodId) (args : Array Value) (below : List Frame) (meth : Method) (c : Code) (Z : State) (EL : List (String × Nat)) (own : String) (ws nw : List Addr) (T : State) (h : Heap) (cells slots : Nat) : Prop :=
  ∃ (vm0 : Vm) (k0 : Nat) (locs : List Loc) (b0 : Array Value), Stand p l e R (s.setVm vm0) m args below meth c T locs cells slots ∧ T.heap = h ∧ s.Since vm0 k0 ∧ k0 ≤ h.size ∧ Z.Warmed39 vm0 ∧ vm0.findClass own = some m.cls ∧ EW Z b0 EL ∧ CHr Z EL s.vm s.heap vm0 h ∧ Fr Z.heap.size locs ∧ Ext Z.heap h ∧ Keep s.heap h ws ∧
    (∀ x : Nat, x ∈ ws → Z.heap.size ≤ x ∧ x < h.size ∧ Safe Z EL vm0 h x) ∧ (∀ x : Nat, x ∈ nw → s.heap.size ≤ x ∧ Z.heap.size ≤ x ∧ x < h.size ∧ Safe Z EL vm0 h x)
theorem Wk.here (W : Wk p l e R s m args below meth c Z EL own ws nw T h cells slots) : At T m c below := by obtain ⟨_, _, _, _, X, -⟩ := W; exact X.here
theorem Wk.old (W : Wk p l e R s m args below meth c Z EL own ws nw T h cells slots) : Ext Z.heap h := by obtain ⟨_, _, _, _, -, -, -, -, -, -, -, -, -, E, -⟩ := W; exact E
theorem Wk.lt (W : Wk p l e R s m args below meth c Z EL own ws nw T h cells slots) {x : Nat} (q : x ∈ nw) : x < h.size := by obtain ⟨_, _, _, _, -, -, -, -, -, -, -, -, -, -, -, -, n⟩ := W; exact (n x q).2.2.1
theorem Wk.kept (W : Wk p l e R s m args below meth c Z EL own ws nw T h cells slots) : Keep s.heap h ws := by obtain ⟨_, _, _, _, -, -, -, -, -, -, -, -, -, -, K, -⟩ := W; exact K
/-- a callee's contract: from the arguments as' and the heap h0 it returns a value v and a heap h' with Q v h'; of the cells of h0 at the most those at ws are written -/
def ConL (wl : List Cond) (l : Launch) (Z : State) (EL : List (String × Nat)) (y : MethodName) (bytes : ByteArray) (maxL : Nat) (ret : Option FieldType) (rm : Room) (as' : Array Value) (h0 : Heap) (ws : List Addr) (Q : Option Value → Heap → Prop) : Prop :=
  MetFree l y (head1 (Cond.code y bytes maxL ret :: wl) rm) (fun a U => a = as' ∧ Z.Warmed39 U.vm ∧ U.heap = h0 ∧ CHv Z EL U.vm h0 ∧ ∀ x ∈ ws, Safe Z EL U.vm h0 x) (fun _ _ _ _ _ => True)
    (fun _ U o U' => ∃ v L, o = .returned v ∧ (Q v U'.heap ∧ Fr Z.heap.size L ∧ Keep h0 U'.heap ws ∧ Ext Z.heap U'.heap) ∧ CHr Z EL U.vm U.heap U'.vm U'.heap ∧ ReturnedEndW U o U' L rm.cells rm.slots)
abbrev Con := ConL []
/-- what a contract's body is to come to -/
def Post (s : State) (Z : State) (EL : List (String × Nat)) (rm : Room) (h0 : Heap) (ws : List Addr) (Q : Option Value → Heap → Prop) (o : Outcome) (t : State) : Prop :=
  ∃ v L, o = .returned v ∧ (Q v t.heap ∧ Fr Z.heap.size L ∧ Keep h0 t.heap ws ∧ Ext Z.heap t.heap) ∧ CHr Z EL s.vm s.heap t.vm t.heap ∧ ReturnedEndW s o t L rm.cells rm.slots
theorem Con.of {wl : List Cond} {y : MethodName} {bytes : ByteArray} {maxL : Nat} {ret : Option FieldType} {rm : Room} {as' : Array Value} {h0 : Heap} {Q : Option Value → Heap → Prop} (Ls : Array Slot)
    (hy : plainFor y = true) (hE : EW Z a0 EL) (O : Ext Z.heap h0) (hws : ∀ x : Nat, x ∈ ws → Z.heap.size ≤ x ∧ x < h0.size) (hent : ∀ m, entryFrame m as' maxL = mkF m 0 Ls [])
    (body : ∀ (p : Program) (e : Env) (s : State) (m : MethodId) (below : List Frame) (meth : Method) (c : Code) (T : State), p.tables.exec = Jvm.exec → c.code = bytes → c.maxLocals = maxL → meth.name = y.name → meth.sig.returnType = ret → meth.locks = false → s.heap = h0 →
      Wk p l e rm s m as' below meth c Z EL y.cls ws [] T h0 0 0 → Gets p.tables e below (Post s Z EL rm h0 ws Q) T (mkF m 0 Ls [])) :
    ConL wl l Z EL y bytes maxL ret rm as' h0 ws Q := by
  refine MetFree.of_bodySF hy hisR ?_
  intro p e s m args below meth c s₁ Bd hml0 hP hK
  obtain ⟨rfl, hZ, hh, hC, hS⟩ := hP
  have hh' : s.heap = h0 := hh
  have hl : meth.locks = false := Bd.notSynchronized
  have e0 : s₁.heap = h0 := by rw [← hh, Bd.state]; rfl
  have X0 : Stand p l e rm s m args below meth c s₁ [] 0 0 := Stand.of_body Bd
  have W : Wk p l e rm s m args below meth c Z EL y.cls ws [] s₁ h0 0 0 :=
    ⟨s.vm, h0.size, [], a0, X0, e0, (State.WarmedH.refl s).since _, Nat.le_refl _, hZ, findClass_of_methodNamed Bd.named, hE, by rw [hh']; exact CHr.refl hC, Fr.nil _, O, by rw [hh']; exact Keep.refl _ _, fun x hx => ⟨(hws x hx).1, (hws x hx).2, hS x hx⟩, fun x hx => (nomatch hx)⟩
  obtain ⟨t, o, h1, h2, h3, h4⟩ := body p e s m below meth c s₁ Bd.exec Bd.bytes hml0 (name_of_methodNamed Bd.named Bd.method).1 Bd.returns hl hh' W
  exact ⟨t, o, by rw [hent m]; exact h1, h2, h3, h4⟩
/-! ends -/
theorem w_end {rm : Room} {h0 : Heap} {Q : Option Value → Heap → Prop} (W : Wk p l e R s m args below meth c Z EL own ws nw T h cells slots) (hh : s.heap = h0) {v : Option Value} {g : JFrame} (hl : meth.locks = false) (hv : meth.sig.returnType = none → v = none)
    (st : ∀ {vm0 : Vm} {locs : List Loc} {fs : List Frame}, Stand p l e R (s.setVm vm0) m args below meth c T locs cells slots → (∀ (f : JFrame) (acts : List Action), f.method = m → f.locked = none → f.entered = [] → (doReturn e (T.setTop f) acts v).1 = T.setFrames fs) → Steps p.tables e below (T.setTop g) (T.setFrames fs))
    (hc : cells ≤ rm.cells) (hs : slots ≤ rm.slots) (q : Q v h) : Gets p.tables e below (Post s Z EL rm h0 ws Q) T g := by
  obtain ⟨vm0, k0, locs, b0, X, eT, hS, hk, hZ, hown, hE, hC, hF, hO, hK, -, -⟩ := W
  obtain ⟨fs, h1, h2, h3, r1, r2, r3, r4⟩ := X.leaveW hS (by rw [eT]; exact hk) hv hl
  subst hh
  have hA := CHv.at X hZ hE hC.1
  refine ⟨_, _, st X h1, h2, h3, v, locs, rfl, ⟨?_, hF, ?_, ?_⟩, ?_, r1, r2, r3, r4.mono hc hs⟩
  · show Q v T.heap; rw [eT]; exact q
  · show Keep _ T.heap _; rw [eT]; exact hK
  · show Ext _ T.heap; rw [eT]; exact hO
  · show CHr Z EL s.vm s.heap T.vm T.heap
    rw [eT]
    exact hC.trans hA
theorem w_retI {rm : Room} {h0 : Heap} {Q : Option Value → Heap → Prop} {z : Int32} (W : Wk p l e R s m args below meth c Z EL own ws nw T h cells slots) (hx : p.tables.exec = Jvm.exec) (hh : s.heap = h0) (hl : meth.locks = false) (hret : meth.sig.returnType = some .int) (hd : decode c.code pc = .ok (.ireturn, 1)) (hc : cells ≤ rm.cells) (hs : slots ≤ rm.slots) (q : Q (some (.int z)) h) :
    Gets p.tables e below (Post s Z EL rm h0 ws Q) T (mkF m pc Ls (.int z :: st)) :=
  w_end W hh hl (fun q => by rw [hret] at q; cases q) (fun X hr => retOut X hx hret rfl (Or.inl ⟨rfl, Or.inl rfl, z, rfl⟩) hd hr) hc hs q
theorem w_retN {rm : Room} {h0 : Heap} {Q : Option Value → Heap → Prop} {z : Int32} {t : FieldType} (W : Wk p l e R s m args below meth c Z EL own ws nw T h cells slots) (hx : p.tables.exec = Jvm.exec) (hh : s.heap = h0) (hl : meth.locks = false) (hret : meth.sig.returnType = some t) (ht : t = .boolean ∨ t = .byte ∨ t = .char ∨ t = .short) (hd : decode c.code pc = .ok (.ireturn, 1)) (hc : cells ≤ rm.cells) (hs : slots ≤ rm.slots) (q : Q (some (.int (nar t z))) h) :
    Gets p.tables e below (Post s Z EL rm h0 ws Q) T (mkF m pc Ls (.int z :: st)) :=
  w_end W hh hl (fun q => by rw [hret] at q; cases q) (fun X hr => retN X hx hret ht hd hr) hc hs q
theorem w_retA {rm : Room} {h0 : Heap} {Q : Option Value → Heap → Prop} {w : Value} {t : FieldType} (W : Wk p l e R s m args below meth c Z EL own ws nw T h cells slots) (hx : p.tables.exec = Jvm.exec) (hh : s.heap = h0) (hl : meth.locks = false) (hret : meth.sig.returnType = some t) (ht : t.isReference = true) (hw : w.isRef = true) (hd : decode c.code pc = .ok (.areturn, 1)) (hc : cells ≤ rm.cells) (hs : slots ≤ rm.slots) (q : Q (some w) h) :
    Gets p.tables e below (Post s Z EL rm h0 ws Q) T (mkF m pc Ls (w :: st)) :=
  w_end W hh hl (fun q => by rw [hret] at q; cases q) (fun X hr => retOut X hx hret (by cases t <;> cases w <;> simp [FieldType.isReference, Value.isRef, narrow] at ht hw ⊢) (Or.inr (Or.inr (Or.inr (Or.inr ⟨rfl, ht, hw⟩)))) hd hr) hc hs q
theorem w_retV {rm : Room} {h0 : Heap} {Q : Option Value → Heap → Prop} (W : Wk p l e R s m args below meth c Z EL own ws nw T h cells slots) (hx : p.tables.exec = Jvm.exec) (hh : s.heap = h0) (hl : meth.locks = false) (hret : meth.sig.returnType = none) (hd : decode c.code pc = .ok (.return_, 1)) (hc : cells ≤ rm.cells) (hs : slots ≤ rm.slots) (q : Q none h) :
    Gets p.tables e below (Post s Z EL rm h0 ws Q) T (mkF m pc Ls []) :=
  w_end W hh hl (fun _ => rfl) (fun X hr => X.returnOut hx hret hd hr) hc hs q
/-! steps that leave the heap as it is -/
theorem w_get (W : Wk p l e R s m args below meth c Z EL own ws nw T h cells slots) (hx : p.tables.exec = Jvm.exec) {R0 O n d : String} {index : Nat} (w : (Cond.fieldLink own index R0 n d).before a0 Z = true) (via : Via Z R0 O n d) {a : Nat} {v : Value} (F : Fld Z h a O n d v) (hd : decode c.code pc = .ok (.getfield index, 3)) (hp : pc + 3 = pc')
    (k : ∀ T', Wk p l e R s m args below meth c Z EL own ws nw T' h cells slots → Gets p.tables e below P T' (mkF m pc' Ls (v :: st))) : Gets p.tables e below P T (mkF m pc Ls (.ref a :: st)) := by
  subst hp
  obtain ⟨vm0, k0, locs, b0, X, eT, hS, hk, hZ, hown, r⟩ := W
  obtain ⟨T', X', e', stp⟩ := getF X hx hZ hown (host := "") (Or.inl w) via eT F (g := mkF m pc Ls (.ref a :: st)) rfl rfl hd
  exact (k T' ⟨vm0, k0, locs, b0, X', e', hS, hk, hZ, hown, r⟩).by stp
theorem w_getS (W : Wk p l e R s m args below meth c Z EL own ws nw T h cells slots) (hx : p.tables.exec = Jvm.exec) {R0 O n d : String} {index : Nat} (w : (Cond.fieldLink own index R0 n d).before a0 Z = true) (via : Via Z R0 O n d) {v : Value} (F : Sta Z Z.heap O n d v) (hd : decode c.code pc = .ok (.getstatic index, 3)) (hp : pc + 3 = pc')
    (k : ∀ T', Wk p l e R s m args below meth c Z EL own ws nw T' h cells slots → Gets p.tables e below P T' (mkF m pc' Ls (v :: st))) : Gets p.tables e below P T (mkF m pc Ls st) := by
  subst hp
  have O := W.old
  obtain ⟨vm0, k0, locs, b0, X, eT, hS, hk, hZ, hown, r⟩ := W
  obtain ⟨T', X', e', stp⟩ := getS X hx hZ hown (host := "") w via eT (F.ext O) (g := mkF m pc Ls st) rfl hd
  exact (k T' ⟨vm0, k0, locs, b0, X', e', hS, hk, hZ, hown, r⟩).by stp
theorem w_ldc2J (W : Wk p l e R s m args below meth c Z EL own ws nw T h cells slots) (hx : p.tables.exec = Jvm.exec) {index : Nat} {v : Int64} (w : (Cond.constantLong own index v).before a0 Z = true) (hd : decode c.code pc = .ok (.ldc2_w index, 3)) (hp : pc + 3 = pc')
    (k : Gets p.tables e below P T (mkF m pc' Ls (.long v :: st))) : Gets p.tables e below P T (mkF m pc Ls st) := by
  subst hp
  obtain ⟨vm0, k0, locs, b0, X, eT, hS, hk, hZ, hown, r⟩ := W
  exact k.by fun t q => Jvm.Stand.ldc2J X hx hown (mv (s := s.setVm vm0) hZ w) (g := mkF m pc Ls st) rfl hd q
theorem w_acmp (W : Wk p l e R s m args below meth c Z EL own ws nw T h cells slots) (hx : p.tables.exec = Jvm.exec) {cd : ACond} {x y : Value} {o : Int} (h1 : x.isRef = true) (h2 : y.isRef = true) (same : Bool) (hd : decode c.code pc = .ok (.if_acmp cd o, 3)) (hq : decide (x = y) = same) (ho : 0 ≤ (pc : Int) + o) (hp : pc' = if acV cd same = true then ((pc : Int) + o).toNat else pc + 3)
    (k : Gets p.tables e below P T (mkF m pc' Ls st)) : Gets p.tables e below P T (mkF m pc Ls (y :: x :: st)) := by
  obtain ⟨vm0, k0, locs, b0, X, r⟩ := W
  exact k.by fun t q => Jvm.RoadKit.acmp (g := mkF m pc Ls (y :: x :: st)) X hx rfl h1 h2 (pc0 := pc) (pc' := pc') rfl hd rfl hq ho hp q
theorem w_cast (W : Wk p l e R s m args below meth c Z EL own ws nw T h cells slots) (hx : p.tables.exec = Jvm.exec) {K : String} {index : Nat} (w : (Cond.classLink own index K).before a0 Z = true) {a : Nat} (F : Ins Z h a K true) (hd : decode c.code pc = .ok (.checkcast index, 3)) (hp : pc + 3 = pc')
    (k : ∀ T', Wk p l e R s m args below meth c Z EL own ws nw T' h cells slots → Gets p.tables e below P T' (mkF m pc' Ls (.ref a :: st))) : Gets p.tables e below P T (mkF m pc Ls (.ref a :: st)) := by
  subst hp
  obtain ⟨vm0, k0, locs, b0, X, eT, hS, hk, hZ, hown, r⟩ := W
  obtain ⟨T', X', e', stp⟩ := castY X hx hZ hown w eT F (g := mkF m pc Ls (.ref a :: st)) rfl rfl hd
  exact (k T' ⟨vm0, k0, locs, b0, X', e', hS, hk, hZ, hown, r⟩).by stp
theorem w_inst (W : Wk p l e R s m args below meth c Z EL own ws nw T h cells slots) (hx : p.tables.exec = Jvm.exec) {K : String} {index : Nat} (w : (Cond.classLink own index K).before a0 Z = true) {a : Nat} (F : Ins Z h a K true) (hd : decode c.code pc = .ok (.instanceof index, 3)) (hp : pc + 3 = pc')
    (k : ∀ T', Wk p l e R s m args below meth c Z EL own ws nw T' h cells slots → Gets p.tables e below P T' (mkF m pc' Ls (.int 1 :: st))) : Gets p.tables e below P T (mkF m pc Ls (.ref a :: st)) := by
  subst hp
  obtain ⟨vm0, k0, locs, b0, X, eT, hS, hk, hZ, hown, r⟩ := W
  obtain ⟨T', X', e', stp⟩ := instY X hx hZ hown w eT F (g := mkF m pc Ls (.ref a :: st)) rfl rfl hd
  exact (k T' ⟨vm0, k0, locs, b0, X', e', hS, hk, hZ, hown, r⟩).by stp
theorem w_len (W : Wk p l e R s m args below meth c Z EL own ws nw T h cells slots) (hx : p.tables.exec = Jvm.exec) {a : Nat} {ty : FieldType} {vs : List Value} (F : Ary Z h a ty vs) (hd : decode c.code pc = .ok (.arraylength, 1)) (hp : pc + 1 = pc')
    (k : Gets p.tables e below P T (mkF m pc' Ls (.int vs.length.toInt32 :: st))) : Gets p.tables e below P T (mkF m pc Ls (.ref a :: st)) := by
  subst hp
  obtain ⟨vm0, k0, locs, b0, X, eT, hS, hk, hZ, hown, r⟩ := W
  obtain ⟨cl, A, e1, -, -⟩ := F
  refine k.by fun t q => X.arraylength hx (by rw [eT]; exact A.1) (State.isArrayOf_alike hZ.alike A.2.1) (g := mkF m pc Ls (.ref a :: st)) rfl rfl hd t ?_
  rw [size_of_list e1]; exact q
theorem in_of {cl : Cell} {vs : List Value} {j : Int32} {v : Value} (e : cl.slots.toList = vs) (hj : ¬ j < 0) (hv : vs[j.toNatClampNeg]? = some v) : ¬ (j < 0 ∨ cl.slots.size ≤ j.toNatClampNeg) ∧ cl.slots[j.toNatClampNeg]? = some v := by
  refine ⟨fun q => q.elim hj fun q => ?_, by rw [at_of_list e]; exact hv⟩
  have := (List.getElem?_eq_some_iff.mp hv).1
  rw [size_of_list e] at q; omega
theorem w_caload (W : Wk p l e R s m args below meth c Z EL own ws nw T h cells slots) (hx : p.tables.exec = Jvm.exec) {a : Nat} {vs : List Value} {j : Int32} {v : Value} (F : Ary Z h a .char vs) (hj : ¬ j < 0) (hv : vs[j.toNatClampNeg]? = some v) (hd : decode c.code pc = .ok (.caload, 1)) (hp : pc + 1 = pc')
    (k : Gets p.tables e below P T (mkF m pc' Ls (v :: st))) : Gets p.tables e below P T (mkF m pc Ls (.int j :: .ref a :: st)) := by
  subst hp
  obtain ⟨vm0, k0, locs, b0, X, eT, hS, hk, hZ, hown, r⟩ := W
  obtain ⟨cl, A, e1, -, -⟩ := F
  obtain ⟨q1, q2⟩ := in_of e1 hj hv
  exact k.by fun t q => X.caload hx (by rw [eT]; exact A.1) (State.isArrayOf_alike hZ.alike A.2.1) A.2.2 q1 q2 (g := mkF m pc Ls (.int j :: .ref a :: st)) rfl rfl hd t q
theorem w_baload (W : Wk p l e R s m args below meth c Z EL own ws nw T h cells slots) (hx : p.tables.exec = Jvm.exec) {a : Nat} {vs : List Value} {j : Int32} {v : Value} (F : Ary Z h a .byte vs) (hj : ¬ j < 0) (hv : vs[j.toNatClampNeg]? = some v) (hd : decode c.code pc = .ok (.baload, 1)) (hp : pc + 1 = pc')
    (k : Gets p.tables e below P T (mkF m pc' Ls (v :: st))) : Gets p.tables e below P T (mkF m pc Ls (.int j :: .ref a :: st)) := by
  subst hp
  obtain ⟨vm0, k0, locs, b0, X, eT, hS, hk, hZ, hown, r⟩ := W
  obtain ⟨cl, A, e1, -, -⟩ := F
  obtain ⟨q1, q2⟩ := in_of e1 hj hv
  exact k.by fun t q => X.baloadBytes hx (by rw [eT]; exact A.1) (State.isArrayOf_alike hZ.alike A.2.1) A.2.2 q1 q2 (g := mkF m pc Ls (.int j :: .ref a :: st)) rfl rfl hd t q
theorem w_aaload (W : Wk p l e R s m args below meth c Z EL own ws nw T h cells slots) (hx : p.tables.exec = Jvm.exec) {a : Nat} {ty : FieldType} {vs : List Value} {j : Int32} {v : Value} (F : Ary Z h a ty vs) (hty : ty.isReference = true) (hj : ¬ j < 0) (hv : vs[j.toNatClampNeg]? = some v) (hd : decode c.code pc = .ok (.aaload, 1)) (hp : pc + 1 = pc')
    (k : Gets p.tables e below P T (mkF m pc' Ls (v :: st))) : Gets p.tables e below P T (mkF m pc Ls (.int j :: .ref a :: st)) := by
  subst hp
  obtain ⟨vm0, k0, locs, b0, X, eT, hS, hk, hZ, hown, r⟩ := W
  obtain ⟨cl, A, e1, -, -⟩ := F
  obtain ⟨q1, q2⟩ := in_of e1 hj hv
  exact k.by fun t q => X.aaload hx (by rw [eT]; exact A.1) (State.isArrayOf_alike hZ.alike A.2.1) hty A.2.2 q1 q2 (g := mkF m pc Ls (.int j :: .ref a :: st)) rfl rfl hd t q
theorem w_initO (W : Wk p l e R s m args below meth c Z EL own ws nw T h cells slots) (hx : p.tables.exec = Jvm.exec) {idx : Nat} (w1 : (Cond.methodLink own idx Lib.objectInit).before a0 Z = true) (w2 : (Cond.instanceMethod Lib.objectInit).before a0 Z = true) (w3 : (Cond.code Lib.objectInit ⟨#[0xb1]⟩ 1 none).before a0 Z = true) {a : Nat} (hsz : Ls.size = c.maxLocals) (hd : decode c.code pc = .ok (.invokespecial idx, 3)) (hf : 1 ≤ R.frames) (hW : (st.map fun v => v.category).sum + 12 ≤ R.locals) (hp : pc + 3 = pc')
    (k : ∀ T', Wk p l e R s m args below meth c Z EL own ws nw T' h cells slots → Gets p.tables e below P T' (mkF m pc' Ls st)) : Gets p.tables e below P T (mkF m pc Ls (.ref a :: st)) := by
  subst hp
  obtain ⟨vm0, k0, locs, b0, X, eT, hS, hk, hZ, hown, r⟩ := W
  obtain ⟨T', X', e', stp⟩ := initO X hx hZ hown w1 w2 w3 eT (g := mkF m pc Ls (.ref a :: st)) rfl hsz rfl hd hf (W := (st.map fun v => v.category).sum) (by show 2 * 0 + _ ≤ _; omega) hW
  exact (k T' ⟨vm0, k0, locs, b0, X', e', hS, hk, hZ, hown, r⟩).by stp
/-! steps that move the heap -/
theorem w_new (W : Wk p l e R s m args below meth c Z EL own ws nw T h cells slots) (hx : p.tables.exec = Jvm.exec) {C : String} {index n : Nat} (w : (Cond.classLink own index C).before a0 Z = true) (wi : (Cond.instantiable C n).before a0 Z = true) (wz : (Cond.initialized C).before a0 Z = true) (hd : decode c.code pc = .ok (.new index, 3)) (hc : cells + 1 ≤ R.cells) (hl : slots + n ≤ R.slots) (hp : pc + 3 = pc')
    (k : ∀ (T' : State) (h' : Heap) (b : Nat), b = h.size → Wk p l e R s m args below meth c Z EL own ws (b :: nw) T' h' (cells + 1) (slots + n) → Keep h h' [] → Exa Z h' b C → (∀ {O nm d : String} {ty : FieldType}, Laid Z a0 C O nm d → parseFieldDescriptor d = some ty → Fld Z h' b O nm d (defaultValue ty)) → Gets p.tables e below P T' (mkF m pc' Ls (.ref b :: st))) : Gets p.tables e below P T (mkF m pc Ls st) := by
  subst hp
  obtain ⟨vm0, k0, locs, b0, X, eT, hS, hk, hZ, hown, hE, hC, hF, hO, hK, n1, n2⟩ := W
  obtain ⟨T', h', X', e', E, A, D, -, stp⟩ := newO X hx hZ hown w wi wz eT (g := mkF m pc Ls st) rfl hd hc hl
  have hn : h.size < h'.size := A.lt
  have hs : s.heap.size ≤ h.size := hK.1
  refine (k T' h' h.size rfl ⟨vm0, k0, locs, b0, X', e', hS, Nat.le_trans hk E.1, hZ, hown, hE, hC.trans (CHr.ext E hC.1), hF, ⟨Nat.le_trans hO.1 E.1, fun a c q => E.2 a c (hO.2 a c q)⟩, hK.ext E, fun x hx => ?_, fun x hx => ?_⟩ ((Keep.refl h []).ext E) A D).by stp
  · obtain ⟨a, b, c⟩ := n1 x hx
    exact ⟨a, Nat.lt_of_lt_of_le b E.1, c.ext E hC.1⟩
  · rcases List.mem_cons.mp hx with rfl | hx
    · exact ⟨hs, hO.1, hn, Safe.ext E hC.1 (Safe.new (Nat.le_refl _))⟩
    · obtain ⟨a, b, c, d⟩ := n2 x hx
      exact ⟨a, b, Nat.lt_of_lt_of_le c E.1, d.ext E hC.1⟩
theorem w_newarr (W : Wk p l e R s m args below meth c Z EL own ws nw T h cells slots) (hx : p.tables.exec = Jvm.exec) {aty : ArrayType} (w : (Cond.arrayClass (newarray.typeOf aty)).before a0 Z = true) {n : Int32} (hd : decode c.code pc = .ok (.newarray aty, 2)) (hn : ¬ n < 0) {cap : Nat} (hcap : n.toNatClampNeg ≤ cap) (hb : cap * 8 ≤ 536870912) (hc : cells + 1 ≤ R.cells) (hl : slots + cap ≤ R.slots) (hf : fits (newarray.typeOf aty) (defaultValue (newarray.typeOf aty)) = true) (hp : pc + 2 = pc')
    (k : ∀ (T' : State) (h' : Heap) (b : Nat), b = h.size → Wk p l e R s m args below meth c Z EL own ws (b :: nw) T' h' (cells + 1) (slots + cap) → Keep h h' [] → Ary Z h' b (newarray.typeOf aty) (List.replicate n.toNatClampNeg (defaultValue (newarray.typeOf aty))) → Gets p.tables e below P T' (mkF m pc' Ls (.ref b :: st))) : Gets p.tables e below P T (mkF m pc Ls (.int n :: st)) := by
  subst hp
  obtain ⟨vm0, k0, locs, b0, X, eT, hS, hk, hZ, hown, hE, hC, hF, hO, hK, n1, n2⟩ := W
  obtain ⟨T', h', cA, X', e', E, A, stp⟩ := newP X hx hZ w eT (g := mkF m pc Ls (.int n :: st)) rfl hd rfl hn hcap hb hc hl
  have hn' : h.size < h'.size := A.lt
  have hs : s.heap.size ≤ h.size := hK.1
  refine (k T' h' h.size rfl ⟨vm0, k0, locs, b0, X', e', hS, Nat.le_trans hk E.1, hZ, hown, hE, hC.trans (CHr.ext E hC.1), hF, ⟨Nat.le_trans hO.1 E.1, fun a c q => E.2 a c (hO.2 a c q)⟩, hK.ext E, fun x hx => ?_, fun x hx => ?_⟩ ((Keep.refl h []).ext E) (Ary.made A hn hf)).by stp
  · obtain ⟨a, b, c⟩ := n1 x hx
    exact ⟨a, Nat.lt_of_lt_of_le b E.1, c.ext E hC.1⟩
  · rcases List.mem_cons.mp hx with rfl | hx
    · exact ⟨hs, hO.1, hn', Safe.ext E hC.1 (Safe.new (Nat.le_refl _))⟩
    · obtain ⟨a, b, c, d⟩ := n2 x hx
      exact ⟨a, b, Nat.lt_of_lt_of_le c E.1, d.ext E hC.1⟩
theorem Wk.wrote {vm0 : Vm} {k0 : Nat} {locs : List Loc} {b0 : Array Value} {T' : State} {h' : Heap} {a : Nat} {sl : Nat} {v : Value} (ha : a ∈ ws ++ nw) (WW : Wr h h' a sl v) (X' : Stand p l e R (s.setVm vm0) m args below meth c T' (locs ++ [⟨a, sl⟩]) cells slots) (e' : T'.heap = h')
    (r : s.Since vm0 k0 ∧ k0 ≤ h.size ∧ Z.Warmed39 vm0 ∧ vm0.findClass own = some m.cls ∧ EW Z b0 EL ∧ CHr Z EL s.vm s.heap vm0 h ∧ Fr Z.heap.size locs ∧ Ext Z.heap h ∧ Keep s.heap h ws ∧ (∀ x : Nat, x ∈ ws → Z.heap.size ≤ x ∧ x < h.size ∧ Safe Z EL vm0 h x) ∧ (∀ x : Nat, x ∈ nw → s.heap.size ≤ x ∧ Z.heap.size ≤ x ∧ x < h.size ∧ Safe Z EL vm0 h x)) :
    Wk p l e R s m args below meth c Z EL own ws nw T' h' cells slots := by
  obtain ⟨hS, hk, hZ, hown, hE, hC, hF, hO, hK, n1, n2⟩ := r
  have sz := WW.size
  have key : Z.heap.size ≤ a ∧ Safe Z EL vm0 h a ∧ (a ∈ ws ∨ s.heap.size ≤ a) := by
    rcases List.mem_append.mp ha with q | q
    · exact ⟨(n1 a q).1, (n1 a q).2.2, Or.inl q⟩
    · exact ⟨(n2 a q).2.1, (n2 a q).2.2.2, Or.inr (n2 a q).1⟩
  have K1 : Keep h h' [a] := Keep.of_wr WW
  refine ⟨vm0, k0, locs ++ [⟨a, sl⟩], b0, X', e', hS, by omega, hZ, hown, hE, hC.trans (CHr.wr WW key.2.1 hC.1), Fr.snoc X' hF key.1, ⟨by have := hO.1; omega, fun x cc q => K1.2.1 x cc (hO.2 x cc q) fun z => ?_⟩, hK.wr WW key.2.2, fun x hx => ?_, fun x hx => ?_⟩
  · cases List.mem_singleton.mp z
    have := (Array.getElem?_eq_some_iff.mp q).1
    omega
  · obtain ⟨q1, q2, q3⟩ := n1 x hx
    exact ⟨q1, by omega, Safe.wr WW key.2.1 hC.1 q3⟩
  · obtain ⟨q1, q2, q3, q4⟩ := n2 x hx
    exact ⟨q1, q2, by omega, Safe.wr WW key.2.1 hC.1 q4⟩
theorem w_put (W : Wk p l e R s m args below meth c Z EL own ws nw T h cells slots) (hx : p.tables.exec = Jvm.exec) {R0 O n d C : String} {index kk : Nat} {ty : FieldType} (w : (Cond.fieldLink own index R0 n d).before a0 Z = true) (via : Via Z R0 O n d) {a : Nat} {v old : Value} (F : Fld Z h a O n d old) (E : Exa Z h a C) (L : (Cond.lays C O n d).before a0 Z = true ∨ ((Cond.laysFinal C O n d).before a0 Z = true ∧ own = O ∧ meth.name = "<init>")) (wi : (Cond.instantiable C kk).before a0 Z = true)
    (hty : parseFieldDescriptor d = some ty) (hn : narrow ty v = v) (hf : fits ty v = true) (ha : a ∈ ws ++ nw) (hd : decode c.code pc = .ok (.putfield index, 3)) (hp : pc + 3 = pc')
    (k : ∀ T' h', Wk p l e R s m args below meth c Z EL own ws nw T' h' cells slots → Keep h h' [a] → Wr h h' a (Jvm.RoadKit.slotOf Z O n d) v → Fld Z h' a O n d v → Exa Z h' a C → Gets p.tables e below P T' (mkF m pc' Ls st)) : Gets p.tables e below P T (mkF m pc Ls (v :: .ref a :: st)) := by
  subst hp
  obtain ⟨vm0, k0, locs, b0, X, eT, r⟩ := W
  obtain ⟨T', h', X', e', WW, stp⟩ := putF X hx r.2.2.1 r.2.2.2.1 (host := "") (Or.inl w) via eT F E L wi hty hn hf (g := mkF m pc Ls (v :: .ref a :: st)) rfl rfl hd
  exact (k T' h' (Wk.wrote ha WW X' e' r) (Keep.of_wr WW) WW (F.same WW) (E.wr WW)).by stp
theorem w_putN (W : Wk p l e R s m args below meth c Z EL own ws nw T h cells slots) (hx : p.tables.exec = Jvm.exec) {R0 O n d C : String} {index kk : Nat} {ty : FieldType} (w : (Cond.fieldLink own index R0 n d).before a0 Z = true) (via : Via Z R0 O n d) {a : Nat} {v v' old : Value} (F : Fld Z h a O n d old) (E : Exa Z h a C) (L : (Cond.lays C O n d).before a0 Z = true ∨ ((Cond.laysFinal C O n d).before a0 Z = true ∧ own = O ∧ meth.name = "<init>")) (wi : (Cond.instantiable C kk).before a0 Z = true)
    (hty : parseFieldDescriptor d = some ty) (hn : narrow ty v = v') (hf : fits ty v' = true) (ha : a ∈ ws ++ nw) (hd : decode c.code pc = .ok (.putfield index, 3)) (hp : pc + 3 = pc')
    (k : ∀ T' h', Wk p l e R s m args below meth c Z EL own ws nw T' h' cells slots → Keep h h' [a] → Wr h h' a (Jvm.RoadKit.slotOf Z O n d) v' → Fld Z h' a O n d v' → Exa Z h' a C → Gets p.tables e below P T' (mkF m pc' Ls st)) : Gets p.tables e below P T (mkF m pc Ls (v :: .ref a :: st)) := by
  subst hp
  obtain ⟨vm0, k0, locs, b0, X, eT, r⟩ := W
  obtain ⟨T', h', X', e', WW, stp⟩ := putFN X hx r.2.2.1 r.2.2.2.1 w via eT F E L wi hty hn hf (g := mkF m pc Ls (v :: .ref a :: st)) rfl rfl hd
  exact (k T' h' (Wk.wrote ha WW X' e' r) (Keep.of_wr WW) WW (F.same WW) (E.wr WW)).by stp
theorem w_castore (W : Wk p l e R s m args below meth c Z EL own ws nw T h cells slots) (hx : p.tables.exec = Jvm.exec) {a : Nat} {vs : List Value} {j x : Int32} (F : Ary Z h a .char vs) (hj : ¬ j < 0) (hi : j.toNatClampNeg < vs.length) (ha : a ∈ ws ++ nw) {x' : Int32} (hq : nar .char x = x') (hd : decode c.code pc = .ok (.castore, 1)) (hp : pc + 1 = pc')
    (k : ∀ T' h', Wk p l e R s m args below meth c Z EL own ws nw T' h' cells slots → Keep h h' [a] → Ary Z h' a .char (vs.set j.toNatClampNeg (.int x')) → Gets p.tables e below P T' (mkF m pc' Ls st)) : Gets p.tables e below P T (mkF m pc Ls (.int x :: .int j :: .ref a :: st)) := by
  subst hp; subst hq
  obtain ⟨vm0, k0, locs, b0, X, eT, r⟩ := W
  obtain ⟨cl, A, e1, e2, e3⟩ := F
  obtain ⟨T', h', X', e', WW, stp⟩ := stC X hx r.2.2.1 eT A (j := j) (x := x) (fun q => q.elim hj fun q => by rw [size_of_list e1] at q; omega) (g := mkF m pc Ls (.int x :: .int j :: .ref a :: st)) rfl rfl hd
  exact (k T' h' (Wk.wrote ha WW X' e' r) (Keep.of_wr WW) (Ary.wrote A e1 e2 e3 (fits_nar_char x) WW)).by stp
theorem w_bastore (W : Wk p l e R s m args below meth c Z EL own ws nw T h cells slots) (hx : p.tables.exec = Jvm.exec) {a : Nat} {vs : List Value} {j x : Int32} (F : Ary Z h a .byte vs) (hj : ¬ j < 0) (hi : j.toNatClampNeg < vs.length) (ha : a ∈ ws ++ nw) {x' : Int32} (hq : x.toInt8.toInt32 = x') (hd : decode c.code pc = .ok (.bastore, 1)) (hp : pc + 1 = pc')
    (k : ∀ T' h', Wk p l e R s m args below meth c Z EL own ws nw T' h' cells slots → Keep h h' [a] → Ary Z h' a .byte (vs.set j.toNatClampNeg (.int x')) → Gets p.tables e below P T' (mkF m pc' Ls st)) : Gets p.tables e below P T (mkF m pc Ls (.int x :: .int j :: .ref a :: st)) := by
  subst hp; subst hq
  obtain ⟨vm0, k0, locs, b0, X, eT, r⟩ := W
  obtain ⟨cl, A, e1, e2, e3⟩ := F
  obtain ⟨T', h', X', e', WW, stp⟩ := stB X hx r.2.2.1 eT A (j := j) (x := x) (fun q => q.elim hj fun q => by rw [size_of_list e1] at q; omega) (g := mkF m pc Ls (.int x :: .int j :: .ref a :: st)) rfl rfl hd
  exact (k T' h' (Wk.wrote ha WW X' e' r) (Keep.of_wr WW) (Ary.wrote A e1 e2 e3 (fits_nar_byte x) WW)).by stp
/-! calls -/
theorem backC {y : MethodName} {bytes : ByteArray} {maxL : Nat} {ret : Option FieldType} {rm : Room} {len W : Nat} {as' : Array Value} {Q : Option Value → Heap → Prop} {vm0 : Vm} {wsc : List Addr}
    (hM : Con l Z EL y bytes maxL ret rm as' h wsc Q) (hZ : Z.Warmed39 vm0) (wc : (Cond.code y bytes maxL ret).before a0 Z = true) (wz : (Cond.initialized y.cls).before a0 Z = true) (hf : rm.frames + 1 ≤ R.frames) (hl : W + (maxL + 11) + rm.locals ≤ R.locals) {b0 : Array Value} (hEL : EW Z b0 EL) (H : CHv Z EL vm0 h) (hs : ∀ x : Nat, x ∈ wsc → x < h.size ∧ Safe Z EL vm0 h x) :
    BackS l R p e below (s.setVm vm0) args y len W (fun A a => a = as' ∧ A.U.heap = h ∧ A.cells + rm.cells ≤ R.cells ∧ A.slots + rm.slots ≤ R.slots)
      (fun A _ v B => ∃ L, (Q v B.U.heap ∧ Fr Z.heap.size L ∧ Keep h B.U.heap wsc ∧ Ext Z.heap B.U.heap) ∧ B.locs = A.locs ++ L ∧ B.cells = A.cells + rm.cells ∧ B.slots = A.slots + rm.slots ∧ CHr Z EL vm0 h B.U.vm B.U.heap) :=
  BackS.of_freeW (bytes := bytes) (maxL := maxL) (ret := ret) (E := fun _ first o t L k n => k = rm.cells ∧ n = rm.slots ∧ (∃ v, o = .returned v ∧ (Q v t.heap ∧ Fr Z.heap.size L ∧ Keep h t.heap wsc ∧ Ext Z.heap t.heap)) ∧ CHr Z EL first.vm first.heap t.vm t.heap) hM hf hl
    (fun m meth c A a Y hp => have hU : Z.Warmed39 A.U.vm := wtrans (s := s.setVm vm0) hZ Y.warmed
      ⟨by show (Cond.and _ .tt).before a A.U = true; rw [Cond.before_and, mv hU wc]; rfl, mv hU wc, mv hU wz, hp.2.2.1, hp.2.2.2⟩)
    (fun m meth c A a g mk Y hp => ⟨hp.1, wtrans (s := s.setVm vm0) hZ Y.warmed, hp.2.1, (CHv.at Y hZ hEL H).1, fun x hx => (CHv.at Y hZ hEL H).safe (hs x hx).1 (hs x hx).2⟩) (fun _ _ _ _ _ _ _ _ _ => trivial)
    (fun _ _ _ _ ⟨v, L, h1, h2, h3, h4⟩ => ⟨L, _, _, h4, rfl, rfl, ⟨v, h1, h2⟩, h3⟩)
    (fun m meth c A a g mk v t L k n Y hp _ _ ⟨e1, e2, ⟨v', e3, e4⟩, e5⟩ => by
      cases e3; subst e1 e2
      refine ⟨L, e4, rfl, rfl, rfl, (CHv.at Y hZ hEL H).trans ?_⟩
      rw [← hp.2.1]; exact e5)
theorem Wk.called {vm0 : Vm} {k0 : Nat} {locs L : List Loc} {b0 : Array Value} {T' : State} {h' : Heap} {wsc : List Addr} {n c' s' : Nat} (hw : ∀ x ∈ wsc, x ∈ ws ++ nw) (X' : Stand p l e R ((s.setVm vm0).setVm T'.vm) m args below meth c T' (locs ++ L) c' s') (e' : T'.heap = h') (h2 : (s.setVm vm0).Since T'.vm n) (hn : n ≤ h'.size) (hln : h.size ≤ n) (F : Fr Z.heap.size L) (K : Keep h h' wsc) (O' : Ext Z.heap h') (C' : CHr Z EL vm0 h T'.vm h')
    (r : s.Since vm0 k0 ∧ k0 ≤ h.size ∧ Z.Warmed39 vm0 ∧ vm0.findClass own = some m.cls ∧ EW Z b0 EL ∧ CHr Z EL s.vm s.heap vm0 h ∧ Fr Z.heap.size locs ∧ Ext Z.heap h ∧ Keep s.heap h ws ∧ (∀ x : Nat, x ∈ ws → Z.heap.size ≤ x ∧ x < h.size ∧ Safe Z EL vm0 h x) ∧ (∀ x : Nat, x ∈ nw → s.heap.size ≤ x ∧ Z.heap.size ≤ x ∧ x < h.size ∧ Safe Z EL vm0 h x)) :
    Wk p l e R s m args below meth c Z EL own ws nw T' h' c' s' := by
  obtain ⟨hS, hk, hZ, hown, hE, hC, hF, hO, hK, n1, n2⟩ := r
  have sz := K.1
  refine ⟨T'.vm, n, locs ++ L, b0, X', e', hS.trans h2 (by omega), hn, State.Warmed39.trans (t := s.setVm vm0) hZ h2.1, (h2.1.alike.findClass _ _).trans hown, hE, hC.trans C', Fr.app hF F, O', hK.trans K (fun x hx => ?_), fun x hx => ?_, fun x hx => ?_⟩
  · rcases List.mem_append.mp (hw x hx) with q | q
    · exact Or.inl q
    · exact Or.inr (n2 x q).1
  · obtain ⟨q1, q2, q3⟩ := n1 x hx
    exact ⟨q1, by omega, C'.safe q2 q3⟩
  · obtain ⟨q1, q2, q3, q4⟩ := n2 x hx
    exact ⟨q1, q2, by omega, C'.safe q3 q4⟩
theorem w_callS (W : Wk p l e R s m args below meth c Z EL own ws nw T h cells slots) (hx : p.tables.exec = Jvm.exec) {index : Nat} {y : MethodName} {bytes : ByteArray} {maxL : Nat} {ret : Option FieldType} {rm : Room} {Q : Option Value → Heap → Prop} {wsc : List Addr} (argsL : List Value)
    (w1 : (Cond.methodLink own index y).before a0 Z = true) (w2 : (Cond.static y).before a0 Z = true) (w3 : (Cond.initialized y.cls).before a0 Z = true) (w4 : (Cond.code y bytes maxL ret).before a0 Z = true) (hy : y.cls ≠ "java/lang/invoke/MethodHandle" ∧ y.cls ≠ "java/lang/invoke/VarHandle")
    (H : Con l Z EL y bytes maxL ret rm argsL.toArray h wsc Q) (hwc : ∀ x ∈ wsc, x ∈ ws ++ nw) (hsz : Ls.size = c.maxLocals) (hlen : ∀ sig, parseMethodDescriptor y.desc = some sig → argsL.length = sig.parameters.length) {stk : List Value} (hstk : stk = argsL.reverse ++ st) (hd : decode c.code pc = .ok (.invokestatic index, 3))
    (hf : rm.frames + 1 ≤ R.frames) (hl : (st.map fun v => v.category).sum + (maxL + 11) + rm.locals ≤ R.locals) (hc : cells + rm.cells ≤ R.cells) (hs : slots + rm.slots ≤ R.slots) (hp : pc + 3 = pc')
    (k : ∀ v T' h', Wk p l e R s m args below meth c Z EL own ws nw T' h' (cells + rm.cells) (slots + rm.slots) → Keep h h' wsc → Q v h' → Gets p.tables e below P T' (mkF m pc' Ls (v.toList ++ st))) : Gets p.tables e below P T (mkF m pc Ls stk) := by
  subst hp
  obtain ⟨vm0, k0, locs, b0, X, eT, r⟩ := W
  obtain ⟨hS, hk, hZ, hown, hE, hC, hF, hO, hK, n1, n2⟩ := id r
  have sf : ∀ x : Nat, x ∈ wsc → x < h.size ∧ Safe Z EL vm0 h x := fun x hx => by
    rcases List.mem_append.mp (hwc x hx) with q | q
    · exact (n1 x q).2
    · exact (n2 x q).2.2
  obtain ⟨v, vm1, ⟨T', L', c', s'⟩, -, X', hS2, hg2, ⟨L, ⟨q1, q2, q3, q4⟩, l1, l2, l3, C'⟩, stp⟩ := callSS X hx (y := y) hown (mv (s := s.setVm vm0) hZ w1) (mv (s := s.setVm vm0) hZ w2) (mv (s := s.setVm vm0) hZ w3) (mv (s := s.setVm vm0) hZ w4) hy (backC (W := (st.map fun v => v.category).sum) H hZ w4 w3 hf hl hE hC.1 sf) (g := mkF m pc Ls stk) rfl hsz (argsL := argsL) (rest := st) hlen hstk (by show 2 * 0 + _ ≤ _; omega) hd (fun _ _ => ⟨rfl, eT, hc, hs⟩)
  dsimp only [Pt.U, Pt.locs, Pt.cells, Pt.slots] at X' hS2 hg2 q1 q3 q4 l1 l2 l3 C' stp
  subst l1 l2 l3
  exact (k v T' _ (Wk.called (h' := T'.heap) hwc X' rfl hS2 (Nat.le_refl _) (by rw [← eT]; exact hg2) q2 q3 q4 C' r) q3 q1).by fun t q => stp.trans q
theorem w_special (W : Wk p l e R s m args below meth c Z EL own ws nw T h cells slots) (hx : p.tables.exec = Jvm.exec) {index : Nat} {y : MethodName} {bytes : ByteArray} {maxL : Nat} {rm : Room} {Q : Option Value → Heap → Prop} {wsc : List Addr} {a : Nat} (argsL : List Value) (hy1 : y.name = "<init>")
    (w1 : (Cond.methodLink own index y).before a0 Z = true) (w2 : (Cond.instanceMethod y).before a0 Z = true) (w3 : (Cond.initialized y.cls).before a0 Z = true) (w4 : (Cond.code y bytes maxL none).before a0 Z = true) (hy : y.cls ≠ "java/lang/invoke/MethodHandle" ∧ y.cls ≠ "java/lang/invoke/VarHandle")
    (H : Con l Z EL y bytes maxL none rm (.ref a :: argsL).toArray h wsc Q) (hwc : ∀ x ∈ wsc, x ∈ ws ++ nw) (hsz : Ls.size = c.maxLocals) (hlen : ∀ sig, parseMethodDescriptor y.desc = some sig → argsL.length = sig.parameters.length) {stk : List Value} (hstk : stk = argsL.reverse ++ .ref a :: st) (hd : decode c.code pc = .ok (.invokespecial index, 3))
    (hf : rm.frames + 1 ≤ R.frames) (hl : (st.map fun v => v.category).sum + (maxL + 11) + rm.locals ≤ R.locals) (hc : cells + rm.cells ≤ R.cells) (hs : slots + rm.slots ≤ R.slots) (hp : pc + 3 = pc')
    (k : ∀ v T' h', Wk p l e R s m args below meth c Z EL own ws nw T' h' (cells + rm.cells) (slots + rm.slots) → Keep h h' wsc → Q v h' → Gets p.tables e below P T' (mkF m pc' Ls (v.toList ++ st))) : Gets p.tables e below P T (mkF m pc Ls stk) := by
  subst hp
  obtain ⟨vm0, k0, locs, b0, X, eT, r⟩ := W
  obtain ⟨hS, hk, hZ, hown, hE, hC, hF, hO, hK, n1, n2⟩ := id r
  have sf : ∀ x : Nat, x ∈ wsc → x < h.size ∧ Safe Z EL vm0 h x := fun x hx => by
    rcases List.mem_append.mp (hwc x hx) with q | q
    · exact (n1 x q).2
    · exact (n2 x q).2.2
  obtain ⟨v, vm1, ⟨T', L', c', s'⟩, -, X', hS2, hg2, ⟨L, ⟨q1, q2, q3, q4⟩, l1, l2, l3, C'⟩, stp⟩ := X.specialBackS hx (y := y) hy1 hown (mv (s := s.setVm vm0) hZ w1) (mv (s := s.setVm vm0) hZ w2) (mv (s := s.setVm vm0) hZ w4) hy (backC (W := (st.map fun v => v.category).sum) H hZ w4 w3 hf hl hE hC.1 sf) (g := mkF m pc Ls stk) rfl hsz (Steps.refl _) (a := a) (argsL := argsL) (rest := st) hlen hstk (by show 2 * 0 + _ ≤ _; omega) hd (fun _ _ => ⟨rfl, eT, hc, hs⟩)
  dsimp only [Pt.U, Pt.locs, Pt.cells, Pt.slots] at X' hS2 hg2 q1 q3 q4 l1 l2 l3 C' stp
  subst l1 l2 l3
  exact (k v T' _ (Wk.called (h' := T'.heap) hwc X' rfl hS2 (Nat.le_refl _) (by rw [← eT]; exact hg2) q2 q3 q4 C' r) q3 q1).by fun t q => stp.trans q
theorem w_virtual (W : Wk p l e R s m args below meth c Z EL own ws nw T h cells slots) (hx : p.tables.exec = Jvm.exec) {index : Nat} {y z : MethodName} {C : String} {bytes : ByteArray} {maxL : Nat} {ret : Option FieldType} {rm : Room} {Q : Option Value → Heap → Prop} {wsc : List Addr} {a : Nat} (argsL : List Value)
    (w1 : (Cond.methodLink own index y).before a0 Z = true) (w2 : (Cond.declares y).before a0 Z = true) (hnf : ∀ {U : State}, Z.Warmed39 U.vm → NotFace U y) (w3 : (Cond.selects C y z).before a0 Z = true) (w5 : (Cond.instanceMethod z).before a0 Z = true) (w6 : (Cond.initialized z.cls).before a0 Z = true) (w4 : (Cond.code z bytes maxL ret).before a0 Z = true) (hy : y.cls ≠ "java/lang/invoke/MethodHandle" ∧ y.cls ≠ "java/lang/invoke/VarHandle")
    (H : Con l Z EL z bytes maxL ret rm (.ref a :: argsL).toArray h wsc Q) (E : Exa Z h a C) (hwc : ∀ x ∈ wsc, x ∈ ws ++ nw) (hsz : Ls.size = c.maxLocals) (hlen : ∀ sig, parseMethodDescriptor y.desc = some sig → argsL.length = sig.parameters.length) {stk : List Value} (hstk : stk = argsL.reverse ++ .ref a :: st) (hd : decode c.code pc = .ok (.invokevirtual index, 3))
    (hf : rm.frames + 1 ≤ R.frames) (hl : (st.map fun v => v.category).sum + (maxL + 11) + rm.locals ≤ R.locals) (hc : cells + rm.cells ≤ R.cells) (hs : slots + rm.slots ≤ R.slots) (hp : pc + 3 = pc')
    (k : ∀ v T' h', Wk p l e R s m args below meth c Z EL own ws nw T' h' (cells + rm.cells) (slots + rm.slots) → Keep h h' wsc → Q v h' → Gets p.tables e below P T' (mkF m pc' Ls (v.toList ++ st))) : Gets p.tables e below P T (mkF m pc Ls stk) := by
  subst hp
  obtain ⟨vm0, k0, locs, b0, X, eT, r⟩ := W
  obtain ⟨hS, hk, hZ, hown, hE, hC, hF, hO, hK, n1, n2⟩ := id r
  have sf : ∀ x : Nat, x ∈ wsc → x < h.size ∧ Safe Z EL vm0 h x := fun x hx => by
    rcases List.mem_append.mp (hwc x hx) with q | q
    · exact (n1 x q).2
    · exact (n2 x q).2.2
  obtain ⟨cq, kq, qa, qb, qc⟩ := isOf (s := s.setVm vm0) hZ eT E
  obtain ⟨v, vm1, ⟨T', L', c', s'⟩, -, X', hS2, hg2, ⟨L, ⟨q1, q2, q3, q4⟩, l1, l2, l3, C'⟩, stp⟩ := X.virtualBackS hx (y := y) (z := z) hown (mv (s := s.setVm vm0) hZ w1) (mv (s := s.setVm vm0) hZ w2) (hnf (U := s.setVm vm0) hZ) (mv (s := s.setVm vm0) hZ w3) (mv (s := s.setVm vm0) hZ w5) hy (backC (W := (st.map fun v => v.category).sum) H hZ w4 w6 hf hl hE hC.1 sf) qa qc (g := mkF m pc Ls stk) rfl hsz (Steps.refl _) (argsL := argsL) (rest := st) hlen hstk (by show 2 * 0 + _ ≤ _; omega) hd (fun _ _ => ⟨rfl, eT, hc, hs⟩)
  dsimp only [Pt.U, Pt.locs, Pt.cells, Pt.slots] at X' hS2 hg2 q1 q3 q4 l1 l2 l3 C' stp
  subst l1 l2 l3
  exact (k v T' _ (Wk.called (h' := T'.heap) hwc X' rfl hS2 (Nat.le_refl _) (by rw [← eT]; exact hg2) q2 q3 q4 C' r) q3 q1).by fun t q => stp.trans q
theorem nfS {y z : MethodName} {C : String} (w : (Cond.selects C y y).before a0 Z = true) {U : State} (hZ : Z.Warmed39 U.vm) : NotFace U y := notFace_of_selects (args := #[]) (mv hZ w)
theorem w_iface (W : Wk p l e R s m args below meth c Z EL own ws nw T h cells slots) (hx : p.tables.exec = Jvm.exec) {index count : Nat} {y z : MethodName} {C : String} {bytes : ByteArray} {maxL : Nat} {ret : Option FieldType} {rm : Room} {Q : Option Value → Heap → Prop} {wsc : List Addr} {a : Nat} (argsL : List Value)
    (w1 : (Cond.methodLink own index y).before a0 Z = true) (w2 : (Cond.declares y).before a0 Z = true) (w7 : (Cond.interfaceMethod y.cls y.cls y.name y.desc).before a0 Z = true) (w3 : (Cond.selects C y z).before a0 Z = true) (w5 : (Cond.instanceMethod z).before a0 Z = true) (w8 : (Cond.publicMethod z).before a0 Z = true) (w9 : (Cond.unhidden C y.name y.desc).before a0 Z = true) (w10 : (Cond.castable C y.cls).before a0 Z = true) (w6 : (Cond.initialized z.cls).before a0 Z = true) (w4 : (Cond.code z bytes maxL ret).before a0 Z = true) (hy : y.cls ≠ "java/lang/invoke/MethodHandle" ∧ y.cls ≠ "java/lang/invoke/VarHandle")
    (H : Con l Z EL z bytes maxL ret rm (.ref a :: argsL).toArray h wsc Q) (E : Exa Z h a C) (hwc : ∀ x ∈ wsc, x ∈ ws ++ nw) (hsz : Ls.size = c.maxLocals) (hlen : ∀ sig, parseMethodDescriptor y.desc = some sig → argsL.length = sig.parameters.length) {stk : List Value} (hstk : stk = argsL.reverse ++ .ref a :: st) (hd : decode c.code pc = .ok (.invokeinterface index count, 5))
    (hf : rm.frames + 1 ≤ R.frames) (hl : (st.map fun v => v.category).sum + (maxL + 11) + rm.locals ≤ R.locals) (hc : cells + rm.cells ≤ R.cells) (hs : slots + rm.slots ≤ R.slots) (hp : pc + 5 = pc')
    (k : ∀ v T' h', Wk p l e R s m args below meth c Z EL own ws nw T' h' (cells + rm.cells) (slots + rm.slots) → Keep h h' wsc → Q v h' → Gets p.tables e below P T' (mkF m pc' Ls (v.toList ++ st))) : Gets p.tables e below P T (mkF m pc Ls stk) := by
  subst hp
  obtain ⟨vm0, k0, locs, b0, X, eT, r⟩ := W
  obtain ⟨hS, hk, hZ, hown, hE, hC, hF, hO, hK, n1, n2⟩ := id r
  have sf : ∀ x : Nat, x ∈ wsc → x < h.size ∧ Safe Z EL vm0 h x := fun x hx => by
    rcases List.mem_append.mp (hwc x hx) with q | q
    · exact (n1 x q).2
    · exact (n2 x q).2.2
  obtain ⟨cq, kq, qa, qb, qc⟩ := isOf (s := s.setVm vm0) hZ eT E
  obtain ⟨v, vm1, ⟨T', L', c', s'⟩, -, X', hS2, hg2, ⟨L, ⟨q1, q2, q3, q4⟩, l1, l2, l3, C'⟩, stp⟩ := X.interfaceBackS hx (xi := y) (y := z) hown (mv (s := s.setVm vm0) hZ w1) (mv (s := s.setVm vm0) hZ w2) (mv (s := s.setVm vm0) hZ w7 (by simp [Cond.onTables, Cond.keepsFace, Cond.keeps, Cond.steady, Cond.faceAtom, hy.1, hy.2])) (mv (s := s.setVm vm0) hZ w3) (mv (s := s.setVm vm0) hZ w5) (mv (s := s.setVm vm0) hZ w8) (mv (s := s.setVm vm0) hZ w9) (mv (s := s.setVm vm0) hZ w10) hy (backC (W := (st.map fun v => v.category).sum) H hZ w4 w6 hf hl hE hC.1 sf) qa qb qc (g := mkF m pc Ls stk) rfl hsz (Steps.refl _) (argsL := argsL) (rest := st) hlen hstk (by show 2 * 0 + _ ≤ _; omega) hd (fun _ _ => ⟨rfl, eT, hc, hs⟩)
  dsimp only [Pt.U, Pt.locs, Pt.cells, Pt.slots] at X' hS2 hg2 q1 q3 q4 l1 l2 l3 C' stp
  subst l1 l2 l3
  exact (k v T' _ (Wk.called (h' := T'.heap) hwc X' rfl hS2 (Nat.le_refl _) (by rw [← eT]; exact hg2) q2 q3 q4 C' r) q3 q1).by fun t q => stp.trans q
/-! String constants -/
theorem w_ldcS (W : Wk p l e R s m args below meth c Z EL own ws nw T h cells slots) (hx : p.tables.exec = Jvm.exec) {index : Nat} {text : String} (w : (Cond.stringLink own index text).before a0 Z = true) (wS : ∀ a ∈ Bundle.stringAtoms, a.before a0 Z = true) (hmem : (own, index) ∈ EL) {vs : List Value} {z : Int32} (ht : (∀ c ∈ text.toList, c.toNat < 256) ∧ text.toList.map (fun c => Value.int (Jvm.Lit.byteI c.toNat.toUInt16)) = vs) (hz : ¬ z < 0) (hzl : z.toNatClampNeg = vs.length)
    (hd : decode c.code pc = .ok (.ldc index, 2)) (n : Nat) (hn : 4 * text.toList.length ≤ n) (hbig : n ≤ 536870912) (hc : cells + 2 ≤ R.cells) (hl : slots + (n + 4) ≤ R.slots) (hp : pc + 2 = pc')
    (k : ∀ (T' : State) (h' : Heap) (a b : Nat), Wk p l e R s m args below meth c Z EL own ws nw T' h' (cells + 2) (slots + (n + 4)) → Keep h h' [] → Exa Z h' a "java/lang/String" → Fld Z h' a "java/lang/String" "coder" "B" (.int 0) → Fld Z h' a "java/lang/String" "value" "[B" (.ref b) → Ary Z h' b .byte vs → (∀ x ∈ ws ++ nw, x ≠ a ∧ x ≠ b) → Gets p.tables e below P T' (mkF m pc' Ls (.ref a :: st))) : Gets p.tables e below P T (mkF m pc Ls st) := by
  subst hp
  obtain ⟨vm0, k0, locs, b0, X, eT, hS, hk, hZ, hown, hE, hC, hF, hO, hK, n1, n2⟩ := W
  obtain ⟨a, T', h', k1, b, cb, X', e', E, hS2, hk2, hZ2, hown2, A, F1, F2, V, la, lb, C', -, hne, stp⟩ := ldcCH X hx hZ hown w wS eT hS hk hE hmem hC.1 ht hz hzl (g := mkF m pc Ls st) rfl hd hn hbig hc hl
  have sz := E.1
  have N1 : ∀ x : Nat, x ∈ ws → Z.heap.size ≤ x ∧ x < h'.size ∧ Safe Z EL T'.vm h' x := fun x hx => by
    obtain ⟨q1, q2, q3⟩ := n1 x hx
    exact ⟨q1, by omega, C'.safe q2 q3⟩
  have N2 : ∀ x : Nat, x ∈ nw → s.heap.size ≤ x ∧ Z.heap.size ≤ x ∧ x < h'.size ∧ Safe Z EL T'.vm h' x := fun x hx => by
    obtain ⟨q1, q2, q3, q4⟩ := n2 x hx
    exact ⟨q1, q2, by omega, C'.safe q3 q4⟩
  refine (k T' h' a b ⟨T'.vm, k1, locs, b0, X', e', hS2, hk2, hZ2, hown2, hE, hC.trans C', hF, ⟨Nat.le_trans hO.1 E.1, fun x cc q => E.2 x cc (hO.2 x cc q)⟩, hK.ext E, N1, N2⟩ ((Keep.refl h []).ext E) A F1 F2 (Ary.of_arv V hzl) fun x hx => ?_).by stp
  rcases List.mem_append.mp hx with q | q
  · exact hne x (N1 x q).2.2
  · exact hne x (N2 x q).2.2.2
end OwnWalk
section OwnPure
variable {p : Program} {l : Launch} {e : Env} {R : Room} {s : State} {m : MethodId} {args : Array Value} {below : List Frame} {meth : Method} {c : Code} {T : State} {Z : State} {a0 : Array Value} {h : Heap} {EL : List (String × Nat)} {own : String} {cells slots : Nat} {ws nw : List Addr} {P : Outcome → State → Prop} {pc pc' : Nat} {Ls : Array Slot} {st : List Value}
/-- it returns r and leaves the heap as it was -/
def pureQ (r : Option Value) (h : Heap) : Option Value → Heap → Prop := fun v h' => v = r ∧ h' = h
theorem w_callSp (W : Wk p l e R s m args below meth c Z EL own ws nw T h cells slots) (hx : p.tables.exec = Jvm.exec) {index : Nat} {y : MethodName} {bytes : ByteArray} {maxL : Nat} {ret : Option FieldType} {rm : Room} {r : Option Value} (argsL : List Value)
    (w1 : (Cond.methodLink own index y).before a0 Z = true) (w2 : (Cond.static y).before a0 Z = true) (w3 : (Cond.initialized y.cls).before a0 Z = true) (w4 : (Cond.code y bytes maxL ret).before a0 Z = true) (hy : y.cls ≠ "java/lang/invoke/MethodHandle" ∧ y.cls ≠ "java/lang/invoke/VarHandle")
    (H : Con l Z EL y bytes maxL ret rm argsL.toArray h [] (pureQ r h)) (hsz : Ls.size = c.maxLocals) (hlen : ∀ sig, parseMethodDescriptor y.desc = some sig → argsL.length = sig.parameters.length) {stk : List Value} (hstk : stk = argsL.reverse ++ st) (hd : decode c.code pc = .ok (.invokestatic index, 3))
    (hf : rm.frames + 1 ≤ R.frames) (hl : (st.map fun v => v.category).sum + (maxL + 11) + rm.locals ≤ R.locals) (hc : rm.cells = 0) (hs : rm.slots = 0) (hc' : cells ≤ R.cells) (hs' : slots ≤ R.slots) (hp : pc + 3 = pc')
    (k : ∀ T', Wk p l e R s m args below meth c Z EL own ws nw T' h cells slots → Gets p.tables e below P T' (mkF m pc' Ls (r.toList ++ st))) : Gets p.tables e below P T (mkF m pc Ls stk) :=
  w_callS W hx argsL w1 w2 w3 w4 hy H all0 hsz hlen hstk hd hf hl (by rw [hc]; exact hc') (by rw [hs]; exact hs') hp fun v T' h' W' K q => by
    obtain ⟨e1, e2⟩ := q
    subst e1; rw [e2] at W'; rw [hc, hs] at W'; exact k T' W'
theorem w_virtualp (W : Wk p l e R s m args below meth c Z EL own ws nw T h cells slots) (hx : p.tables.exec = Jvm.exec) {index : Nat} {y z : MethodName} {C : String} {bytes : ByteArray} {maxL : Nat} {ret : Option FieldType} {rm : Room} {r : Option Value} {a : Nat} (argsL : List Value)
    (w1 : (Cond.methodLink own index y).before a0 Z = true) (w2 : (Cond.declares y).before a0 Z = true) (hnf : ∀ {U : State}, Z.Warmed39 U.vm → NotFace U y) (w3 : (Cond.selects C y z).before a0 Z = true) (w5 : (Cond.instanceMethod z).before a0 Z = true) (w6 : (Cond.initialized z.cls).before a0 Z = true) (w4 : (Cond.code z bytes maxL ret).before a0 Z = true) (hy : y.cls ≠ "java/lang/invoke/MethodHandle" ∧ y.cls ≠ "java/lang/invoke/VarHandle")
    (H : Con l Z EL z bytes maxL ret rm (.ref a :: argsL).toArray h [] (pureQ r h)) (E : Exa Z h a C) (hsz : Ls.size = c.maxLocals) (hlen : ∀ sig, parseMethodDescriptor y.desc = some sig → argsL.length = sig.parameters.length) {stk : List Value} (hstk : stk = argsL.reverse ++ .ref a :: st) (hd : decode c.code pc = .ok (.invokevirtual index, 3))
    (hf : rm.frames + 1 ≤ R.frames) (hl : (st.map fun v => v.category).sum + (maxL + 11) + rm.locals ≤ R.locals) (hc : rm.cells = 0) (hs : rm.slots = 0) (hc' : cells ≤ R.cells) (hs' : slots ≤ R.slots) (hp : pc + 3 = pc')
    (k : ∀ T', Wk p l e R s m args below meth c Z EL own ws nw T' h cells slots → Gets p.tables e below P T' (mkF m pc' Ls (r.toList ++ st))) : Gets p.tables e below P T (mkF m pc Ls stk) :=
  w_virtual W hx argsL w1 w2 hnf w3 w5 w6 w4 hy H E all0 hsz hlen hstk hd hf hl (by rw [hc]; exact hc') (by rw [hs]; exact hs') hp fun v T' h' W' K q => by
    obtain ⟨e1, e2⟩ := q
    subst e1; rw [e2] at W'; rw [hc, hs] at W'; exact k T' W'
theorem w_ifacep (W : Wk p l e R s m args below meth c Z EL own ws nw T h cells slots) (hx : p.tables.exec = Jvm.exec) {index count : Nat} {y z : MethodName} {C : String} {bytes : ByteArray} {maxL : Nat} {ret : Option FieldType} {rm : Room} {r : Option Value} {a : Nat} (argsL : List Value)
    (w1 : (Cond.methodLink own index y).before a0 Z = true) (w2 : (Cond.declares y).before a0 Z = true) (w7 : (Cond.interfaceMethod y.cls y.cls y.name y.desc).before a0 Z = true) (w3 : (Cond.selects C y z).before a0 Z = true) (w5 : (Cond.instanceMethod z).before a0 Z = true) (w8 : (Cond.publicMethod z).before a0 Z = true) (w9 : (Cond.unhidden C y.name y.desc).before a0 Z = true) (w10 : (Cond.castable C y.cls).before a0 Z = true) (w6 : (Cond.initialized z.cls).before a0 Z = true) (w4 : (Cond.code z bytes maxL ret).before a0 Z = true) (hy : y.cls ≠ "java/lang/invoke/MethodHandle" ∧ y.cls ≠ "java/lang/invoke/VarHandle")
    (H : Con l Z EL z bytes maxL ret rm (.ref a :: argsL).toArray h [] (pureQ r h)) (E : Exa Z h a C) (hsz : Ls.size = c.maxLocals) (hlen : ∀ sig, parseMethodDescriptor y.desc = some sig → argsL.length = sig.parameters.length) {stk : List Value} (hstk : stk = argsL.reverse ++ .ref a :: st) (hd : decode c.code pc = .ok (.invokeinterface index count, 5))
    (hf : rm.frames + 1 ≤ R.frames) (hl : (st.map fun v => v.category).sum + (maxL + 11) + rm.locals ≤ R.locals) (hc : rm.cells = 0) (hs : rm.slots = 0) (hc' : cells ≤ R.cells) (hs' : slots ≤ R.slots) (hp : pc + 5 = pc')
    (k : ∀ T', Wk p l e R s m args below meth c Z EL own ws nw T' h cells slots → Gets p.tables e below P T' (mkF m pc' Ls (r.toList ++ st))) : Gets p.tables e below P T (mkF m pc Ls stk) :=
  w_iface W hx argsL w1 w2 w7 w3 w5 w8 w9 w10 w6 w4 hy H E all0 hsz hlen hstk hd hf hl (by rw [hc]; exact hc') (by rw [hs]; exact hs') hp fun v T' h' W' K q => by
    obtain ⟨e1, e2⟩ := q
    subst e1; rw [e2] at W'; rw [hc, hs] at W'; exact k T' W'
theorem g_name {tb : Tables} {v w : Value} (q : w = v) (k : Gets tb e below P T (mkF m pc Ls (w :: st))) : Gets tb e below P T (mkF m pc Ls (v :: st)) := q ▸ k
end OwnPure
section OwnFresh
variable {p : Program} {l : Launch} {e : Env} {R : Room} {s : State} {m : MethodId} {args : Array Value} {below : List Frame} {meth : Method} {c : Code} {T : State} {Z : State} {a0 : Array Value} {h : Heap} {EL : List (String × Nat)} {own : String} {cells slots : Nat} {ws nw : List Addr} {P : Outcome → State → Prop} {pc pc' : Nat} {Ls : Array Slot} {st : List Value}
def ConF (l : Launch) (Z : State) (EL : List (String × Nat)) (y : MethodName) (bytes : ByteArray) (maxL : Nat) (ret : Option FieldType) (rm : Room) (as' : Array Value) (h0 : Heap) (ws : List Addr) (Q : List Addr → Option Value → Heap → Prop) : Prop :=
  MetFree l y (head1 [Cond.code y bytes maxL ret] rm) (fun a U => a = as' ∧ Z.Warmed39 U.vm ∧ U.heap = h0 ∧ CHv Z EL U.vm h0 ∧ ∀ x ∈ ws, Safe Z EL U.vm h0 x) (fun _ _ _ _ _ => True)
    (fun _ U o U' => ∃ v L N, o = .returned v ∧ (Q N v U'.heap ∧ Fr Z.heap.size L ∧ Keep h0 U'.heap ws ∧ Ext Z.heap U'.heap ∧ ∀ x : Nat, x ∈ N → h0.size ≤ x ∧ x < U'.heap.size ∧ Safe Z EL U'.vm U'.heap x) ∧ CHr Z EL U.vm U.heap U'.vm U'.heap ∧ ReturnedEndW U o U' L rm.cells rm.slots)
def PostF (s : State) (Z : State) (EL : List (String × Nat)) (rm : Room) (h0 : Heap) (ws : List Addr) (Q : List Addr → Option Value → Heap → Prop) (o : Outcome) (t : State) : Prop :=
  ∃ v L N, o = .returned v ∧ (Q N v t.heap ∧ Fr Z.heap.size L ∧ Keep h0 t.heap ws ∧ Ext Z.heap t.heap ∧ ∀ x : Nat, x ∈ N → h0.size ≤ x ∧ x < t.heap.size ∧ Safe Z EL t.vm t.heap x) ∧ CHr Z EL s.vm s.heap t.vm t.heap ∧ ReturnedEndW s o t L rm.cells rm.slots
theorem ConF.of {y : MethodName} {bytes : ByteArray} {maxL : Nat} {ret : Option FieldType} {rm : Room} {as' : Array Value} {h0 : Heap} {Q : List Addr → Option Value → Heap → Prop} (Ls : Array Slot)
    (hy : plainFor y = true) (hE : EW Z a0 EL) (O : Ext Z.heap h0) (hws : ∀ x : Nat, x ∈ ws → Z.heap.size ≤ x ∧ x < h0.size) (hent : ∀ m, entryFrame m as' maxL = mkF m 0 Ls [])
    (body : ∀ (p : Program) (e : Env) (s : State) (m : MethodId) (below : List Frame) (meth : Method) (c : Code) (T : State), p.tables.exec = Jvm.exec → c.code = bytes → c.maxLocals = maxL → meth.name = y.name → meth.sig.returnType = ret → meth.locks = false → s.heap = h0 →
      Wk p l e rm s m as' below meth c Z EL y.cls ws [] T h0 0 0 → Gets p.tables e below (PostF s Z EL rm h0 ws Q) T (mkF m 0 Ls [])) :
    ConF l Z EL y bytes maxL ret rm as' h0 ws Q := by
  refine MetFree.of_bodySF hy hisR ?_
  intro p e s m args below meth c s₁ Bd hml0 hP hK
  obtain ⟨rfl, hZ, hh, hC, hS⟩ := hP
  have hh' : s.heap = h0 := hh
  have hl : meth.locks = false := Bd.notSynchronized
  have e0 : s₁.heap = h0 := by rw [← hh, Bd.state]; rfl
  have X0 : Stand p l e rm s m args below meth c s₁ [] 0 0 := Stand.of_body Bd
  have W : Wk p l e rm s m args below meth c Z EL y.cls ws [] s₁ h0 0 0 :=
    ⟨s.vm, h0.size, [], a0, X0, e0, (State.WarmedH.refl s).since _, Nat.le_refl _, hZ, findClass_of_methodNamed Bd.named, hE, by rw [hh']; exact CHr.refl hC, Fr.nil _, O, by rw [hh']; exact Keep.refl _ _, fun x hx => ⟨(hws x hx).1, (hws x hx).2, hS x hx⟩, fun x hx => (nomatch hx)⟩
  obtain ⟨t, o, h1, h2, h3, h4⟩ := body p e s m below meth c s₁ Bd.exec Bd.bytes hml0 (name_of_methodNamed Bd.named Bd.method).1 Bd.returns hl hh' W
  exact ⟨t, o, by rw [hent m]; exact h1, h2, h3, h4⟩
theorem w_endF {rm : Room} {h0 : Heap} {Q : List Addr → Option Value → Heap → Prop} (W : Wk p l e R s m args below meth c Z EL own ws nw T h cells slots) (hh : s.heap = h0) {v : Option Value} {g : JFrame} (hl : meth.locks = false) (hv : meth.sig.returnType = none → v = none)
    (st : ∀ {vm0 : Vm} {locs : List Loc} {fs : List Frame}, Stand p l e R (s.setVm vm0) m args below meth c T locs cells slots → (∀ (f : JFrame) (acts : List Action), f.method = m → f.locked = none → f.entered = [] → (doReturn e (T.setTop f) acts v).1 = T.setFrames fs) → Steps p.tables e below (T.setTop g) (T.setFrames fs))
    (hc : cells ≤ rm.cells) (hs : slots ≤ rm.slots) (N : List Addr) (hN : ∀ x ∈ N, x ∈ nw) (q : Q N v h) : Gets p.tables e below (PostF s Z EL rm h0 ws Q) T g := by
  obtain ⟨vm0, k0, locs, b0, X, eT, hS, hk, hZ, hown, hE, hC, hF, hO, hK, -, n2⟩ := W
  obtain ⟨fs, h1, h2, h3, r1, r2, r3, r4⟩ := X.leaveW hS (by rw [eT]; exact hk) hv hl
  subst hh
  have hA := CHv.at X hZ hE hC.1
  refine ⟨_, _, st X h1, h2, h3, v, locs, N, rfl, ⟨?_, hF, ?_, ?_, ?_⟩, ?_, r1, r2, r3, r4.mono hc hs⟩
  · show Q N v T.heap; rw [eT]; exact q
  · show Keep _ T.heap _; rw [eT]; exact hK
  · show Ext _ T.heap; rw [eT]; exact hO
  · intro x hx
    obtain ⟨q1, q2, q3, q4⟩ := n2 x (hN x hx)
    refine ⟨q1, ?_, ?_⟩
    · show x < T.heap.size; rw [eT]; exact q3
    · show Safe Z EL T.vm T.heap x; rw [eT]; exact hA.safe q3 q4
  · show CHr Z EL s.vm s.heap T.vm T.heap
    rw [eT]
    exact hC.trans hA
theorem w_retAF {rm : Room} {h0 : Heap} {Q : List Addr → Option Value → Heap → Prop} {w : Value} {t : FieldType} (W : Wk p l e R s m args below meth c Z EL own ws nw T h cells slots) (hx : p.tables.exec = Jvm.exec) (hh : s.heap = h0) (hl : meth.locks = false) (hret : meth.sig.returnType = some t) (ht : t.isReference = true) (hw : w.isRef = true) (hd : decode c.code pc = .ok (.areturn, 1)) (hc : cells ≤ rm.cells) (hs : slots ≤ rm.slots) (N : List Addr) (hN : ∀ x ∈ N, x ∈ nw) (q : Q N (some w) h) :
    Gets p.tables e below (PostF s Z EL rm h0 ws Q) T (mkF m pc Ls (w :: st)) :=
  w_endF W hh hl (fun q => by rw [hret] at q; cases q) (fun X hr => retOut X hx hret (by cases t <;> cases w <;> simp [FieldType.isReference, Value.isRef, narrow] at ht hw ⊢) (Or.inr (Or.inr (Or.inr (Or.inr ⟨rfl, ht, hw⟩)))) hd hr) hc hs N hN q
theorem w_retVF {rm : Room} {h0 : Heap} {Q : List Addr → Option Value → Heap → Prop} (W : Wk p l e R s m args below meth c Z EL own ws nw T h cells slots) (hx : p.tables.exec = Jvm.exec) (hh : s.heap = h0) (hl : meth.locks = false) (hret : meth.sig.returnType = none) (hd : decode c.code pc = .ok (.return_, 1)) (hc : cells ≤ rm.cells) (hs : slots ≤ rm.slots) (N : List Addr) (hN : ∀ x ∈ N, x ∈ nw) (q : Q N none h) :
    Gets p.tables e below (PostF s Z EL rm h0 ws Q) T (mkF m pc Ls []) :=
  w_endF W hh hl (fun _ => rfl) (fun X hr => X.returnOut hx hret hd hr) hc hs N hN q
theorem w_retNF {rm : Room} {h0 : Heap} {Q : List Addr → Option Value → Heap → Prop} {z : Int32} {t : FieldType} (W : Wk p l e R s m args below meth c Z EL own ws nw T h cells slots) (hx : p.tables.exec = Jvm.exec) (hh : s.heap = h0) (hl : meth.locks = false) (hret : meth.sig.returnType = some t) (ht : t = .boolean ∨ t = .byte ∨ t = .char ∨ t = .short) (hd : decode c.code pc = .ok (.ireturn, 1)) (hc : cells ≤ rm.cells) (hs : slots ≤ rm.slots) (N : List Addr) (hN : ∀ x ∈ N, x ∈ nw) (q : Q N (some (.int (nar t z))) h) :
    Gets p.tables e below (PostF s Z EL rm h0 ws Q) T (mkF m pc Ls (.int z :: st)) :=
  w_endF W hh hl (fun q => by rw [hret] at q; cases q) (fun X hr => retN X hx hret ht hd hr) hc hs N hN q
theorem backCF {y : MethodName} {bytes : ByteArray} {maxL : Nat} {ret : Option FieldType} {rm : Room} {len W : Nat} {as' : Array Value} {Q : List Addr → Option Value → Heap → Prop} {vm0 : Vm} {wsc : List Addr}
    (hM : ConF l Z EL y bytes maxL ret rm as' h wsc Q) (hZ : Z.Warmed39 vm0) (wc : (Cond.code y bytes maxL ret).before a0 Z = true) (wz : (Cond.initialized y.cls).before a0 Z = true) (hf : rm.frames + 1 ≤ R.frames) (hl : W + (maxL + 11) + rm.locals ≤ R.locals) {b0 : Array Value} (hEL : EW Z b0 EL) (H : CHv Z EL vm0 h) (hs : ∀ x : Nat, x ∈ wsc → x < h.size ∧ Safe Z EL vm0 h x) :
    BackS l R p e below (s.setVm vm0) args y len W (fun A a => a = as' ∧ A.U.heap = h ∧ A.cells + rm.cells ≤ R.cells ∧ A.slots + rm.slots ≤ R.slots)
      (fun A _ v B => ∃ L N, (Q N v B.U.heap ∧ Fr Z.heap.size L ∧ Keep h B.U.heap wsc ∧ Ext Z.heap B.U.heap ∧ ∀ x : Nat, x ∈ N → h.size ≤ x ∧ x < B.U.heap.size ∧ Safe Z EL B.U.vm B.U.heap x) ∧ B.locs = A.locs ++ L ∧ B.cells = A.cells + rm.cells ∧ B.slots = A.slots + rm.slots ∧ CHr Z EL vm0 h B.U.vm B.U.heap) :=
  BackS.of_freeW (bytes := bytes) (maxL := maxL) (ret := ret) (E := fun _ first o t L k n => k = rm.cells ∧ n = rm.slots ∧ (∃ v N, o = .returned v ∧ (Q N v t.heap ∧ Fr Z.heap.size L ∧ Keep h t.heap wsc ∧ Ext Z.heap t.heap ∧ ∀ x : Nat, x ∈ N → h.size ≤ x ∧ x < t.heap.size ∧ Safe Z EL t.vm t.heap x)) ∧ CHr Z EL first.vm first.heap t.vm t.heap) hM hf hl
    (fun m meth c A a Y hp => have hU : Z.Warmed39 A.U.vm := wtrans (s := s.setVm vm0) hZ Y.warmed
      ⟨by show (Cond.and _ .tt).before a A.U = true; rw [Cond.before_and, mv hU wc]; rfl, mv hU wc, mv hU wz, hp.2.2.1, hp.2.2.2⟩)
    (fun m meth c A a g mk Y hp => ⟨hp.1, wtrans (s := s.setVm vm0) hZ Y.warmed, hp.2.1, (CHv.at Y hZ hEL H).1, fun x hx => (CHv.at Y hZ hEL H).safe (hs x hx).1 (hs x hx).2⟩) (fun _ _ _ _ _ _ _ _ _ => trivial)
    (fun _ _ _ _ ⟨v, L, N, h1, h2, h3, h4⟩ => ⟨L, _, _, h4, rfl, rfl, ⟨v, N, h1, h2⟩, h3⟩)
    (fun m meth c A a g mk v t L k n Y hp _ _ ⟨e1, e2, ⟨v', N, e3, e4⟩, e5⟩ => by
      cases e3; subst e1 e2
      refine ⟨L, N, e4, rfl, rfl, rfl, (CHv.at Y hZ hEL H).trans ?_⟩
      rw [← hp.2.1]; exact e5)
theorem Wk.calledF {vm0 : Vm} {k0 : Nat} {locs L : List Loc} {b0 : Array Value} {T' : State} {h' : Heap} {wsc N : List Addr} {n c' s' : Nat} (hw : ∀ x ∈ wsc, x ∈ ws ++ nw) (X' : Stand p l e R ((s.setVm vm0).setVm T'.vm) m args below meth c T' (locs ++ L) c' s') (e' : T'.heap = h') (h2 : (s.setVm vm0).Since T'.vm n) (hn : n ≤ h'.size) (hln : h.size ≤ n) (F : Fr Z.heap.size L) (K : Keep h h' wsc) (O' : Ext Z.heap h') (hN : ∀ x : Nat, x ∈ N → h.size ≤ x ∧ x < h'.size ∧ Safe Z EL T'.vm h' x) (C' : CHr Z EL vm0 h T'.vm h')
    (r : s.Since vm0 k0 ∧ k0 ≤ h.size ∧ Z.Warmed39 vm0 ∧ vm0.findClass own = some m.cls ∧ EW Z b0 EL ∧ CHr Z EL s.vm s.heap vm0 h ∧ Fr Z.heap.size locs ∧ Ext Z.heap h ∧ Keep s.heap h ws ∧ (∀ x : Nat, x ∈ ws → Z.heap.size ≤ x ∧ x < h.size ∧ Safe Z EL vm0 h x) ∧ (∀ x : Nat, x ∈ nw → s.heap.size ≤ x ∧ Z.heap.size ≤ x ∧ x < h.size ∧ Safe Z EL vm0 h x)) :
    Wk p l e R s m args below meth c Z EL own ws (N ++ nw) T' h' c' s' := by
  obtain ⟨hS, hk, hZ, hown, hE, hC, hF, hO, hK, n1, n2⟩ := r
  have sz := K.1
  refine ⟨T'.vm, n, locs ++ L, b0, X', e', hS.trans h2 (by omega), hn, State.Warmed39.trans (t := s.setVm vm0) hZ h2.1, (h2.1.alike.findClass _ _).trans hown, hE, hC.trans C', Fr.app hF F, O', hK.trans K (fun x hx => ?_), fun x hx => ?_, fun x hx => ?_⟩
  · rcases List.mem_append.mp (hw x hx) with q | q
    · exact Or.inl q
    · exact Or.inr (n2 x q).1
  · obtain ⟨q1, q2, q3⟩ := n1 x hx
    exact ⟨q1, by omega, C'.safe q2 q3⟩
  · have ks := hK.1
    have os := hO.1
    rcases List.mem_append.mp hx with hx | hx
    · obtain ⟨q1, q2, q3⟩ := hN x hx
      exact ⟨by omega, by omega, q2, q3⟩
    · obtain ⟨q1, q2, q3, q4⟩ := n2 x hx
      exact ⟨q1, q2, by omega, C'.safe q3 q4⟩
theorem w_callSF (W : Wk p l e R s m args below meth c Z EL own ws nw T h cells slots) (hx : p.tables.exec = Jvm.exec) {index : Nat} {y : MethodName} {bytes : ByteArray} {maxL : Nat} {ret : Option FieldType} {rm : Room} {Q : List Addr → Option Value → Heap → Prop} {wsc : List Addr} (argsL : List Value)
    (w1 : (Cond.methodLink own index y).before a0 Z = true) (w2 : (Cond.static y).before a0 Z = true) (w3 : (Cond.initialized y.cls).before a0 Z = true) (w4 : (Cond.code y bytes maxL ret).before a0 Z = true) (hy : y.cls ≠ "java/lang/invoke/MethodHandle" ∧ y.cls ≠ "java/lang/invoke/VarHandle")
    (H : ConF l Z EL y bytes maxL ret rm argsL.toArray h wsc Q) (hwc : ∀ x ∈ wsc, x ∈ ws ++ nw) (hsz : Ls.size = c.maxLocals) (hlen : ∀ sig, parseMethodDescriptor y.desc = some sig → argsL.length = sig.parameters.length) {stk : List Value} (hstk : stk = argsL.reverse ++ st) (hd : decode c.code pc = .ok (.invokestatic index, 3))
    (hf : rm.frames + 1 ≤ R.frames) (hl : (st.map fun v => v.category).sum + (maxL + 11) + rm.locals ≤ R.locals) (hc : cells + rm.cells ≤ R.cells) (hs : slots + rm.slots ≤ R.slots) (hp : pc + 3 = pc')
    (k : ∀ N v T' h', Wk p l e R s m args below meth c Z EL own ws (N ++ nw) T' h' (cells + rm.cells) (slots + rm.slots) → Keep h h' wsc → (∀ x : Nat, x ∈ N → h.size ≤ x ∧ x < h'.size) → Q N v h' → Gets p.tables e below P T' (mkF m pc' Ls (v.toList ++ st))) : Gets p.tables e below P T (mkF m pc Ls stk) := by
  subst hp
  obtain ⟨vm0, k0, locs, b0, X, eT, r⟩ := W
  obtain ⟨hS, hk, hZ, hown, hE, hC, hF, hO, hK, n1, n2⟩ := id r
  have sf : ∀ x : Nat, x ∈ wsc → x < h.size ∧ Safe Z EL vm0 h x := fun x hx => by
    rcases List.mem_append.mp (hwc x hx) with q | q
    · exact (n1 x q).2
    · exact (n2 x q).2.2
  obtain ⟨v, vm1, ⟨T', L', c', s'⟩, -, X', hS2, hg2, ⟨L, N, ⟨q1, q2, q3, q4, q5⟩, l1, l2, l3, C'⟩, stp⟩ := callSS X hx (y := y) hown (mv (s := s.setVm vm0) hZ w1) (mv (s := s.setVm vm0) hZ w2) (mv (s := s.setVm vm0) hZ w3) (mv (s := s.setVm vm0) hZ w4) hy (backCF (W := (st.map fun v => v.category).sum) H hZ w4 w3 hf hl hE hC.1 sf) (g := mkF m pc Ls stk) rfl hsz (argsL := argsL) (rest := st) hlen hstk (by show 2 * 0 + _ ≤ _; omega) hd (fun _ _ => ⟨rfl, eT, hc, hs⟩)
  dsimp only [Pt.U, Pt.locs, Pt.cells, Pt.slots] at X' hS2 hg2 q1 q3 q4 q5 l1 l2 l3 C' stp
  subst l1 l2 l3
  exact (k N v T' _ (Wk.calledF (h' := T'.heap) hwc X' rfl hS2 (Nat.le_refl _) (by rw [← eT]; exact hg2) q2 q3 q4 q5 C' r) q3 (fun x hx => ⟨(q5 x hx).1, (q5 x hx).2.1⟩) q1).by fun t q => stp.trans q
theorem w_ifaceF (W : Wk p l e R s m args below meth c Z EL own ws nw T h cells slots) (hx : p.tables.exec = Jvm.exec) {index count : Nat} {y z : MethodName} {C : String} {bytes : ByteArray} {maxL : Nat} {ret : Option FieldType} {rm : Room} {Q : List Addr → Option Value → Heap → Prop} {wsc : List Addr} {a : Nat} (argsL : List Value)
    (w1 : (Cond.methodLink own index y).before a0 Z = true) (w2 : (Cond.declares y).before a0 Z = true) (w7 : (Cond.interfaceMethod y.cls y.cls y.name y.desc).before a0 Z = true) (w3 : (Cond.selects C y z).before a0 Z = true) (w5 : (Cond.instanceMethod z).before a0 Z = true) (w8 : (Cond.publicMethod z).before a0 Z = true) (w9 : (Cond.unhidden C y.name y.desc).before a0 Z = true) (w10 : (Cond.castable C y.cls).before a0 Z = true) (w6 : (Cond.initialized z.cls).before a0 Z = true) (w4 : (Cond.code z bytes maxL ret).before a0 Z = true) (hy : y.cls ≠ "java/lang/invoke/MethodHandle" ∧ y.cls ≠ "java/lang/invoke/VarHandle")
    (H : ConF l Z EL z bytes maxL ret rm (.ref a :: argsL).toArray h wsc Q) (E : Exa Z h a C) (hwc : ∀ x ∈ wsc, x ∈ ws ++ nw) (hsz : Ls.size = c.maxLocals) (hlen : ∀ sig, parseMethodDescriptor y.desc = some sig → argsL.length = sig.parameters.length) {stk : List Value} (hstk : stk = argsL.reverse ++ .ref a :: st) (hd : decode c.code pc = .ok (.invokeinterface index count, 5))
    (hf : rm.frames + 1 ≤ R.frames) (hl : (st.map fun v => v.category).sum + (maxL + 11) + rm.locals ≤ R.locals) (hc : cells + rm.cells ≤ R.cells) (hs : slots + rm.slots ≤ R.slots) (hp : pc + 5 = pc')
    (k : ∀ N v T' h', Wk p l e R s m args below meth c Z EL own ws (N ++ nw) T' h' (cells + rm.cells) (slots + rm.slots) → Keep h h' wsc → (∀ x : Nat, x ∈ N → h.size ≤ x ∧ x < h'.size) → Q N v h' → Gets p.tables e below P T' (mkF m pc' Ls (v.toList ++ st))) : Gets p.tables e below P T (mkF m pc Ls stk) := by
  subst hp
  obtain ⟨vm0, k0, locs, b0, X, eT, r⟩ := W
  obtain ⟨hS, hk, hZ, hown, hE, hC, hF, hO, hK, n1, n2⟩ := id r
  have sf : ∀ x : Nat, x ∈ wsc → x < h.size ∧ Safe Z EL vm0 h x := fun x hx => by
    rcases List.mem_append.mp (hwc x hx) with q | q
    · exact (n1 x q).2
    · exact (n2 x q).2.2
  obtain ⟨cq, kq, qa, qb, qc⟩ := isOf (s := s.setVm vm0) hZ eT E
  obtain ⟨v, vm1, ⟨T', L', c', s'⟩, -, X', hS2, hg2, ⟨L, N, ⟨q1, q2, q3, q4, q5⟩, l1, l2, l3, C'⟩, stp⟩ := X.interfaceBackS hx (xi := y) (y := z) hown (mv (s := s.setVm vm0) hZ w1) (mv (s := s.setVm vm0) hZ w2) (mv (s := s.setVm vm0) hZ w7 (by simp [Cond.onTables, Cond.keepsFace, Cond.keeps, Cond.steady, Cond.faceAtom, hy.1, hy.2])) (mv (s := s.setVm vm0) hZ w3) (mv (s := s.setVm vm0) hZ w5) (mv (s := s.setVm vm0) hZ w8) (mv (s := s.setVm vm0) hZ w9) (mv (s := s.setVm vm0) hZ w10) hy (backCF (W := (st.map fun v => v.category).sum) H hZ w4 w6 hf hl hE hC.1 sf) qa qb qc (g := mkF m pc Ls stk) rfl hsz (Steps.refl _) (argsL := argsL) (rest := st) hlen hstk (by show 2 * 0 + _ ≤ _; omega) hd (fun _ _ => ⟨rfl, eT, hc, hs⟩)
  dsimp only [Pt.U, Pt.locs, Pt.cells, Pt.slots] at X' hS2 hg2 q1 q3 q4 q5 l1 l2 l3 C' stp
  subst l1 l2 l3
  exact (k N v T' _ (Wk.calledF (h' := T'.heap) hwc X' rfl hS2 (Nat.le_refl _) (by rw [← eT]; exact hg2) q2 q3 q4 q5 C' r) q3 (fun x hx => ⟨(q5 x hx).1, (q5 x hx).2.1⟩) q1).by fun t q => stp.trans q
/-- an array of references over the class C: its exact content -/
def AryR (Z : State) (h : Heap) (a : Addr) (C : String) (vs : List Value) : Prop := ∃ cl : Cell, Arr Z h a cl (.object C) ∧ Ovr Z cl.cls C ∧ cl.slots.toList = vs ∧ vs.length < 2 ^ 31 ∧ ∀ v ∈ vs, fits (.object C) v = true
theorem AryR.ary {Z : State} {h : Heap} {a : Addr} {C : String} {vs : List Value} (F : AryR Z h a C vs) : Ary Z h a (.object C) vs := by obtain ⟨c, A, -, r⟩ := F; exact ⟨c, A, r⟩
theorem AryR.lt {Z : State} {h : Heap} {a : Addr} {C : String} {vs : List Value} (F : AryR Z h a C vs) : a < h.size := F.ary.lt
theorem AryR.keep {Z : State} {h h' : Heap} {a : Addr} {C : String} {vs : List Value} {ws : List Addr} (F : AryR Z h a C vs) (K : Keep h h' ws) (q : a ∉ ws) : AryR Z h' a C vs := by obtain ⟨c, A, r⟩ := F; exact ⟨c, ⟨K.2.1 a c A.1 q, A.2⟩, r⟩
theorem AryR.made {Z : State} {h : Heap} {a : Addr} {C : String} {k : ClassId} {n : Int32} (A : Arr Z h a (newA k (.object C) n) (.object C)) (O : Ovr Z k C) (hn : ¬ n < 0) : AryR Z h a C (List.replicate n.toNatClampNeg .null) :=
  ⟨_, A, O, by simp [newA, defaultValue], by rw [List.length_replicate]; exact (back32 hn).2, fun v hv => by rw [(List.mem_replicate.mp hv).2]; rfl⟩
theorem AryR.wrote {Z : State} {h h' : Heap} {a : Addr} {C : String} {vs : List Value} {cl : Cell} {y : Addr} {i : Nat} (A : Arr Z h a cl (.object C)) (O : Ovr Z cl.cls C) (e : cl.slots.toList = vs) (hl : vs.length < 2 ^ 31) (hf : ∀ w ∈ vs, fits (.object C) w = true) (W : Wr h h' a i (.ref y)) : AryR Z h' a C (vs.set i (.ref y)) := by
  refine ⟨cl.setSlot i (.ref y), A.same W, O, ?_, by rw [List.length_set]; exact hl, fun w hw => ?_⟩
  · rw [← e]; simp [Cell.setSlot]
  · rcases List.mem_or_eq_of_mem_set hw with q | q
    · exact hf w q
    · rw [q]; rfl
theorem w_anewarr (W : Wk p l e R s m args below meth c Z EL own ws nw T h cells slots) (hx : p.tables.exec = Jvm.exec) {C : String} {index : Nat} (w : (Cond.classLink own index C).before a0 Z = true) (w2 : (Cond.arrayOver (.object C)).before a0 Z = true) {n : Int32} (hd : decode c.code pc = .ok (.anewarray index, 3)) (hn : ¬ n < 0) {cap : Nat} (hcap : n.toNatClampNeg ≤ cap) (hb : cap * 8 ≤ 536870912) (hc : cells + 1 ≤ R.cells) (hl : slots + cap ≤ R.slots) (hp : pc + 3 = pc')
    (k : ∀ (T' : State) (h' : Heap) (b : Nat), b = h.size → Wk p l e R s m args below meth c Z EL own ws (b :: nw) T' h' (cells + 1) (slots + cap) → Keep h h' [] → AryR Z h' b C (List.replicate n.toNatClampNeg .null) → Gets p.tables e below P T' (mkF m pc' Ls (.ref b :: st))) : Gets p.tables e below P T (mkF m pc Ls (.int n :: st)) := by
  subst hp
  obtain ⟨vm0, k0, locs, b0, X, eT, hS, hk, hZ, hown, hE, hC, hF, hO, hK, n1, n2⟩ := W
  obtain ⟨T', h', cA, X', e', E, A, OO, stp⟩ := Jvm.RoadKit.newR X hx hZ hown w w2 eT (g := mkF m pc Ls (.int n :: st)) rfl hd rfl hn hcap hb hc hl
  have hn' : h.size < h'.size := A.lt
  have hs : s.heap.size ≤ h.size := hK.1
  refine (k T' h' h.size rfl ⟨vm0, k0, locs, b0, X', e', hS, Nat.le_trans hk E.1, hZ, hown, hE, hC.trans (CHr.ext E hC.1), hF, ⟨Nat.le_trans hO.1 E.1, fun a c q => E.2 a c (hO.2 a c q)⟩, hK.ext E, fun x hx => ?_, fun x hx => ?_⟩ ((Keep.refl h []).ext E) (AryR.made A OO hn)).by stp
  · obtain ⟨a, b, c⟩ := n1 x hx
    exact ⟨a, Nat.lt_of_lt_of_le b E.1, c.ext E hC.1⟩
  · rcases List.mem_cons.mp hx with rfl | hx
    · exact ⟨hs, hO.1, hn', Safe.ext E hC.1 (Safe.new (Nat.le_refl _))⟩
    · obtain ⟨a, b, c, d⟩ := n2 x hx
      exact ⟨a, b, Nat.lt_of_lt_of_le c E.1, d.ext E hC.1⟩
theorem w_aastore (W : Wk p l e R s m args below meth c Z EL own ws nw T h cells slots) (hx : p.tables.exec = Jvm.exec) {a : Nat} {C : String} {vs : List Value} {j : Int32} {y : Nat} (F : AryR Z h a C vs) (I : Ins Z h y C true) (hj : ¬ j < 0) (hi : j.toNatClampNeg < vs.length) (ha : a ∈ ws ++ nw) (hd : decode c.code pc = .ok (.aastore, 1)) (hp : pc + 1 = pc')
    (k : ∀ T' h', Wk p l e R s m args below meth c Z EL own ws nw T' h' cells slots → Keep h h' [a] → AryR Z h' a C (vs.set j.toNatClampNeg (.ref y)) → Gets p.tables e below P T' (mkF m pc' Ls st)) : Gets p.tables e below P T (mkF m pc Ls (.ref y :: .int j :: .ref a :: st)) := by
  subst hp
  obtain ⟨vm0, k0, locs, b0, X, eT, r⟩ := W
  obtain ⟨cl, A, OO, e1, e2, e3⟩ := F
  obtain ⟨T', h', X', e', WW, stp⟩ := Jvm.RoadKit.stR X hx r.2.2.1 eT A (j := j) (v := .ref y) (fun q => q.elim hj fun q => by rw [size_of_list e1] at q; omega) rfl (Sto.of A OO I) (g := mkF m pc Ls (.ref y :: .int j :: .ref a :: st)) rfl rfl hd
  exact (k T' h' (Wk.wrote ha WW X' e' r) (Keep.of_wr WW) (AryR.wrote A OO e1 e2 e3 WW)).by stp
end OwnFresh
section OwnMore
variable {p : Program} {l : Launch} {e : Env} {R : Room} {s : State} {m : MethodId} {args : Array Value} {below : List Frame} {meth : Method} {c : Code} {T : State} {Z : State} {a0 : Array Value} {h : Heap} {EL : List (String × Nat)} {own : String} {cells slots : Nat} {ws nw : List Addr} {P : Outcome → State → Prop} {pc pc' : Nat} {Ls : Array Slot} {st : List Value}
theorem own_selself {U : State} {b0 : Array Value} {y : MethodName} {C : String} (w : (Cond.selects C y y).before b0 U = true) (wp : (Cond.privateMethod y).before b0 U = true) (wi : (Cond.instanceMethod y).before b0 U = true) (hy : y.cls ≠ "java/lang/invoke/MethodHandle" ∧ y.cls ≠ "java/lang/invoke/VarHandle") : (Cond.selects y.cls y y).before b0 U = true := by
  obtain ⟨_, _, m2, -, -, q3, -, kP, hk, hki⟩ := Cond.selects_spec w
  exact selects_self_of_private (findClass_of_methodNamed q3) hk hki (Cond.privateMethod_at wp) wi hy
theorem own_same {U : State} {b0 : Array Value} {y y2 z2 : MethodName} {C : String} (wn : (Cond.selects C y2 z2).before b0 U = true) (hc2 : z2.cls = y.cls) (wi : (Cond.instanceMethod y).before b0 U = true) (hy : y.cls ≠ "java/lang/invoke/MethodHandle" ∧ y.cls ≠ "java/lang/invoke/VarHandle") : (Cond.sameMethod y.cls y.cls y.name y.desc).before b0 U = true := by
  obtain ⟨mk, methM, hnamed, hmethM, -, -⟩ := Cond.instanceMethod_spec wi
  have hfound : U.methodFound? y.cls y.name y.desc = some mk := State.methodFound?_of_named hnamed hy
  have hc := findClass_of_methodNamed hnamed
  obtain ⟨k, hk, -⟩ := Vm.findClass_spec hc
  have hn : U.methodNamed? ⟨y.cls, y.name, y.desc⟩ = some mk := hnamed
  obtain ⟨_, _, m2, -, -, q3, -, kP, hkP, hki⟩ := Cond.selects_spec wn
  have hc3 := findClass_of_methodNamed q3
  rw [hc2, hc] at hc3
  have e3 := Option.some.inj hc3
  rw [← e3] at hkP
  cases hk.symm.trans hkP
  simp [Cond.before, Cond.holds, Cond.value, hc, hfound, hn, hk, hki]
theorem nfC {y y2 z2 : MethodName} {C : String} (w : (Cond.selects C y2 z2).before a0 Z = true) (hc2 : z2.cls = y.cls) {U : State} (hZ : Z.Warmed39 U.vm) : NotFace U y := fun r0 h0 => by
  obtain ⟨_, _, m2, -, -, q3, -, kP, hkP, hki⟩ := Cond.selects_spec (mv (s := U) (args := #[]) hZ w)
  have e1 := findClass_of_methodNamed q3
  have e2 := findClass_of_methodNamed h0
  rw [hc2, e2] at e1
  have e3 := Option.some.inj e1
  exact ⟨kP, by rw [e3]; exact hkP, hki⟩
theorem Ary.arv {Z : State} {h : Heap} {a : Addr} {ty : FieldType} {vs : List Value} (F : Ary Z h a ty vs) (d : Value) : ∃ k, Arv Z h a k ty vs.length.toInt32 vs d := by
  obtain ⟨cl, A, e, hl, hf⟩ := F
  have sz : cl.slots.size = vs.length := size_of_list e
  have hg : ∀ i, i < cl.slots.size → cl.slots[i]? = some (vs.getD i d) := fun i hi => by
    rw [at_of_list e, List.getElem?_eq_getElem (by omega), List.getD_eq_getElem?_getD, List.getElem?_eq_getElem (by omega)]; rfl
  refine ⟨cl.cls, cl, A, rfl, by rw [i32_nat hl]; exact sz, by rw [Int32.lt_iff_toInt_lt, len_toInt hl]; simp, hg, fun i hi => ?_⟩
  have q : i < vs.length := by omega
  rw [List.getD_eq_getElem?_getD, List.getElem?_eq_getElem q]
  exact hf _ (List.getElem_mem q)
theorem own_range (vs : List Value) (s n : Nat) (d : Value) (h : s + n ≤ vs.length) : (List.range n).map (fun i => vs.getD (s + i) d) = (vs.drop s).take n := by
  apply List.ext_getElem?
  intro i
  rw [List.getElem?_map, List.getElem?_take]
  by_cases q : i < n
  · rw [if_pos q, List.getElem?_range q, List.getElem?_drop, List.getElem?_eq_getElem (by omega)]
    show some (vs.getD (s + i) d) = _
    rw [List.getD_eq_getElem?_getD, List.getElem?_eq_getElem (by omega)]; rfl
  · rw [if_neg q, List.getElem?_eq_none (by simp; omega)]; rfl
theorem w_arrcopy (W : Wk p l e R s m args below meth c Z EL own ws nw T h cells slots) (hx : p.tables.exec = Jvm.exec) {index : Nat} (w1 : (Cond.methodLink own index Jvm.Stand.acN).before a0 Z = true) (w2 : (Cond.native Jvm.Stand.acN).before a0 Z = true) (w3 : (Cond.static Jvm.Stand.acN).before a0 Z = true) (w4 : (Cond.initialized "java/lang/System").before a0 Z = true)
    {a b : Nat} {vs vd : List Value} {sp dp nn : Int32} (A : Ary Z h a .byte vs) (Bb : Ary Z h b .byte vd) (hb : b ∈ ws ++ nw) (h1 : ¬ sp < 0) (h2 : ¬ dp < 0) (h3 : ¬ nn < 0) (h4 : sp.toNatClampNeg + nn.toNatClampNeg ≤ vs.length) (h5 : dp.toNatClampNeg + nn.toNatClampNeg ≤ vd.length) (hsz : Ls.size = c.maxLocals)
    (hd : decode c.code pc = .ok (.invokestatic index, 3)) (hf : 1 ≤ R.frames) (hlo : (st.map fun v => v.category).sum + (nativeFrameWords "java/lang/System" "arraycopy" 5 + 11) ≤ R.locals) (hp : pc + 3 = pc')
    (k : ∀ T' h', Wk p l e R s m args below meth c Z EL own ws nw T' h' cells slots → Keep h h' [b] → Ary Z h' b .byte (vd.take dp.toNatClampNeg ++ (vs.drop sp.toNatClampNeg).take nn.toNatClampNeg ++ vd.drop (dp.toNatClampNeg + nn.toNatClampNeg)) → Gets p.tables e below P T' (mkF m pc' Ls st)) : Gets p.tables e below P T (mkF m pc Ls (.int nn :: .int dp :: .ref b :: .int sp :: .ref a :: st)) := by
  subst hp
  obtain ⟨vm0, k0, locs, b0, X, eT, hS, hk, hZ, hown, hE, hC, hF, hO, hK, n1, n2⟩ := W
  have la := A.len
  have lb := Bb.len
  obtain ⟨ka, A'⟩ := A.arv (.int 0)
  obtain ⟨kb, B'⟩ := Bb.arv (.int 0)
  have key : Z.heap.size ≤ b ∧ Safe Z EL vm0 h b ∧ (b ∈ ws ∨ s.heap.size ≤ b) := by
    rcases List.mem_append.mp hb with q | q
    · exact ⟨(n1 b q).1, (n1 b q).2.2, Or.inl q⟩
    · exact ⟨(n2 b q).2.1, (n2 b q).2.2.2, Or.inr (n2 b q).1⟩
  obtain ⟨T', h', L, X', e', F', K1, V', stp⟩ := Jvm.RoadKit.cpA X hx hZ hown w1 w2 w3 w4 eT A' B' (Or.inl ⟨rfl, rfl⟩) h1 h2 h3 (by rw [i32_nat la]; exact h4) (by rw [i32_nat lb]; exact h5) rfl h5 hF key.1 (g := mkF m pc Ls (.int nn :: .int dp :: .ref b :: .int sp :: .ref a :: st)) rfl hsz rfl hd hf (W := (st.map fun v => v.category).sum) (by show 2 * 0 + _ ≤ _; omega) hlo
  have sz := K1.1
  have hs1 : ∀ x ∈ [b], Safe Z EL vm0 h x := fun x hx => by rw [List.mem_singleton.mp hx]; exact key.2.1
  rw [own_range vs _ _ _ h4] at V'
  refine (k T' h' ⟨vm0, k0, L, b0, X', e', hS, by omega, hZ, hown, hE, hC.trans (CHr.keep K1 hs1 hC.1), F', ⟨by have := hO.1; omega, fun x cc q => K1.2.1 x cc (hO.2 x cc q) fun z => ?_⟩, hK.trans K1 (fun x hx => ?_), fun x hx => ?_, fun x hx => ?_⟩ K1 (Ary.of_arv V' ?_)).by stp
  · cases List.mem_singleton.mp z
    have := (Array.getElem?_eq_some_iff.mp q).1
    have := key.1
    omega
  · rw [List.mem_singleton.mp hx]; exact key.2.2
  · obtain ⟨q1, q2, q3⟩ := n1 x hx
    exact ⟨q1, by omega, Safe.keep K1 hs1 hC.1 q3⟩
  · obtain ⟨q1, q2, q3, q4⟩ := n2 x hx
    exact ⟨q1, q2, by omega, Safe.keep K1 hs1 hC.1 q4⟩
  · rw [i32_nat lb]
    simp only [List.length_append, List.length_take, List.length_drop]
    omega
theorem w_private (W : Wk p l e R s m args below meth c Z EL own ws nw T h cells slots) (hx : p.tables.exec = Jvm.exec) {index : Nat} {y : MethodName} {C : String} {bytes : ByteArray} {maxL : Nat} {ret : Option FieldType} {rm : Room} {Q : Option Value → Heap → Prop} {wsc : List Addr} {a : Nat} (argsL : List Value)
    (w1 : (Cond.methodLink own index y).before a0 Z = true) (w2 : (Cond.privateMethod y).before a0 Z = true) (w3 : (Cond.selects C y y).before a0 Z = true) (w5 : (Cond.instanceMethod y).before a0 Z = true) (w6 : (Cond.initialized y.cls).before a0 Z = true) (w4 : (Cond.code y bytes maxL ret).before a0 Z = true) (hy : y.cls ≠ "java/lang/invoke/MethodHandle" ∧ y.cls ≠ "java/lang/invoke/VarHandle")
    (H : Con l Z EL y bytes maxL ret rm (.ref a :: argsL).toArray h wsc Q) (E : Exa Z h a C) (hwc : ∀ x ∈ wsc, x ∈ ws ++ nw) (hsz : Ls.size = c.maxLocals) (hlen : ∀ sig, parseMethodDescriptor y.desc = some sig → argsL.length = sig.parameters.length) {stk : List Value} (hstk : stk = argsL.reverse ++ .ref a :: st) (hd : decode c.code pc = .ok (.invokevirtual index, 3))
    (hf : rm.frames + 1 ≤ R.frames) (hl : (st.map fun v => v.category).sum + (maxL + 11) + rm.locals ≤ R.locals) (hc : cells + rm.cells ≤ R.cells) (hs : slots + rm.slots ≤ R.slots) (hp : pc + 3 = pc')
    (k : ∀ v T' h', Wk p l e R s m args below meth c Z EL own ws nw T' h' (cells + rm.cells) (slots + rm.slots) → Keep h h' wsc → Q v h' → Gets p.tables e below P T' (mkF m pc' Ls (v.toList ++ st))) : Gets p.tables e below P T (mkF m pc Ls stk) := by
  subst hp
  obtain ⟨vm0, k0, locs, b0, X, eT, r⟩ := W
  obtain ⟨hS, hk, hZ, hown, hE, hC, hF, hO, hK, n1, n2⟩ := id r
  have sf : ∀ x : Nat, x ∈ wsc → x < h.size ∧ Safe Z EL vm0 h x := fun x hx => by
    rcases List.mem_append.mp (hwc x hx) with q | q
    · exact (n1 x q).2
    · exact (n2 x q).2.2
  obtain ⟨cq, qa, qc⟩ := E.cell
  obtain ⟨v, vm1, ⟨T', L', c', s'⟩, -, X', hS2, hg2, ⟨L, ⟨q1, q2, q3, q4⟩, l1, l2, l3, C'⟩, stp⟩ := X.privateBackS hx (y := y) hown (mv (s := s.setVm vm0) hZ w1) (mv (s := s.setVm vm0) hZ w5) (own_selself (mv (s := s.setVm vm0) hZ w3) (mv (s := s.setVm vm0) hZ w2) (mv (s := s.setVm vm0) hZ w5) hy) (Cond.privateMethod_at (args := args) (mv (s := s.setVm vm0) hZ w2)) (mv (s := s.setVm vm0) hZ w4) hy (backC (W := (st.map fun v => v.category).sum) H hZ w4 w6 hf hl hE hC.1 sf) (g := mkF m pc Ls stk) rfl hsz (Steps.refl _) (a := a) (by rw [eT]; exact qa) qc (argsL := argsL) (rest := st) hlen hstk (by show 2 * 0 + _ ≤ _; omega) hd (fun _ _ => ⟨rfl, eT, hc, hs⟩)
  dsimp only [Pt.U, Pt.locs, Pt.cells, Pt.slots] at X' hS2 hg2 q1 q3 q4 l1 l2 l3 C' stp
  subst l1 l2 l3
  exact (k v T' _ (Wk.called (h' := T'.heap) hwc X' rfl hS2 (Nat.le_refl _) (by rw [← eT]; exact hg2) q2 q3 q4 C' r) q3 q1).by fun t q => stp.trans q
theorem w_privateF (W : Wk p l e R s m args below meth c Z EL own ws nw T h cells slots) (hx : p.tables.exec = Jvm.exec) {index : Nat} {y : MethodName} {C : String} {bytes : ByteArray} {maxL : Nat} {ret : Option FieldType} {rm : Room} {Q : List Addr → Option Value → Heap → Prop} {wsc : List Addr} {a : Nat} (argsL : List Value)
    (w1 : (Cond.methodLink own index y).before a0 Z = true) (w2 : (Cond.privateMethod y).before a0 Z = true) (w3 : (Cond.selects C y y).before a0 Z = true) (w5 : (Cond.instanceMethod y).before a0 Z = true) (w6 : (Cond.initialized y.cls).before a0 Z = true) (w4 : (Cond.code y bytes maxL ret).before a0 Z = true) (hy : y.cls ≠ "java/lang/invoke/MethodHandle" ∧ y.cls ≠ "java/lang/invoke/VarHandle")
    (H : ConF l Z EL y bytes maxL ret rm (.ref a :: argsL).toArray h wsc Q) (E : Exa Z h a C) (hwc : ∀ x ∈ wsc, x ∈ ws ++ nw) (hsz : Ls.size = c.maxLocals) (hlen : ∀ sig, parseMethodDescriptor y.desc = some sig → argsL.length = sig.parameters.length) {stk : List Value} (hstk : stk = argsL.reverse ++ .ref a :: st) (hd : decode c.code pc = .ok (.invokevirtual index, 3))
    (hf : rm.frames + 1 ≤ R.frames) (hl : (st.map fun v => v.category).sum + (maxL + 11) + rm.locals ≤ R.locals) (hc : cells + rm.cells ≤ R.cells) (hs : slots + rm.slots ≤ R.slots) (hp : pc + 3 = pc')
    (k : ∀ N v T' h', Wk p l e R s m args below meth c Z EL own ws (N ++ nw) T' h' (cells + rm.cells) (slots + rm.slots) → Keep h h' wsc → (∀ x : Nat, x ∈ N → h.size ≤ x ∧ x < h'.size) → Q N v h' → Gets p.tables e below P T' (mkF m pc' Ls (v.toList ++ st))) : Gets p.tables e below P T (mkF m pc Ls stk) := by
  subst hp
  obtain ⟨vm0, k0, locs, b0, X, eT, r⟩ := W
  obtain ⟨hS, hk, hZ, hown, hE, hC, hF, hO, hK, n1, n2⟩ := id r
  have sf : ∀ x : Nat, x ∈ wsc → x < h.size ∧ Safe Z EL vm0 h x := fun x hx => by
    rcases List.mem_append.mp (hwc x hx) with q | q
    · exact (n1 x q).2
    · exact (n2 x q).2.2
  obtain ⟨cq, qa, qc⟩ := E.cell
  obtain ⟨v, vm1, ⟨T', L', c', s'⟩, -, X', hS2, hg2, ⟨L, N, ⟨q1, q2, q3, q4, q5⟩, l1, l2, l3, C'⟩, stp⟩ := X.privateBackS hx (y := y) hown (mv (s := s.setVm vm0) hZ w1) (mv (s := s.setVm vm0) hZ w5) (own_selself (mv (s := s.setVm vm0) hZ w3) (mv (s := s.setVm vm0) hZ w2) (mv (s := s.setVm vm0) hZ w5) hy) (Cond.privateMethod_at (args := args) (mv (s := s.setVm vm0) hZ w2)) (mv (s := s.setVm vm0) hZ w4) hy (backCF (W := (st.map fun v => v.category).sum) H hZ w4 w6 hf hl hE hC.1 sf) (g := mkF m pc Ls stk) rfl hsz (Steps.refl _) (a := a) (by rw [eT]; exact qa) qc (argsL := argsL) (rest := st) hlen hstk (by show 2 * 0 + _ ≤ _; omega) hd (fun _ _ => ⟨rfl, eT, hc, hs⟩)
  dsimp only [Pt.U, Pt.locs, Pt.cells, Pt.slots] at X' hS2 hg2 q1 q3 q4 q5 l1 l2 l3 C' stp
  subst l1 l2 l3
  exact (k N v T' _ (Wk.calledF (h' := T'.heap) hwc X' rfl hS2 (Nat.le_refl _) (by rw [← eT]; exact hg2) q2 q3 q4 q5 C' r) q3 (fun x hx => ⟨(q5 x hx).1, (q5 x hx).2.1⟩) q1).by fun t q => stp.trans q
end OwnMore
theorem w_0 : tables_1[0]? = some (Jvm.Cond.methodLink "com/example/despatch/despatch/http/HeaderListElementsPinLaw" (7 : Nat) ({ cls := "com/example/despatch/despatch/http/HeaderListElementsPinLaw", name := "elem", desc := "(IJZ)[C" } : Jvm.MethodName)) := rfl
theorem w_1 : tables_1[1]? = some (Jvm.Cond.static ({ cls := "com/example/despatch/despatch/http/HeaderListElementsPinLaw", name := "elem", desc := "(IJZ)[C" } : Jvm.MethodName)) := rfl
theorem w_2 : tables_1[2]? = some (Jvm.Cond.initialized "com/example/despatch/despatch/http/HeaderListElementsPinLaw") := rfl
theorem w_3 : tables_1[3]? = some (Jvm.Cond.code ({ cls := "com/example/despatch/despatch/http/HeaderListElementsPinLaw", name := "elem", desc := "(IJZ)[C" } : Jvm.MethodName) method_6_code (8 : Nat) (Option.some (Jvm.ClassFile.FieldType.array Jvm.ClassFile.FieldType.char))) := rfl
theorem w_4 : tables_1[4]? = some (Jvm.Cond.constantLong "com/example/despatch/despatch/http/HeaderListElementsPinLaw" (46 : Nat) (255 : Int64)) := rfl
theorem w_5 : tables_1[5]? = some (Jvm.Cond.arrayClass Jvm.ClassFile.FieldType.char) := rfl
theorem w_6 : tables_1[6]? = some (Jvm.Cond.methodLink "com/example/despatch/despatch/http/HeaderListElementsPinLaw" (13 : Nat) ({ cls := "com/example/despatch/despatch/http/HeaderListElementsPinLaw", name := "alloc", desc := "(I)[C" } : Jvm.MethodName)) := rfl
theorem w_7 : tables_1[7]? = some (Jvm.Cond.static ({ cls := "com/example/despatch/despatch/http/HeaderListElementsPinLaw", name := "alloc", desc := "(I)[C" } : Jvm.MethodName)) := rfl
theorem w_8 : tables_1[8]? = some (Jvm.Cond.code ({ cls := "com/example/despatch/despatch/http/HeaderListElementsPinLaw", name := "alloc", desc := "(I)[C" } : Jvm.MethodName) method_8_code (1 : Nat) (Option.some (Jvm.ClassFile.FieldType.array Jvm.ClassFile.FieldType.char))) := rfl
theorem w_9 : tables_1[9]? = some (Jvm.Cond.methodLink "com/example/despatch/despatch/http/HeaderListElementsPinLaw" (17 : Nat) ({ cls := "com/example/despatch/despatch/http/HeaderListElementsPinLaw", name := "put", desc := "([CI[C)I" } : Jvm.MethodName)) := rfl
theorem w_10 : tables_1[10]? = some (Jvm.Cond.static ({ cls := "com/example/despatch/despatch/http/HeaderListElementsPinLaw", name := "put", desc := "([CI[C)I" } : Jvm.MethodName)) := rfl
theorem w_11 : tables_1[11]? = some (Jvm.Cond.code ({ cls := "com/example/despatch/despatch/http/HeaderListElementsPinLaw", name := "put", desc := "([CI[C)I" } : Jvm.MethodName) method_7_code (3 : Nat) (Option.some Jvm.ClassFile.FieldType.int)) := rfl
theorem w_12 : tables_1[12]? = some (Jvm.Cond.classLink "com/example/despatch/despatch/http/HeaderListElementsPinLaw" (21 : Nat) "java/lang/String") := rfl
theorem w_13 : tables_1[13]? = some (Jvm.Cond.instantiable "java/lang/String" (4 : Nat)) := rfl
theorem w_14 : tables_1[14]? = some (Jvm.Cond.initialized "java/lang/String") := rfl
theorem w_15 : tables_1[15]? = some (Jvm.Cond.methodLink "com/example/despatch/despatch/http/HeaderListElementsPinLaw" (23 : Nat) ({ cls := "java/lang/String", name := "<init>", desc := "([C)V" } : Jvm.MethodName)) := rfl
theorem w_16 : tables_1[16]? = some (Jvm.Cond.instanceMethod ({ cls := "java/lang/String", name := "<init>", desc := "([C)V" } : Jvm.MethodName)) := rfl
theorem w_17 : tables_1[17]? = some (Jvm.Cond.code ({ cls := "java/lang/String", name := "<init>", desc := "([C)V" } : Jvm.MethodName) jdk_42_method_3_code (2 : Nat) (Option.none : Option Jvm.ClassFile.FieldType)) := rfl
theorem w_18 : tables_1[18]? = some (Jvm.Cond.methodLink "java/lang/String" (27 : Nat) ({ cls := "java/lang/String", name := "<init>", desc := "([CIILjava/lang/Void;)V" } : Jvm.MethodName)) := rfl
theorem w_19 : tables_1[19]? = some (Jvm.Cond.instanceMethod ({ cls := "java/lang/String", name := "<init>", desc := "([CIILjava/lang/Void;)V" } : Jvm.MethodName)) := rfl
theorem w_21 : tables_1[21]? = some (Jvm.Cond.code ({ cls := "java/lang/String", name := "<init>", desc := "([CIILjava/lang/Void;)V" } : Jvm.MethodName) jdk_42_method_149_code (6 : Nat) (Option.none : Option Jvm.ClassFile.FieldType)) := rfl
theorem w_22 : tables_1[22]? = some (Jvm.Cond.methodLink "java/lang/String" (1 : Nat) ({ cls := "java/lang/Object", name := "<init>", desc := "()V" } : Jvm.MethodName)) := rfl
theorem w_23 : tables_1[23]? = some (Jvm.Cond.instanceMethod ({ cls := "java/lang/Object", name := "<init>", desc := "()V" } : Jvm.MethodName)) := rfl
theorem w_24 : tables_1[24]? = some (Jvm.Cond.code ({ cls := "java/lang/Object", name := "<init>", desc := "()V" } : Jvm.MethodName) object_method_1_code (1 : Nat) (Option.none : Option Jvm.ClassFile.FieldType)) := rfl
theorem w_25 : tables_1[25]? = some (Jvm.Cond.stringLink "java/lang/String" (7 : Nat) "") := rfl
theorem w_26 : tables_1[26]? = some (Jvm.Cond.arrayClass Jvm.ClassFile.FieldType.byte) := rfl
theorem w_27 : tables_1[27]? = some (Jvm.Cond.laysFinal "java/lang/String" "java/lang/String" "value" "[B") := rfl
theorem w_28 : tables_1[28]? = some (Jvm.Cond.laysFinal "java/lang/String" "java/lang/String" "coder" "B") := rfl
theorem w_29 : tables_1[29]? = some (Jvm.Cond.soleField "java/lang/String" "value") := rfl
theorem w_30 : tables_1[30]? = some (Jvm.Cond.soleField "java/lang/String" "coder") := rfl
theorem w_31 : tables_1[31]? = some (Jvm.Cond.fieldLink "java/lang/String" (9 : Nat) "java/lang/String" "value" "[B") := rfl
theorem w_32 : tables_1[32]? = some (Jvm.Cond.fieldLink "java/lang/String" (15 : Nat) "java/lang/String" "coder" "B") := rfl
theorem w_33 : tables_1[33]? = some (Jvm.Cond.methodLink "com/example/despatch/despatch/http/HeaderListElementsPinLaw" (26 : Nat) ({ cls := "com/example/despatch/despatch/http/HeaderList", name := "elements", desc := "(Ljava/lang/String;)Ljava/util/List;" } : Jvm.MethodName)) := rfl
theorem w_34 : tables_1[34]? = some (Jvm.Cond.static ({ cls := "com/example/despatch/despatch/http/HeaderList", name := "elements", desc := "(Ljava/lang/String;)Ljava/util/List;" } : Jvm.MethodName)) := rfl
theorem w_35 : tables_1[35]? = some (Jvm.Cond.initialized "com/example/despatch/despatch/http/HeaderList") := rfl
theorem w_36 : tables_1[36]? = some (Jvm.Cond.code ({ cls := "com/example/despatch/despatch/http/HeaderList", name := "elements", desc := "(Ljava/lang/String;)Ljava/util/List;" } : Jvm.MethodName) prog_3_method_2_code (7 : Nat) (Option.some (Jvm.ClassFile.FieldType.object "java/util/List"))) := rfl
theorem w_37 : tables_1[37]? = some (Jvm.Cond.classLink "com/example/despatch/despatch/http/HeaderList" (7 : Nat) "java/util/ArrayList") := rfl
theorem w_38 : tables_1[38]? = some (Jvm.Cond.instantiable "java/util/ArrayList" (3 : Nat)) := rfl
theorem w_39 : tables_1[39]? = some (Jvm.Cond.initialized "java/util/ArrayList") := rfl
theorem w_40 : tables_1[40]? = some (Jvm.Cond.methodLink "com/example/despatch/despatch/http/HeaderList" (9 : Nat) ({ cls := "java/util/ArrayList", name := "<init>", desc := "()V" } : Jvm.MethodName)) := rfl
theorem w_41 : tables_1[41]? = some (Jvm.Cond.instanceMethod ({ cls := "java/util/ArrayList", name := "<init>", desc := "()V" } : Jvm.MethodName)) := rfl
theorem w_42 : tables_1[42]? = some (Jvm.Cond.code ({ cls := "java/util/ArrayList", name := "<init>", desc := "()V" } : Jvm.MethodName) jdk_38_method_2_code (1 : Nat) (Option.none : Option Jvm.ClassFile.FieldType)) := rfl
theorem w_43 : tables_1[43]? = some (Jvm.Cond.methodLink "java/util/ArrayList" (1 : Nat) ({ cls := "java/util/AbstractList", name := "<init>", desc := "()V" } : Jvm.MethodName)) := rfl
theorem w_44 : tables_1[44]? = some (Jvm.Cond.instanceMethod ({ cls := "java/util/AbstractList", name := "<init>", desc := "()V" } : Jvm.MethodName)) := rfl
theorem w_47 : tables_1[47]? = some (Jvm.Cond.initialized "java/util/AbstractList") := rfl
theorem w_48 : tables_1[48]? = some (Jvm.Cond.code ({ cls := "java/util/AbstractList", name := "<init>", desc := "()V" } : Jvm.MethodName) jdk_39_method_1_code (1 : Nat) (Option.none : Option Jvm.ClassFile.FieldType)) := rfl
theorem w_49 : tables_1[49]? = some (Jvm.Cond.methodLink "java/util/AbstractList" (1 : Nat) ({ cls := "java/util/AbstractCollection", name := "<init>", desc := "()V" } : Jvm.MethodName)) := rfl
theorem w_50 : tables_1[50]? = some (Jvm.Cond.instanceMethod ({ cls := "java/util/AbstractCollection", name := "<init>", desc := "()V" } : Jvm.MethodName)) := rfl
theorem w_53 : tables_1[53]? = some (Jvm.Cond.initialized "java/util/AbstractCollection") := rfl
theorem w_54 : tables_1[54]? = some (Jvm.Cond.code ({ cls := "java/util/AbstractCollection", name := "<init>", desc := "()V" } : Jvm.MethodName) jdk_22_method_1_code (1 : Nat) (Option.none : Option Jvm.ClassFile.FieldType)) := rfl
theorem w_55 : tables_1[55]? = some (Jvm.Cond.methodLink "java/util/AbstractCollection" (1 : Nat) ({ cls := "java/lang/Object", name := "<init>", desc := "()V" } : Jvm.MethodName)) := rfl
theorem w_56 : tables_1[56]? = some (Jvm.Cond.fieldLink "java/util/AbstractList" (7 : Nat) "java/util/AbstractList" "modCount" "I") := rfl
theorem w_57 : tables_1[57]? = some (Jvm.Cond.lays "java/util/ArrayList" "java/util/AbstractList" "modCount" "I") := rfl
theorem w_58 : tables_1[58]? = some (Jvm.Cond.fieldLink "java/util/ArrayList" (39 : Nat) "java/util/ArrayList" "DEFAULTCAPACITY_EMPTY_ELEMENTDATA" "[Ljava/lang/Object;") := rfl
theorem w_59 : tables_1[59]? = some (Jvm.Cond.fieldLink "java/util/ArrayList" (9 : Nat) "java/util/ArrayList" "elementData" "[Ljava/lang/Object;") := rfl
theorem w_60 : tables_1[60]? = some (Jvm.Cond.lays "java/util/ArrayList" "java/util/ArrayList" "elementData" "[Ljava/lang/Object;") := rfl
theorem w_61 : tables_1[61]? = some (Jvm.Cond.methodLink "com/example/despatch/despatch/http/HeaderList" (10 : Nat) ({ cls := "java/lang/String", name := "length", desc := "()I" } : Jvm.MethodName)) := rfl
theorem w_62 : tables_1[62]? = some (Jvm.Cond.declares ({ cls := "java/lang/String", name := "length", desc := "()I" } : Jvm.MethodName)) := rfl
theorem w_63 : tables_1[63]? = some (Jvm.Cond.instanceMethod ({ cls := "java/lang/String", name := "length", desc := "()I" } : Jvm.MethodName)) := rfl
theorem w_64 : tables_1[64]? = some (Jvm.Cond.selects "java/lang/String" ({ cls := "java/lang/String", name := "length", desc := "()I" } : Jvm.MethodName) ({ cls := "java/lang/String", name := "length", desc := "()I" } : Jvm.MethodName)) := rfl
theorem w_65 : tables_1[65]? = some (Jvm.Cond.code ({ cls := "java/lang/String", name := "length", desc := "()I" } : Jvm.MethodName) jdk_42_method_54_code (1 : Nat) (Option.some Jvm.ClassFile.FieldType.int)) := rfl
theorem w_66 : tables_1[66]? = some (Jvm.Cond.methodLink "java/lang/String" (335 : Nat) ({ cls := "java/lang/String", name := "coder", desc := "()B" } : Jvm.MethodName)) := rfl
theorem w_67 : tables_1[67]? = some (Jvm.Cond.declares ({ cls := "java/lang/String", name := "coder", desc := "()B" } : Jvm.MethodName)) := rfl
theorem w_68 : tables_1[68]? = some (Jvm.Cond.instanceMethod ({ cls := "java/lang/String", name := "coder", desc := "()B" } : Jvm.MethodName)) := rfl
theorem w_69 : tables_1[69]? = some (Jvm.Cond.selects "java/lang/String" ({ cls := "java/lang/String", name := "coder", desc := "()B" } : Jvm.MethodName) ({ cls := "java/lang/String", name := "coder", desc := "()B" } : Jvm.MethodName)) := rfl
theorem w_70 : tables_1[70]? = some (Jvm.Cond.code ({ cls := "java/lang/String", name := "coder", desc := "()B" } : Jvm.MethodName) jdk_42_method_152_code (1 : Nat) (Option.some Jvm.ClassFile.FieldType.byte)) := rfl
theorem w_71 : tables_1[71]? = some (Jvm.Cond.fieldLink "java/lang/String" (38 : Nat) "java/lang/String" "COMPACT_STRINGS" "Z") := rfl
theorem w_72 : tables_1[72]? = some (Jvm.Cond.methodLink "com/example/despatch/despatch/http/HeaderList" (30 : Nat) ({ cls := "java/lang/String", name := "substring", desc := "(I)Ljava/lang/String;" } : Jvm.MethodName)) := rfl
theorem w_73 : tables_1[73]? = some (Jvm.Cond.declares ({ cls := "java/lang/String", name := "substring", desc := "(I)Ljava/lang/String;" } : Jvm.MethodName)) := rfl
theorem w_74 : tables_1[74]? = some (Jvm.Cond.instanceMethod ({ cls := "java/lang/String", name := "substring", desc := "(I)Ljava/lang/String;" } : Jvm.MethodName)) := rfl
theorem w_75 : tables_1[75]? = some (Jvm.Cond.selects "java/lang/String" ({ cls := "java/lang/String", name := "substring", desc := "(I)Ljava/lang/String;" } : Jvm.MethodName) ({ cls := "java/lang/String", name := "substring", desc := "(I)Ljava/lang/String;" } : Jvm.MethodName)) := rfl
theorem w_76 : tables_1[76]? = some (Jvm.Cond.code ({ cls := "java/lang/String", name := "substring", desc := "(I)Ljava/lang/String;" } : Jvm.MethodName) jdk_42_method_91_code (2 : Nat) (Option.some (Jvm.ClassFile.FieldType.object "java/lang/String"))) := rfl
theorem w_77 : tables_1[77]? = some (Jvm.Cond.methodLink "java/lang/String" (505 : Nat) ({ cls := "java/lang/String", name := "length", desc := "()I" } : Jvm.MethodName)) := rfl
theorem w_78 : tables_1[78]? = some (Jvm.Cond.methodLink "java/lang/String" (681 : Nat) ({ cls := "java/lang/String", name := "substring", desc := "(II)Ljava/lang/String;" } : Jvm.MethodName)) := rfl
theorem w_79 : tables_1[79]? = some (Jvm.Cond.declares ({ cls := "java/lang/String", name := "substring", desc := "(II)Ljava/lang/String;" } : Jvm.MethodName)) := rfl
theorem w_80 : tables_1[80]? = some (Jvm.Cond.instanceMethod ({ cls := "java/lang/String", name := "substring", desc := "(II)Ljava/lang/String;" } : Jvm.MethodName)) := rfl
theorem w_81 : tables_1[81]? = some (Jvm.Cond.selects "java/lang/String" ({ cls := "java/lang/String", name := "substring", desc := "(II)Ljava/lang/String;" } : Jvm.MethodName) ({ cls := "java/lang/String", name := "substring", desc := "(II)Ljava/lang/String;" } : Jvm.MethodName)) := rfl
theorem w_82 : tables_1[82]? = some (Jvm.Cond.code ({ cls := "java/lang/String", name := "substring", desc := "(II)Ljava/lang/String;" } : Jvm.MethodName) jdk_42_method_92_code (5 : Nat) (Option.some (Jvm.ClassFile.FieldType.object "java/lang/String"))) := rfl
theorem w_83 : tables_1[83]? = some (Jvm.Cond.methodLink "java/lang/String" (521 : Nat) ({ cls := "java/lang/String", name := "checkBoundsBeginEnd", desc := "(III)V" } : Jvm.MethodName)) := rfl
theorem w_84 : tables_1[84]? = some (Jvm.Cond.static ({ cls := "java/lang/String", name := "checkBoundsBeginEnd", desc := "(III)V" } : Jvm.MethodName)) := rfl
theorem w_85 : tables_1[85]? = some (Jvm.Cond.code ({ cls := "java/lang/String", name := "checkBoundsBeginEnd", desc := "(III)V" } : Jvm.MethodName) jdk_42_method_158_code (3 : Nat) (Option.none : Option Jvm.ClassFile.FieldType)) := rfl
theorem w_86 : tables_1[86]? = some (Jvm.Cond.fieldLink "java/lang/String" (1053 : Nat) "jdk/internal/util/Preconditions" "SIOOBE_FORMATTER" "Ljava/util/function/BiFunction;") := rfl
theorem w_87 : tables_1[87]? = some (Jvm.Cond.initialized "jdk/internal/util/Preconditions") := rfl
theorem w_88 : tables_1[88]? = some (Jvm.Cond.methodLink "java/lang/String" (1062 : Nat) ({ cls := "jdk/internal/util/Preconditions", name := "checkFromToIndex", desc := "(IIILjava/util/function/BiFunction;)I" } : Jvm.MethodName)) := rfl
theorem w_89 : tables_1[89]? = some (Jvm.Cond.static ({ cls := "jdk/internal/util/Preconditions", name := "checkFromToIndex", desc := "(IIILjava/util/function/BiFunction;)I" } : Jvm.MethodName)) := rfl
theorem w_90 : tables_1[90]? = some (Jvm.Cond.code ({ cls := "jdk/internal/util/Preconditions", name := "checkFromToIndex", desc := "(IIILjava/util/function/BiFunction;)I" } : Jvm.MethodName) jdk_41_method_12_code (4 : Nat) (Option.some Jvm.ClassFile.FieldType.int)) := rfl
theorem w_91 : tables_1[91]? = some (Jvm.Cond.methodLink "com/example/despatch/despatch/http/HeaderList" (24 : Nat) ({ cls := "java/util/List", name := "add", desc := "(Ljava/lang/Object;)Z" } : Jvm.MethodName)) := rfl
theorem w_92 : tables_1[92]? = some (Jvm.Cond.declares ({ cls := "java/util/List", name := "add", desc := "(Ljava/lang/Object;)Z" } : Jvm.MethodName)) := rfl
theorem w_93 : tables_1[93]? = some (Jvm.Cond.interfaceMethod "java/util/List" "java/util/List" "add" "(Ljava/lang/Object;)Z") := rfl
theorem w_94 : tables_1[94]? = some (Jvm.Cond.selects "java/util/ArrayList" ({ cls := "java/util/List", name := "add", desc := "(Ljava/lang/Object;)Z" } : Jvm.MethodName) ({ cls := "java/util/ArrayList", name := "add", desc := "(Ljava/lang/Object;)Z" } : Jvm.MethodName)) := rfl
theorem w_95 : tables_1[95]? = some (Jvm.Cond.instanceMethod ({ cls := "java/util/ArrayList", name := "add", desc := "(Ljava/lang/Object;)Z" } : Jvm.MethodName)) := rfl
theorem w_96 : tables_1[96]? = some (Jvm.Cond.publicMethod ({ cls := "java/util/ArrayList", name := "add", desc := "(Ljava/lang/Object;)Z" } : Jvm.MethodName)) := rfl
theorem w_97 : tables_1[97]? = some (Jvm.Cond.unhidden "java/util/ArrayList" "add" "(Ljava/lang/Object;)Z") := rfl
theorem w_98 : tables_1[98]? = some (Jvm.Cond.castable "java/util/ArrayList" "java/util/List") := rfl
theorem w_99 : tables_1[99]? = some (Jvm.Cond.code ({ cls := "java/util/ArrayList", name := "add", desc := "(Ljava/lang/Object;)Z" } : Jvm.MethodName) jdk_38_method_25_code (2 : Nat) (Option.some Jvm.ClassFile.FieldType.boolean)) := rfl
theorem w_100 : tables_1[100]? = some (Jvm.Cond.fieldLink "java/util/ArrayList" (63 : Nat) "java/util/ArrayList" "modCount" "I") := rfl
theorem w_101 : tables_1[101]? = some (Jvm.Cond.sameField "java/util/ArrayList" "java/util/AbstractList" "modCount" "I") := rfl
theorem w_102 : tables_1[102]? = some (Jvm.Cond.fieldLink "java/util/ArrayList" (48 : Nat) "java/util/ArrayList" "size" "I") := rfl
theorem w_103 : tables_1[103]? = some (Jvm.Cond.lays "java/util/ArrayList" "java/util/ArrayList" "size" "I") := rfl
theorem w_104 : tables_1[104]? = some (Jvm.Cond.methodLink "java/util/ArrayList" (131 : Nat) ({ cls := "java/util/ArrayList", name := "add", desc := "(Ljava/lang/Object;[Ljava/lang/Object;I)V" } : Jvm.MethodName)) := rfl
theorem w_105 : tables_1[105]? = some (Jvm.Cond.instanceMethod ({ cls := "java/util/ArrayList", name := "add", desc := "(Ljava/lang/Object;[Ljava/lang/Object;I)V" } : Jvm.MethodName)) := rfl
theorem w_106 : tables_1[106]? = some (Jvm.Cond.privateMethod ({ cls := "java/util/ArrayList", name := "add", desc := "(Ljava/lang/Object;[Ljava/lang/Object;I)V" } : Jvm.MethodName)) := rfl
theorem w_107 : tables_1[107]? = some (Jvm.Cond.selects "java/util/ArrayList" ({ cls := "java/util/ArrayList", name := "add", desc := "(Ljava/lang/Object;[Ljava/lang/Object;I)V" } : Jvm.MethodName) ({ cls := "java/util/ArrayList", name := "add", desc := "(Ljava/lang/Object;[Ljava/lang/Object;I)V" } : Jvm.MethodName)) := rfl
theorem w_108 : tables_1[108]? = some (Jvm.Cond.code ({ cls := "java/util/ArrayList", name := "add", desc := "(Ljava/lang/Object;[Ljava/lang/Object;I)V" } : Jvm.MethodName) jdk_38_method_24_code (4 : Nat) (Option.none : Option Jvm.ClassFile.FieldType)) := rfl
theorem w_109 : tables_1[109]? = some (Jvm.Cond.methodLink "java/util/ArrayList" (129 : Nat) ({ cls := "java/util/ArrayList", name := "grow", desc := "()[Ljava/lang/Object;" } : Jvm.MethodName)) := rfl
theorem w_110 : tables_1[110]? = some (Jvm.Cond.instanceMethod ({ cls := "java/util/ArrayList", name := "grow", desc := "()[Ljava/lang/Object;" } : Jvm.MethodName)) := rfl
theorem w_111 : tables_1[111]? = some (Jvm.Cond.privateMethod ({ cls := "java/util/ArrayList", name := "grow", desc := "()[Ljava/lang/Object;" } : Jvm.MethodName)) := rfl
theorem w_112 : tables_1[112]? = some (Jvm.Cond.selects "java/util/ArrayList" ({ cls := "java/util/ArrayList", name := "grow", desc := "()[Ljava/lang/Object;" } : Jvm.MethodName) ({ cls := "java/util/ArrayList", name := "grow", desc := "()[Ljava/lang/Object;" } : Jvm.MethodName)) := rfl
theorem w_113 : tables_1[113]? = some (Jvm.Cond.code ({ cls := "java/util/ArrayList", name := "grow", desc := "()[Ljava/lang/Object;" } : Jvm.MethodName) jdk_38_method_7_code (1 : Nat) (Option.some (Jvm.ClassFile.FieldType.array (Jvm.ClassFile.FieldType.object "java/lang/Object")))) := rfl
theorem w_114 : tables_1[114]? = some (Jvm.Cond.methodLink "java/util/ArrayList" (69 : Nat) ({ cls := "java/util/ArrayList", name := "grow", desc := "(I)[Ljava/lang/Object;" } : Jvm.MethodName)) := rfl
theorem w_115 : tables_1[115]? = some (Jvm.Cond.instanceMethod ({ cls := "java/util/ArrayList", name := "grow", desc := "(I)[Ljava/lang/Object;" } : Jvm.MethodName)) := rfl
theorem w_116 : tables_1[116]? = some (Jvm.Cond.privateMethod ({ cls := "java/util/ArrayList", name := "grow", desc := "(I)[Ljava/lang/Object;" } : Jvm.MethodName)) := rfl
theorem w_117 : tables_1[117]? = some (Jvm.Cond.selects "java/util/ArrayList" ({ cls := "java/util/ArrayList", name := "grow", desc := "(I)[Ljava/lang/Object;" } : Jvm.MethodName) ({ cls := "java/util/ArrayList", name := "grow", desc := "(I)[Ljava/lang/Object;" } : Jvm.MethodName)) := rfl
theorem w_118 : tables_1[118]? = some (Jvm.Cond.code ({ cls := "java/util/ArrayList", name := "grow", desc := "(I)[Ljava/lang/Object;" } : Jvm.MethodName) jdk_38_method_6_code (4 : Nat) (Option.some (Jvm.ClassFile.FieldType.array (Jvm.ClassFile.FieldType.object "java/lang/Object")))) := rfl
theorem w_119 : tables_1[119]? = some (Jvm.Cond.methodLink "java/util/ArrayList" (79 : Nat) ({ cls := "java/lang/Math", name := "max", desc := "(II)I" } : Jvm.MethodName)) := rfl
theorem w_120 : tables_1[120]? = some (Jvm.Cond.static ({ cls := "java/lang/Math", name := "max", desc := "(II)I" } : Jvm.MethodName)) := rfl
theorem w_121 : tables_1[121]? = some (Jvm.Cond.initialized "java/lang/Math") := rfl
theorem w_122 : tables_1[122]? = some (Jvm.Cond.code ({ cls := "java/lang/Math", name := "max", desc := "(II)I" } : Jvm.MethodName) jdk_29_method_65_code (2 : Nat) (Option.some Jvm.ClassFile.FieldType.int)) := rfl
theorem w_123 : tables_1[123]? = some (Jvm.Cond.classLink "java/util/ArrayList" (7 : Nat) "java/lang/Object") := rfl
theorem w_124 : tables_1[124]? = some (Jvm.Cond.arrayOver (Jvm.ClassFile.FieldType.object "java/lang/Object")) := rfl
theorem w_125 : tables_1[125]? = some (Jvm.Cond.castable "java/lang/String" "java/lang/Object") := rfl
theorem w_126 : tables_1[126]? = some (Jvm.Cond.methodLink "com/example/despatch/despatch/http/HeaderListElementsPinLaw" (32 : Nat) ({ cls := "java/util/List", name := "size", desc := "()I" } : Jvm.MethodName)) := rfl
theorem w_127 : tables_1[127]? = some (Jvm.Cond.declares ({ cls := "java/util/List", name := "size", desc := "()I" } : Jvm.MethodName)) := rfl
theorem w_128 : tables_1[128]? = some (Jvm.Cond.interfaceMethod "java/util/List" "java/util/List" "size" "()I") := rfl
theorem w_129 : tables_1[129]? = some (Jvm.Cond.selects "java/util/ArrayList" ({ cls := "java/util/List", name := "size", desc := "()I" } : Jvm.MethodName) ({ cls := "java/util/ArrayList", name := "size", desc := "()I" } : Jvm.MethodName)) := rfl
theorem w_130 : tables_1[130]? = some (Jvm.Cond.instanceMethod ({ cls := "java/util/ArrayList", name := "size", desc := "()I" } : Jvm.MethodName)) := rfl
theorem w_131 : tables_1[131]? = some (Jvm.Cond.publicMethod ({ cls := "java/util/ArrayList", name := "size", desc := "()I" } : Jvm.MethodName)) := rfl
theorem w_132 : tables_1[132]? = some (Jvm.Cond.unhidden "java/util/ArrayList" "size" "()I") := rfl
theorem w_133 : tables_1[133]? = some (Jvm.Cond.code ({ cls := "java/util/ArrayList", name := "size", desc := "()I" } : Jvm.MethodName) jdk_38_method_8_code (1 : Nat) (Option.some Jvm.ClassFile.FieldType.int)) := rfl
theorem w_134 : tables_1[134]? = some (Jvm.Cond.methodLink "com/example/despatch/despatch/http/HeaderListElementsPinLaw" (38 : Nat) ({ cls := "java/util/List", name := "get", desc := "(I)Ljava/lang/Object;" } : Jvm.MethodName)) := rfl
theorem w_135 : tables_1[135]? = some (Jvm.Cond.declares ({ cls := "java/util/List", name := "get", desc := "(I)Ljava/lang/Object;" } : Jvm.MethodName)) := rfl
theorem w_136 : tables_1[136]? = some (Jvm.Cond.interfaceMethod "java/util/List" "java/util/List" "get" "(I)Ljava/lang/Object;") := rfl
theorem w_137 : tables_1[137]? = some (Jvm.Cond.selects "java/util/ArrayList" ({ cls := "java/util/List", name := "get", desc := "(I)Ljava/lang/Object;" } : Jvm.MethodName) ({ cls := "java/util/ArrayList", name := "get", desc := "(I)Ljava/lang/Object;" } : Jvm.MethodName)) := rfl
theorem w_138 : tables_1[138]? = some (Jvm.Cond.instanceMethod ({ cls := "java/util/ArrayList", name := "get", desc := "(I)Ljava/lang/Object;" } : Jvm.MethodName)) := rfl
theorem w_139 : tables_1[139]? = some (Jvm.Cond.publicMethod ({ cls := "java/util/ArrayList", name := "get", desc := "(I)Ljava/lang/Object;" } : Jvm.MethodName)) := rfl
theorem w_140 : tables_1[140]? = some (Jvm.Cond.unhidden "java/util/ArrayList" "get" "(I)Ljava/lang/Object;") := rfl
theorem w_141 : tables_1[141]? = some (Jvm.Cond.code ({ cls := "java/util/ArrayList", name := "get", desc := "(I)Ljava/lang/Object;" } : Jvm.MethodName) jdk_38_method_20_code (2 : Nat) (Option.some (Jvm.ClassFile.FieldType.object "java/lang/Object"))) := rfl
theorem w_142 : tables_1[142]? = some (Jvm.Cond.methodLink "java/util/ArrayList" (118 : Nat) ({ cls := "java/util/Objects", name := "checkIndex", desc := "(II)I" } : Jvm.MethodName)) := rfl
theorem w_143 : tables_1[143]? = some (Jvm.Cond.static ({ cls := "java/util/Objects", name := "checkIndex", desc := "(II)I" } : Jvm.MethodName)) := rfl
theorem w_144 : tables_1[144]? = some (Jvm.Cond.initialized "java/util/Objects") := rfl
theorem w_145 : tables_1[145]? = some (Jvm.Cond.code ({ cls := "java/util/Objects", name := "checkIndex", desc := "(II)I" } : Jvm.MethodName) jdk_31_method_17_code (2 : Nat) (Option.some Jvm.ClassFile.FieldType.int)) := rfl
theorem w_146 : tables_1[146]? = some (Jvm.Cond.methodLink "java/util/Objects" (105 : Nat) ({ cls := "jdk/internal/util/Preconditions", name := "checkIndex", desc := "(IILjava/util/function/BiFunction;)I" } : Jvm.MethodName)) := rfl
theorem w_147 : tables_1[147]? = some (Jvm.Cond.static ({ cls := "jdk/internal/util/Preconditions", name := "checkIndex", desc := "(IILjava/util/function/BiFunction;)I" } : Jvm.MethodName)) := rfl
theorem w_148 : tables_1[148]? = some (Jvm.Cond.code ({ cls := "jdk/internal/util/Preconditions", name := "checkIndex", desc := "(IILjava/util/function/BiFunction;)I" } : Jvm.MethodName) jdk_41_method_11_code (3 : Nat) (Option.some Jvm.ClassFile.FieldType.int)) := rfl
theorem w_149 : tables_1[149]? = some (Jvm.Cond.methodLink "java/util/ArrayList" (123 : Nat) ({ cls := "java/util/ArrayList", name := "elementData", desc := "(I)Ljava/lang/Object;" } : Jvm.MethodName)) := rfl
theorem w_150 : tables_1[150]? = some (Jvm.Cond.declares ({ cls := "java/util/ArrayList", name := "elementData", desc := "(I)Ljava/lang/Object;" } : Jvm.MethodName)) := rfl
theorem w_151 : tables_1[151]? = some (Jvm.Cond.instanceMethod ({ cls := "java/util/ArrayList", name := "elementData", desc := "(I)Ljava/lang/Object;" } : Jvm.MethodName)) := rfl
theorem w_152 : tables_1[152]? = some (Jvm.Cond.selects "java/util/ArrayList" ({ cls := "java/util/ArrayList", name := "elementData", desc := "(I)Ljava/lang/Object;" } : Jvm.MethodName) ({ cls := "java/util/ArrayList", name := "elementData", desc := "(I)Ljava/lang/Object;" } : Jvm.MethodName)) := rfl
theorem w_153 : tables_1[153]? = some (Jvm.Cond.code ({ cls := "java/util/ArrayList", name := "elementData", desc := "(I)Ljava/lang/Object;" } : Jvm.MethodName) jdk_38_method_18_code (2 : Nat) (Option.some (Jvm.ClassFile.FieldType.object "java/lang/Object"))) := rfl
theorem w_154 : tables_1[154]? = some (Jvm.Cond.methodLink "com/example/despatch/despatch/http/HeaderListElementsPinLaw" (42 : Nat) ({ cls := "java/lang/String", name := "equals", desc := "(Ljava/lang/Object;)Z" } : Jvm.MethodName)) := rfl
theorem w_155 : tables_1[155]? = some (Jvm.Cond.declares ({ cls := "java/lang/String", name := "equals", desc := "(Ljava/lang/Object;)Z" } : Jvm.MethodName)) := rfl
theorem w_156 : tables_1[156]? = some (Jvm.Cond.instanceMethod ({ cls := "java/lang/String", name := "equals", desc := "(Ljava/lang/Object;)Z" } : Jvm.MethodName)) := rfl
theorem w_157 : tables_1[157]? = some (Jvm.Cond.selects "java/lang/String" ({ cls := "java/lang/String", name := "equals", desc := "(Ljava/lang/Object;)Z" } : Jvm.MethodName) ({ cls := "java/lang/String", name := "equals", desc := "(Ljava/lang/Object;)Z" } : Jvm.MethodName)) := rfl
theorem w_158 : tables_1[158]? = some (Jvm.Cond.code ({ cls := "java/lang/String", name := "equals", desc := "(Ljava/lang/Object;)Z" } : Jvm.MethodName) jdk_42_method_66_code (3 : Nat) (Option.some Jvm.ClassFile.FieldType.boolean)) := rfl
theorem w_159 : tables_1[159]? = some (Jvm.Cond.classLink "java/lang/String" (10 : Nat) "java/lang/String") := rfl
theorem w_160 : tables_1[160]? = some (Jvm.Cond.methodLink "java/lang/String" (541 : Nat) ({ cls := "java/lang/StringLatin1", name := "equals", desc := "([B[B)Z" } : Jvm.MethodName)) := rfl
theorem w_161 : tables_1[161]? = some (Jvm.Cond.static ({ cls := "java/lang/StringLatin1", name := "equals", desc := "([B[B)Z" } : Jvm.MethodName)) := rfl
theorem w_162 : tables_1[162]? = some (Jvm.Cond.initialized "java/lang/StringLatin1") := rfl
theorem w_163 : tables_1[163]? = some (Jvm.Cond.code ({ cls := "java/lang/StringLatin1", name := "equals", desc := "([B[B)Z" } : Jvm.MethodName) jdk_43_method_13_code (3 : Nat) (Option.some Jvm.ClassFile.FieldType.boolean)) := rfl
theorem w_164 : tables_1[164]? = some (Jvm.Cond.methodLink "com/example/despatch/despatch/http/HeaderListElementsPinLaw" (52 : Nat) ({ cls := "com/example/despatch/despatch/http/HeaderListElementsPinLaw", name := "inner", desc := "(I)C" } : Jvm.MethodName)) := rfl
theorem w_165 : tables_1[165]? = some (Jvm.Cond.static ({ cls := "com/example/despatch/despatch/http/HeaderListElementsPinLaw", name := "inner", desc := "(I)C" } : Jvm.MethodName)) := rfl
theorem w_166 : tables_1[166]? = some (Jvm.Cond.code ({ cls := "com/example/despatch/despatch/http/HeaderListElementsPinLaw", name := "inner", desc := "(I)C" } : Jvm.MethodName) method_4_code (2 : Nat) (Option.some Jvm.ClassFile.FieldType.char)) := rfl
theorem w_167 : tables_1[167]? = some (Jvm.Cond.methodLink "java/lang/String" (177 : Nat) ({ cls := "java/lang/StringUTF16", name := "compress", desc := "([CII)[B" } : Jvm.MethodName)) := rfl
theorem w_168 : tables_1[168]? = some (Jvm.Cond.static ({ cls := "java/lang/StringUTF16", name := "compress", desc := "([CII)[B" } : Jvm.MethodName)) := rfl
theorem w_169 : tables_1[169]? = some (Jvm.Cond.initialized "java/lang/StringUTF16") := rfl
theorem w_170 : tables_1[170]? = some (Jvm.Cond.code ({ cls := "java/lang/StringUTF16", name := "compress", desc := "([CII)[B" } : Jvm.MethodName) jdk_52_method_16_code (6 : Nat) (Option.some (Jvm.ClassFile.FieldType.array Jvm.ClassFile.FieldType.byte))) := rfl
theorem w_171 : tables_1[171]? = some (Jvm.Cond.methodLink "java/lang/StringUTF16" (115 : Nat) ({ cls := "java/lang/StringUTF16", name := "compress", desc := "([CI[BII)I" } : Jvm.MethodName)) := rfl
theorem w_172 : tables_1[172]? = some (Jvm.Cond.static ({ cls := "java/lang/StringUTF16", name := "compress", desc := "([CI[BII)I" } : Jvm.MethodName)) := rfl
theorem w_173 : tables_1[173]? = some (Jvm.Cond.code ({ cls := "java/lang/StringUTF16", name := "compress", desc := "([CI[BII)I" } : Jvm.MethodName) jdk_52_method_21_code (7 : Nat) (Option.some Jvm.ClassFile.FieldType.int)) := rfl
theorem w_174 : tables_1[174]? = some (Jvm.Cond.methodLink "java/lang/String" (47 : Nat) ({ cls := "java/lang/StringUTF16", name := "coderFromArrayLen", desc := "([BI)B" } : Jvm.MethodName)) := rfl
theorem w_175 : tables_1[175]? = some (Jvm.Cond.static ({ cls := "java/lang/StringUTF16", name := "coderFromArrayLen", desc := "([BI)B" } : Jvm.MethodName)) := rfl
theorem w_176 : tables_1[176]? = some (Jvm.Cond.code ({ cls := "java/lang/StringUTF16", name := "coderFromArrayLen", desc := "([BI)B" } : Jvm.MethodName) jdk_52_method_15_code (2 : Nat) (Option.some Jvm.ClassFile.FieldType.byte)) := rfl
theorem w_177 : tables_1[177]? = some (Jvm.Cond.methodLink "com/example/despatch/despatch/http/HeaderList" (16 : Nat) ({ cls := "java/lang/String", name := "charAt", desc := "(I)C" } : Jvm.MethodName)) := rfl
theorem w_178 : tables_1[178]? = some (Jvm.Cond.declares ({ cls := "java/lang/String", name := "charAt", desc := "(I)C" } : Jvm.MethodName)) := rfl
theorem w_179 : tables_1[179]? = some (Jvm.Cond.instanceMethod ({ cls := "java/lang/String", name := "charAt", desc := "(I)C" } : Jvm.MethodName)) := rfl
theorem w_180 : tables_1[180]? = some (Jvm.Cond.selects "java/lang/String" ({ cls := "java/lang/String", name := "charAt", desc := "(I)C" } : Jvm.MethodName) ({ cls := "java/lang/String", name := "charAt", desc := "(I)C" } : Jvm.MethodName)) := rfl
theorem w_181 : tables_1[181]? = some (Jvm.Cond.code ({ cls := "java/lang/String", name := "charAt", desc := "(I)C" } : Jvm.MethodName) jdk_42_method_56_code (2 : Nat) (Option.some Jvm.ClassFile.FieldType.char)) := rfl
theorem w_182 : tables_1[182]? = some (Jvm.Cond.methodLink "java/lang/String" (492 : Nat) ({ cls := "java/lang/String", name := "isLatin1", desc := "()Z" } : Jvm.MethodName)) := rfl
theorem w_183 : tables_1[183]? = some (Jvm.Cond.declares ({ cls := "java/lang/String", name := "isLatin1", desc := "()Z" } : Jvm.MethodName)) := rfl
theorem w_184 : tables_1[184]? = some (Jvm.Cond.instanceMethod ({ cls := "java/lang/String", name := "isLatin1", desc := "()Z" } : Jvm.MethodName)) := rfl
theorem w_185 : tables_1[185]? = some (Jvm.Cond.selects "java/lang/String" ({ cls := "java/lang/String", name := "isLatin1", desc := "()Z" } : Jvm.MethodName) ({ cls := "java/lang/String", name := "isLatin1", desc := "()Z" } : Jvm.MethodName)) := rfl
theorem w_186 : tables_1[186]? = some (Jvm.Cond.code ({ cls := "java/lang/String", name := "isLatin1", desc := "()Z" } : Jvm.MethodName) jdk_42_method_154_code (1 : Nat) (Option.some Jvm.ClassFile.FieldType.boolean)) := rfl
theorem w_187 : tables_1[187]? = some (Jvm.Cond.methodLink "java/lang/String" (495 : Nat) ({ cls := "java/lang/StringLatin1", name := "charAt", desc := "([BI)C" } : Jvm.MethodName)) := rfl
theorem w_188 : tables_1[188]? = some (Jvm.Cond.static ({ cls := "java/lang/StringLatin1", name := "charAt", desc := "([BI)C" } : Jvm.MethodName)) := rfl
theorem w_189 : tables_1[189]? = some (Jvm.Cond.code ({ cls := "java/lang/StringLatin1", name := "charAt", desc := "([BI)C" } : Jvm.MethodName) jdk_43_method_2_code (2 : Nat) (Option.some Jvm.ClassFile.FieldType.char)) := rfl
theorem w_190 : tables_1[190]? = some (Jvm.Cond.methodLink "java/lang/StringLatin1" (9 : Nat) ({ cls := "java/lang/String", name := "checkIndex", desc := "(II)V" } : Jvm.MethodName)) := rfl
theorem w_191 : tables_1[191]? = some (Jvm.Cond.static ({ cls := "java/lang/String", name := "checkIndex", desc := "(II)V" } : Jvm.MethodName)) := rfl
theorem w_192 : tables_1[192]? = some (Jvm.Cond.code ({ cls := "java/lang/String", name := "checkIndex", desc := "(II)V" } : Jvm.MethodName) jdk_42_method_155_code (2 : Nat) (Option.none : Option Jvm.ClassFile.FieldType)) := rfl
theorem w_193 : tables_1[193]? = some (Jvm.Cond.methodLink "java/lang/String" (1059 : Nat) ({ cls := "jdk/internal/util/Preconditions", name := "checkIndex", desc := "(IILjava/util/function/BiFunction;)I" } : Jvm.MethodName)) := rfl
theorem w_194 : tables_1[194]? = some (Jvm.Cond.methodLink "com/example/despatch/despatch/http/HeaderListElementsPinLaw" (48 : Nat) ({ cls := "com/example/despatch/despatch/http/HeaderListElementsPinLaw", name := "plain", desc := "(I)C" } : Jvm.MethodName)) := rfl
theorem w_195 : tables_1[195]? = some (Jvm.Cond.static ({ cls := "com/example/despatch/despatch/http/HeaderListElementsPinLaw", name := "plain", desc := "(I)C" } : Jvm.MethodName)) := rfl
theorem w_196 : tables_1[196]? = some (Jvm.Cond.code ({ cls := "com/example/despatch/despatch/http/HeaderListElementsPinLaw", name := "plain", desc := "(I)C" } : Jvm.MethodName) method_3_code (2 : Nat) (Option.some Jvm.ClassFile.FieldType.char)) := rfl
theorem w_197 : tables_1[197]? = some (Jvm.Cond.methodLink "com/example/despatch/despatch/http/HeaderList" (20 : Nat) ({ cls := "java/lang/String", name := "substring", desc := "(II)Ljava/lang/String;" } : Jvm.MethodName)) := rfl
theorem w_198 : tables_1[198]? = some (Jvm.Cond.methodLink "java/lang/String" (685 : Nat) ({ cls := "java/lang/StringLatin1", name := "newString", desc := "([BII)Ljava/lang/String;" } : Jvm.MethodName)) := rfl
theorem w_199 : tables_1[199]? = some (Jvm.Cond.static ({ cls := "java/lang/StringLatin1", name := "newString", desc := "([BII)Ljava/lang/String;" } : Jvm.MethodName)) := rfl
theorem w_200 : tables_1[200]? = some (Jvm.Cond.code ({ cls := "java/lang/StringLatin1", name := "newString", desc := "([BII)Ljava/lang/String;" } : Jvm.MethodName) jdk_43_method_47_code (3 : Nat) (Option.some (Jvm.ClassFile.FieldType.object "java/lang/String"))) := rfl
theorem w_201 : tables_1[201]? = some (Jvm.Cond.stringLink "java/lang/StringLatin1" (151 : Nat) "") := rfl
theorem w_202 : tables_1[202]? = some (Jvm.Cond.classLink "java/lang/StringLatin1" (1 : Nat) "java/lang/String") := rfl
theorem w_203 : tables_1[203]? = some (Jvm.Cond.methodLink "java/lang/StringLatin1" (232 : Nat) ({ cls := "java/util/Arrays", name := "copyOfRange", desc := "([BII)[B" } : Jvm.MethodName)) := rfl
theorem w_204 : tables_1[204]? = some (Jvm.Cond.static ({ cls := "java/util/Arrays", name := "copyOfRange", desc := "([BII)[B" } : Jvm.MethodName)) := rfl
theorem w_205 : tables_1[205]? = some (Jvm.Cond.initialized "java/util/Arrays") := rfl
theorem w_206 : tables_1[206]? = some (Jvm.Cond.code ({ cls := "java/util/Arrays", name := "copyOfRange", desc := "([BII)[B" } : Jvm.MethodName) jdk_65_method_132_code (3 : Nat) (Option.some (Jvm.ClassFile.FieldType.array Jvm.ClassFile.FieldType.byte))) := rfl
theorem w_207 : tables_1[207]? = some (Jvm.Cond.methodLink "java/util/Arrays" (339 : Nat) ({ cls := "java/util/Arrays", name := "copyOfRangeByte", desc := "([BII)[B" } : Jvm.MethodName)) := rfl
theorem w_208 : tables_1[208]? = some (Jvm.Cond.static ({ cls := "java/util/Arrays", name := "copyOfRangeByte", desc := "([BII)[B" } : Jvm.MethodName)) := rfl
theorem w_209 : tables_1[209]? = some (Jvm.Cond.code ({ cls := "java/util/Arrays", name := "copyOfRangeByte", desc := "([BII)[B" } : Jvm.MethodName) jdk_65_method_133_code (5 : Nat) (Option.some (Jvm.ClassFile.FieldType.array Jvm.ClassFile.FieldType.byte))) := rfl
theorem w_210 : tables_1[210]? = some (Jvm.Cond.methodLink "java/util/Arrays" (343 : Nat) ({ cls := "java/util/Arrays", name := "checkLength", desc := "(II)V" } : Jvm.MethodName)) := rfl
theorem w_211 : tables_1[211]? = some (Jvm.Cond.static ({ cls := "java/util/Arrays", name := "checkLength", desc := "(II)V" } : Jvm.MethodName)) := rfl
theorem w_212 : tables_1[212]? = some (Jvm.Cond.code ({ cls := "java/util/Arrays", name := "checkLength", desc := "(II)V" } : Jvm.MethodName) jdk_65_method_131_code (2 : Nat) (Option.none : Option Jvm.ClassFile.FieldType)) := rfl
theorem w_213 : tables_1[213]? = some (Jvm.Cond.methodLink "java/util/Arrays" (304 : Nat) ({ cls := "java/lang/Math", name := "min", desc := "(II)I" } : Jvm.MethodName)) := rfl
theorem w_214 : tables_1[214]? = some (Jvm.Cond.static ({ cls := "java/lang/Math", name := "min", desc := "(II)I" } : Jvm.MethodName)) := rfl
theorem w_215 : tables_1[215]? = some (Jvm.Cond.code ({ cls := "java/lang/Math", name := "min", desc := "(II)I" } : Jvm.MethodName) jdk_29_method_69_code (2 : Nat) (Option.some Jvm.ClassFile.FieldType.int)) := rfl
theorem w_216 : tables_1[216]? = some (Jvm.Cond.methodLink "java/util/Arrays" (150 : Nat) ({ cls := "java/lang/System", name := "arraycopy", desc := "(Ljava/lang/Object;ILjava/lang/Object;II)V" } : Jvm.MethodName)) := rfl
theorem w_217 : tables_1[217]? = some (Jvm.Cond.static ({ cls := "java/lang/System", name := "arraycopy", desc := "(Ljava/lang/Object;ILjava/lang/Object;II)V" } : Jvm.MethodName)) := rfl
theorem w_218 : tables_1[218]? = some (Jvm.Cond.initialized "java/lang/System") := rfl
theorem w_219 : tables_1[219]? = some (Jvm.Cond.native ({ cls := "java/lang/System", name := "arraycopy", desc := "(Ljava/lang/Object;ILjava/lang/Object;II)V" } : Jvm.MethodName)) := rfl
theorem w_220 : tables_1[220]? = some (Jvm.Cond.methodLink "java/lang/StringLatin1" (112 : Nat) ({ cls := "java/lang/String", name := "<init>", desc := "([BB)V" } : Jvm.MethodName)) := rfl
theorem w_221 : tables_1[221]? = some (Jvm.Cond.instanceMethod ({ cls := "java/lang/String", name := "<init>", desc := "([BB)V" } : Jvm.MethodName)) := rfl
theorem w_222 : tables_1[222]? = some (Jvm.Cond.code ({ cls := "java/lang/String", name := "<init>", desc := "([BB)V" } : Jvm.MethodName) jdk_42_method_151_code (3 : Nat) (Option.none : Option Jvm.ClassFile.FieldType)) := rfl
theorem w_223 : tables_1[223]? = some (Jvm.Cond.methodLink "com/example/despatch/despatch/http/HeaderListElementsPinLaw" (55 : Nat) ({ cls := "com/example/despatch/despatch/http/HeaderListElementsPinLaw", name := "open", desc := "(I)C" } : Jvm.MethodName)) := rfl
theorem w_224 : tables_1[224]? = some (Jvm.Cond.static ({ cls := "com/example/despatch/despatch/http/HeaderListElementsPinLaw", name := "open", desc := "(I)C" } : Jvm.MethodName)) := rfl
theorem w_225 : tables_1[225]? = some (Jvm.Cond.code ({ cls := "com/example/despatch/despatch/http/HeaderListElementsPinLaw", name := "open", desc := "(I)C" } : Jvm.MethodName) method_5_code (2 : Nat) (Option.some Jvm.ClassFile.FieldType.char)) := rfl
theorem dc555 : decode jdk_22_method_1_code 0 = .ok (.aload_n 0, 1) := by decide +kernel
theorem dc556 : decode jdk_22_method_1_code 1 = .ok (.invokespecial 1, 3) := by decide +kernel
theorem dc557 : decode jdk_22_method_1_code 4 = .ok (.return_, 1) := by decide +kernel
theorem dc570 : decode jdk_29_method_65_code 0 = .ok (.iload_n 0, 1) := by decide +kernel
theorem dc571 : decode jdk_29_method_65_code 1 = .ok (.iload_n 1, 1) := by decide +kernel
theorem dc572 : decode jdk_29_method_65_code 2 = .ok (.if_icmp .lt 7, 3) := by decide +kernel
theorem dc573 : decode jdk_29_method_65_code 5 = .ok (.iload_n 0, 1) := by decide +kernel
theorem dc574 : decode jdk_29_method_65_code 6 = .ok (.goto 4, 3) := by decide +kernel
theorem dc575 : decode jdk_29_method_65_code 10 = .ok (.ireturn, 1) := by decide +kernel
theorem dc456 : decode jdk_29_method_69_code 0 = .ok (.iload_n 0, 1) := by decide +kernel
theorem dc457 : decode jdk_29_method_69_code 1 = .ok (.iload_n 1, 1) := by decide +kernel
theorem dc458 : decode jdk_29_method_69_code 2 = .ok (.if_icmp .gt 7, 3) := by decide +kernel
theorem dc461 : decode jdk_29_method_69_code 5 = .ok (.iload_n 0, 1) := by decide +kernel
theorem dc462 : decode jdk_29_method_69_code 6 = .ok (.goto 4, 3) := by decide +kernel
theorem dc459 : decode jdk_29_method_69_code 9 = .ok (.iload_n 1, 1) := by decide +kernel
theorem dc460 : decode jdk_29_method_69_code 10 = .ok (.ireturn, 1) := by decide +kernel
theorem dc641 : decode jdk_31_method_17_code 0 = .ok (.iload_n 0, 1) := by decide +kernel
theorem dc642 : decode jdk_31_method_17_code 1 = .ok (.iload_n 1, 1) := by decide +kernel
theorem dc643 : decode jdk_31_method_17_code 2 = .ok (.aconst_null, 1) := by decide +kernel
theorem dc644 : decode jdk_31_method_17_code 3 = .ok (.invokestatic 105, 3) := by decide +kernel
theorem dc645 : decode jdk_31_method_17_code 6 = .ok (.ireturn, 1) := by decide +kernel
theorem dc636 : decode jdk_38_method_18_code 0 = .ok (.aload_n 0, 1) := by decide +kernel
theorem dc637 : decode jdk_38_method_18_code 1 = .ok (.getfield 9, 3) := by decide +kernel
theorem dc638 : decode jdk_38_method_18_code 4 = .ok (.iload_n 1, 1) := by decide +kernel
theorem dc639 : decode jdk_38_method_18_code 5 = .ok (.aaload, 1) := by decide +kernel
theorem dc640 : decode jdk_38_method_18_code 6 = .ok (.areturn, 1) := by decide +kernel
theorem dc646 : decode jdk_38_method_20_code 0 = .ok (.iload_n 1, 1) := by decide +kernel
theorem dc647 : decode jdk_38_method_20_code 1 = .ok (.aload_n 0, 1) := by decide +kernel
theorem dc648 : decode jdk_38_method_20_code 2 = .ok (.getfield 48, 3) := by decide +kernel
theorem dc649 : decode jdk_38_method_20_code 5 = .ok (.invokestatic 118, 3) := by decide +kernel
theorem dc650 : decode jdk_38_method_20_code 8 = .ok (.pop, 1) := by decide +kernel
theorem dc651 : decode jdk_38_method_20_code 9 = .ok (.aload_n 0, 1) := by decide +kernel
theorem dc652 : decode jdk_38_method_20_code 10 = .ok (.iload_n 1, 1) := by decide +kernel
theorem dc653 : decode jdk_38_method_20_code 11 = .ok (.invokevirtual 123, 3) := by decide +kernel
theorem dc654 : decode jdk_38_method_20_code 14 = .ok (.areturn, 1) := by decide +kernel
theorem dc601 : decode jdk_38_method_24_code 0 = .ok (.iload_n 3, 1) := by decide +kernel
theorem dc602 : decode jdk_38_method_24_code 1 = .ok (.aload_n 2, 1) := by decide +kernel
theorem dc603 : decode jdk_38_method_24_code 2 = .ok (.arraylength, 1) := by decide +kernel
theorem dc604 : decode jdk_38_method_24_code 3 = .ok (.if_icmp .ne 8, 3) := by decide +kernel
theorem dc605 : decode jdk_38_method_24_code 6 = .ok (.aload_n 0, 1) := by decide +kernel
theorem dc606 : decode jdk_38_method_24_code 7 = .ok (.invokevirtual 129, 3) := by decide +kernel
theorem dc607 : decode jdk_38_method_24_code 10 = .ok (.astore_n 2, 1) := by decide +kernel
theorem dc608 : decode jdk_38_method_24_code 11 = .ok (.aload_n 2, 1) := by decide +kernel
theorem dc609 : decode jdk_38_method_24_code 12 = .ok (.iload_n 3, 1) := by decide +kernel
theorem dc610 : decode jdk_38_method_24_code 13 = .ok (.aload_n 1, 1) := by decide +kernel
theorem dc611 : decode jdk_38_method_24_code 14 = .ok (.aastore, 1) := by decide +kernel
theorem dc612 : decode jdk_38_method_24_code 15 = .ok (.aload_n 0, 1) := by decide +kernel
theorem dc613 : decode jdk_38_method_24_code 16 = .ok (.iload_n 3, 1) := by decide +kernel
theorem dc614 : decode jdk_38_method_24_code 17 = .ok (.iconst 1, 1) := by decide +kernel
theorem dc615 : decode jdk_38_method_24_code 18 = .ok (.iadd, 1) := by decide +kernel
theorem dc616 : decode jdk_38_method_24_code 19 = .ok (.putfield 48, 3) := by decide +kernel
theorem dc617 : decode jdk_38_method_24_code 22 = .ok (.return_, 1) := by decide +kernel
theorem dc618 : decode jdk_38_method_25_code 0 = .ok (.aload_n 0, 1) := by decide +kernel
theorem dc619 : decode jdk_38_method_25_code 1 = .ok (.dup, 1) := by decide +kernel
theorem dc620 : decode jdk_38_method_25_code 2 = .ok (.getfield 63, 3) := by decide +kernel
theorem dc621 : decode jdk_38_method_25_code 5 = .ok (.iconst 1, 1) := by decide +kernel
theorem dc622 : decode jdk_38_method_25_code 6 = .ok (.iadd, 1) := by decide +kernel
theorem dc623 : decode jdk_38_method_25_code 7 = .ok (.putfield 63, 3) := by decide +kernel
theorem dc624 : decode jdk_38_method_25_code 10 = .ok (.aload_n 0, 1) := by decide +kernel
theorem dc625 : decode jdk_38_method_25_code 11 = .ok (.aload_n 1, 1) := by decide +kernel
theorem dc626 : decode jdk_38_method_25_code 12 = .ok (.aload_n 0, 1) := by decide +kernel
theorem dc627 : decode jdk_38_method_25_code 13 = .ok (.getfield 9, 3) := by decide +kernel
theorem dc628 : decode jdk_38_method_25_code 16 = .ok (.aload_n 0, 1) := by decide +kernel
theorem dc629 : decode jdk_38_method_25_code 17 = .ok (.getfield 48, 3) := by decide +kernel
theorem dc630 : decode jdk_38_method_25_code 20 = .ok (.invokevirtual 131, 3) := by decide +kernel
theorem dc631 : decode jdk_38_method_25_code 23 = .ok (.iconst 1, 1) := by decide +kernel
theorem dc632 : decode jdk_38_method_25_code 24 = .ok (.ireturn, 1) := by decide +kernel
theorem dc564 : decode jdk_38_method_2_code 0 = .ok (.aload_n 0, 1) := by decide +kernel
theorem dc565 : decode jdk_38_method_2_code 1 = .ok (.invokespecial 1, 3) := by decide +kernel
theorem dc566 : decode jdk_38_method_2_code 4 = .ok (.aload_n 0, 1) := by decide +kernel
theorem dc567 : decode jdk_38_method_2_code 5 = .ok (.getstatic 39, 3) := by decide +kernel
theorem dc568 : decode jdk_38_method_2_code 8 = .ok (.putfield 9, 3) := by decide +kernel
theorem dc569 : decode jdk_38_method_2_code 11 = .ok (.return_, 1) := by decide +kernel
theorem dc576 : decode jdk_38_method_6_code 0 = .ok (.aload_n 0, 1) := by decide +kernel
theorem dc577 : decode jdk_38_method_6_code 1 = .ok (.getfield 9, 3) := by decide +kernel
theorem dc578 : decode jdk_38_method_6_code 4 = .ok (.arraylength, 1) := by decide +kernel
theorem dc579 : decode jdk_38_method_6_code 5 = .ok (.istore_n 2, 1) := by decide +kernel
theorem dc580 : decode jdk_38_method_6_code 6 = .ok (.iload_n 2, 1) := by decide +kernel
theorem dc581 : decode jdk_38_method_6_code 7 = .ok (.ifCond .gt 13, 3) := by decide +kernel
theorem dc582 : decode jdk_38_method_6_code 10 = .ok (.aload_n 0, 1) := by decide +kernel
theorem dc583 : decode jdk_38_method_6_code 11 = .ok (.getfield 9, 3) := by decide +kernel
theorem dc584 : decode jdk_38_method_6_code 14 = .ok (.getstatic 39, 3) := by decide +kernel
theorem dc585 : decode jdk_38_method_6_code 17 = .ok (.if_acmp .eq 28, 3) := by decide +kernel
theorem dc586 : decode jdk_38_method_6_code 45 = .ok (.aload_n 0, 1) := by decide +kernel
theorem dc587 : decode jdk_38_method_6_code 46 = .ok (.bipush 10, 2) := by decide +kernel
theorem dc588 : decode jdk_38_method_6_code 48 = .ok (.iload_n 1, 1) := by decide +kernel
theorem dc589 : decode jdk_38_method_6_code 49 = .ok (.invokestatic 79, 3) := by decide +kernel
theorem dc590 : decode jdk_38_method_6_code 52 = .ok (.anewarray 7, 3) := by decide +kernel
theorem dc591 : decode jdk_38_method_6_code 55 = .ok (.dup_x1, 1) := by decide +kernel
theorem dc592 : decode jdk_38_method_6_code 56 = .ok (.putfield 9, 3) := by decide +kernel
theorem dc593 : decode jdk_38_method_6_code 59 = .ok (.areturn, 1) := by decide +kernel
theorem dc594 : decode jdk_38_method_7_code 0 = .ok (.aload_n 0, 1) := by decide +kernel
theorem dc595 : decode jdk_38_method_7_code 1 = .ok (.aload_n 0, 1) := by decide +kernel
theorem dc596 : decode jdk_38_method_7_code 2 = .ok (.getfield 48, 3) := by decide +kernel
theorem dc597 : decode jdk_38_method_7_code 5 = .ok (.iconst 1, 1) := by decide +kernel
theorem dc598 : decode jdk_38_method_7_code 6 = .ok (.iadd, 1) := by decide +kernel
theorem dc599 : decode jdk_38_method_7_code 7 = .ok (.invokevirtual 69, 3) := by decide +kernel
theorem dc600 : decode jdk_38_method_7_code 10 = .ok (.areturn, 1) := by decide +kernel
theorem dc633 : decode jdk_38_method_8_code 0 = .ok (.aload_n 0, 1) := by decide +kernel
theorem dc634 : decode jdk_38_method_8_code 1 = .ok (.getfield 48, 3) := by decide +kernel
theorem dc635 : decode jdk_38_method_8_code 4 = .ok (.ireturn, 1) := by decide +kernel
theorem dc558 : decode jdk_39_method_1_code 0 = .ok (.aload_n 0, 1) := by decide +kernel
theorem dc559 : decode jdk_39_method_1_code 1 = .ok (.invokespecial 1, 3) := by decide +kernel
theorem dc560 : decode jdk_39_method_1_code 4 = .ok (.aload_n 0, 1) := by decide +kernel
theorem dc561 : decode jdk_39_method_1_code 5 = .ok (.iconst 0, 1) := by decide +kernel
theorem dc562 : decode jdk_39_method_1_code 6 = .ok (.putfield 7, 3) := by decide +kernel
theorem dc563 : decode jdk_39_method_1_code 9 = .ok (.return_, 1) := by decide +kernel
theorem dc104 : decode jdk_41_method_11_code 0 = .ok (.iload_n 0, 1) := by decide +kernel
theorem dc105 : decode jdk_41_method_11_code 1 = .ok (.ifCond .lt 8, 3) := by decide +kernel
theorem dc106 : decode jdk_41_method_11_code 4 = .ok (.iload_n 0, 1) := by decide +kernel
theorem dc107 : decode jdk_41_method_11_code 5 = .ok (.iload_n 1, 1) := by decide +kernel
theorem dc108 : decode jdk_41_method_11_code 6 = .ok (.if_icmp .lt 10, 3) := by decide +kernel
theorem dc109 : decode jdk_41_method_11_code 16 = .ok (.iload_n 0, 1) := by decide +kernel
theorem dc110 : decode jdk_41_method_11_code 17 = .ok (.ireturn, 1) := by decide +kernel
theorem dc435 : decode jdk_41_method_12_code 0 = .ok (.iload_n 0, 1) := by decide +kernel
theorem dc436 : decode jdk_41_method_12_code 1 = .ok (.ifCond .lt 13, 3) := by decide +kernel
theorem dc437 : decode jdk_41_method_12_code 4 = .ok (.iload_n 0, 1) := by decide +kernel
theorem dc438 : decode jdk_41_method_12_code 5 = .ok (.iload_n 1, 1) := by decide +kernel
theorem dc439 : decode jdk_41_method_12_code 6 = .ok (.if_icmp .gt 8, 3) := by decide +kernel
theorem dc440 : decode jdk_41_method_12_code 9 = .ok (.iload_n 1, 1) := by decide +kernel
theorem dc441 : decode jdk_41_method_12_code 10 = .ok (.iload_n 2, 1) := by decide +kernel
theorem dc442 : decode jdk_41_method_12_code 11 = .ok (.if_icmp .le 11, 3) := by decide +kernel
theorem dc443 : decode jdk_41_method_12_code 22 = .ok (.iload_n 0, 1) := by decide +kernel
theorem dc444 : decode jdk_41_method_12_code 23 = .ok (.ireturn, 1) := by decide +kernel
theorem dc46 : decode jdk_42_method_149_code 0 = .ok (.aload_n 0, 1) := by decide +kernel
theorem dc47 : decode jdk_42_method_149_code 1 = .ok (.invokespecial 1, 3) := by decide +kernel
theorem dc48 : decode jdk_42_method_149_code 4 = .ok (.iload_n 3, 1) := by decide +kernel
theorem dc49 : decode jdk_42_method_149_code 5 = .ok (.ifCond .ne 22, 3) := by decide +kernel
theorem dc50 : decode jdk_42_method_149_code 8 = .ok (.aload_n 0, 1) := by decide +kernel
theorem dc51 : decode jdk_42_method_149_code 9 = .ok (.ldc 7, 2) := by decide +kernel
theorem dc52 : decode jdk_42_method_149_code 11 = .ok (.getfield 9, 3) := by decide +kernel
theorem dc53 : decode jdk_42_method_149_code 14 = .ok (.putfield 9, 3) := by decide +kernel
theorem dc54 : decode jdk_42_method_149_code 17 = .ok (.aload_n 0, 1) := by decide +kernel
theorem dc55 : decode jdk_42_method_149_code 18 = .ok (.ldc 7, 2) := by decide +kernel
theorem dc56 : decode jdk_42_method_149_code 20 = .ok (.getfield 15, 3) := by decide +kernel
theorem dc57 : decode jdk_42_method_149_code 23 = .ok (.putfield 15, 3) := by decide +kernel
theorem dc58 : decode jdk_42_method_149_code 26 = .ok (.return_, 1) := by decide +kernel
theorem dc59 : decode jdk_42_method_149_code 27 = .ok (.getstatic 38, 3) := by decide +kernel
theorem dc60 : decode jdk_42_method_149_code 30 = .ok (.ifCond .eq 28, 3) := by decide +kernel
theorem dc61 : decode jdk_42_method_149_code 33 = .ok (.aload_n 1, 1) := by decide +kernel
theorem dc62 : decode jdk_42_method_149_code 34 = .ok (.iload_n 2, 1) := by decide +kernel
theorem dc63 : decode jdk_42_method_149_code 35 = .ok (.iload_n 3, 1) := by decide +kernel
theorem dc64 : decode jdk_42_method_149_code 36 = .ok (.invokestatic 177, 3) := by decide +kernel
theorem dc65 : decode jdk_42_method_149_code 39 = .ok (.astore 5, 2) := by decide +kernel
theorem dc66 : decode jdk_42_method_149_code 41 = .ok (.aload_n 0, 1) := by decide +kernel
theorem dc67 : decode jdk_42_method_149_code 42 = .ok (.aload 5, 2) := by decide +kernel
theorem dc68 : decode jdk_42_method_149_code 44 = .ok (.iload_n 3, 1) := by decide +kernel
theorem dc69 : decode jdk_42_method_149_code 45 = .ok (.invokestatic 47, 3) := by decide +kernel
theorem dc70 : decode jdk_42_method_149_code 48 = .ok (.putfield 15, 3) := by decide +kernel
theorem dc71 : decode jdk_42_method_149_code 51 = .ok (.aload_n 0, 1) := by decide +kernel
theorem dc72 : decode jdk_42_method_149_code 52 = .ok (.aload 5, 2) := by decide +kernel
theorem dc73 : decode jdk_42_method_149_code 54 = .ok (.putfield 9, 3) := by decide +kernel
theorem dc74 : decode jdk_42_method_149_code 57 = .ok (.return_, 1) := by decide +kernel
theorem dc497 : decode jdk_42_method_151_code 0 = .ok (.aload_n 0, 1) := by decide +kernel
theorem dc498 : decode jdk_42_method_151_code 1 = .ok (.invokespecial 1, 3) := by decide +kernel
theorem dc499 : decode jdk_42_method_151_code 4 = .ok (.aload_n 0, 1) := by decide +kernel
theorem dc500 : decode jdk_42_method_151_code 5 = .ok (.aload_n 1, 1) := by decide +kernel
theorem dc501 : decode jdk_42_method_151_code 6 = .ok (.putfield 9, 3) := by decide +kernel
theorem dc502 : decode jdk_42_method_151_code 9 = .ok (.aload_n 0, 1) := by decide +kernel
theorem dc503 : decode jdk_42_method_151_code 10 = .ok (.iload_n 2, 1) := by decide +kernel
theorem dc504 : decode jdk_42_method_151_code 11 = .ok (.putfield 15, 3) := by decide +kernel
theorem dc505 : decode jdk_42_method_151_code 14 = .ok (.return_, 1) := by decide +kernel
theorem dc83 : decode jdk_42_method_152_code 0 = .ok (.getstatic 38, 3) := by decide +kernel
theorem dc84 : decode jdk_42_method_152_code 3 = .ok (.ifCond .eq 10, 3) := by decide +kernel
theorem dc85 : decode jdk_42_method_152_code 6 = .ok (.aload_n 0, 1) := by decide +kernel
theorem dc86 : decode jdk_42_method_152_code 7 = .ok (.getfield 15, 3) := by decide +kernel
theorem dc87 : decode jdk_42_method_152_code 10 = .ok (.goto 4, 3) := by decide +kernel
theorem dc88 : decode jdk_42_method_152_code 14 = .ok (.ireturn, 1) := by decide +kernel
theorem dc96 : decode jdk_42_method_154_code 0 = .ok (.getstatic 38, 3) := by decide +kernel
theorem dc97 : decode jdk_42_method_154_code 3 = .ok (.ifCond .eq 14, 3) := by decide +kernel
theorem dc98 : decode jdk_42_method_154_code 6 = .ok (.aload_n 0, 1) := by decide +kernel
theorem dc99 : decode jdk_42_method_154_code 7 = .ok (.getfield 15, 3) := by decide +kernel
theorem dc100 : decode jdk_42_method_154_code 10 = .ok (.ifCond .ne 7, 3) := by decide +kernel
theorem dc101 : decode jdk_42_method_154_code 13 = .ok (.iconst 1, 1) := by decide +kernel
theorem dc102 : decode jdk_42_method_154_code 14 = .ok (.goto 4, 3) := by decide +kernel
theorem dc103 : decode jdk_42_method_154_code 18 = .ok (.ireturn, 1) := by decide +kernel
theorem dc111 : decode jdk_42_method_155_code 0 = .ok (.iload_n 0, 1) := by decide +kernel
theorem dc112 : decode jdk_42_method_155_code 1 = .ok (.iload_n 1, 1) := by decide +kernel
theorem dc113 : decode jdk_42_method_155_code 2 = .ok (.getstatic 1053, 3) := by decide +kernel
theorem dc114 : decode jdk_42_method_155_code 5 = .ok (.invokestatic 1059, 3) := by decide +kernel
theorem dc115 : decode jdk_42_method_155_code 8 = .ok (.pop, 1) := by decide +kernel
theorem dc116 : decode jdk_42_method_155_code 9 = .ok (.return_, 1) := by decide +kernel
theorem dc445 : decode jdk_42_method_158_code 0 = .ok (.iload_n 0, 1) := by decide +kernel
theorem dc446 : decode jdk_42_method_158_code 1 = .ok (.iload_n 1, 1) := by decide +kernel
theorem dc447 : decode jdk_42_method_158_code 2 = .ok (.iload_n 2, 1) := by decide +kernel
theorem dc448 : decode jdk_42_method_158_code 3 = .ok (.getstatic 1053, 3) := by decide +kernel
theorem dc449 : decode jdk_42_method_158_code 6 = .ok (.invokestatic 1062, 3) := by decide +kernel
theorem dc450 : decode jdk_42_method_158_code 9 = .ok (.pop, 1) := by decide +kernel
theorem dc451 : decode jdk_42_method_158_code 10 = .ok (.return_, 1) := by decide +kernel
theorem dc75 : decode jdk_42_method_3_code 0 = .ok (.aload_n 0, 1) := by decide +kernel
theorem dc76 : decode jdk_42_method_3_code 1 = .ok (.aload_n 1, 1) := by decide +kernel
theorem dc77 : decode jdk_42_method_3_code 2 = .ok (.iconst 0, 1) := by decide +kernel
theorem dc78 : decode jdk_42_method_3_code 3 = .ok (.aload_n 1, 1) := by decide +kernel
theorem dc79 : decode jdk_42_method_3_code 4 = .ok (.arraylength, 1) := by decide +kernel
theorem dc80 : decode jdk_42_method_3_code 5 = .ok (.aconst_null, 1) := by decide +kernel
theorem dc81 : decode jdk_42_method_3_code 6 = .ok (.invokespecial 27, 3) := by decide +kernel
theorem dc82 : decode jdk_42_method_3_code 9 = .ok (.return_, 1) := by decide +kernel
theorem dc89 : decode jdk_42_method_54_code 0 = .ok (.aload_n 0, 1) := by decide +kernel
theorem dc90 : decode jdk_42_method_54_code 1 = .ok (.getfield 9, 3) := by decide +kernel
theorem dc91 : decode jdk_42_method_54_code 4 = .ok (.arraylength, 1) := by decide +kernel
theorem dc92 : decode jdk_42_method_54_code 5 = .ok (.aload_n 0, 1) := by decide +kernel
theorem dc93 : decode jdk_42_method_54_code 6 = .ok (.invokevirtual 335, 3) := by decide +kernel
theorem dc94 : decode jdk_42_method_54_code 9 = .ok (.ishr, 1) := by decide +kernel
theorem dc95 : decode jdk_42_method_54_code 10 = .ok (.ireturn, 1) := by decide +kernel
theorem dc128 : decode jdk_42_method_56_code 0 = .ok (.aload_n 0, 1) := by decide +kernel
theorem dc129 : decode jdk_42_method_56_code 1 = .ok (.invokevirtual 492, 3) := by decide +kernel
theorem dc130 : decode jdk_42_method_56_code 4 = .ok (.ifCond .eq 12, 3) := by decide +kernel
theorem dc131 : decode jdk_42_method_56_code 7 = .ok (.aload_n 0, 1) := by decide +kernel
theorem dc132 : decode jdk_42_method_56_code 8 = .ok (.getfield 9, 3) := by decide +kernel
theorem dc133 : decode jdk_42_method_56_code 11 = .ok (.iload_n 1, 1) := by decide +kernel
theorem dc134 : decode jdk_42_method_56_code 12 = .ok (.invokestatic 495, 3) := by decide +kernel
theorem dc135 : decode jdk_42_method_56_code 15 = .ok (.ireturn, 1) := by decide +kernel
theorem dc162 : decode jdk_42_method_66_code 0 = .ok (.aload_n 0, 1) := by decide +kernel
theorem dc163 : decode jdk_42_method_66_code 1 = .ok (.aload_n 1, 1) := by decide +kernel
theorem dc164 : decode jdk_42_method_66_code 2 = .ok (.if_acmp .ne 5, 3) := by decide +kernel
theorem dc165 : decode jdk_42_method_66_code 7 = .ok (.aload_n 1, 1) := by decide +kernel
theorem dc166 : decode jdk_42_method_66_code 8 = .ok (.instanceof 10, 3) := by decide +kernel
theorem dc167 : decode jdk_42_method_66_code 11 = .ok (.ifCond .eq 43, 3) := by decide +kernel
theorem dc168 : decode jdk_42_method_66_code 14 = .ok (.aload_n 1, 1) := by decide +kernel
theorem dc169 : decode jdk_42_method_66_code 15 = .ok (.checkcast 10, 3) := by decide +kernel
theorem dc170 : decode jdk_42_method_66_code 18 = .ok (.astore_n 2, 1) := by decide +kernel
theorem dc171 : decode jdk_42_method_66_code 19 = .ok (.getstatic 38, 3) := by decide +kernel
theorem dc172 : decode jdk_42_method_66_code 22 = .ok (.ifCond .eq 14, 3) := by decide +kernel
theorem dc173 : decode jdk_42_method_66_code 25 = .ok (.aload_n 0, 1) := by decide +kernel
theorem dc174 : decode jdk_42_method_66_code 26 = .ok (.getfield 15, 3) := by decide +kernel
theorem dc175 : decode jdk_42_method_66_code 29 = .ok (.aload_n 2, 1) := by decide +kernel
theorem dc176 : decode jdk_42_method_66_code 30 = .ok (.getfield 15, 3) := by decide +kernel
theorem dc177 : decode jdk_42_method_66_code 33 = .ok (.if_icmp .ne 21, 3) := by decide +kernel
theorem dc178 : decode jdk_42_method_66_code 36 = .ok (.aload_n 0, 1) := by decide +kernel
theorem dc179 : decode jdk_42_method_66_code 37 = .ok (.getfield 9, 3) := by decide +kernel
theorem dc180 : decode jdk_42_method_66_code 40 = .ok (.aload_n 2, 1) := by decide +kernel
theorem dc181 : decode jdk_42_method_66_code 41 = .ok (.getfield 9, 3) := by decide +kernel
theorem dc182 : decode jdk_42_method_66_code 44 = .ok (.invokestatic 541, 3) := by decide +kernel
theorem dc183 : decode jdk_42_method_66_code 47 = .ok (.ifCond .eq 7, 3) := by decide +kernel
theorem dc184 : decode jdk_42_method_66_code 50 = .ok (.iconst 1, 1) := by decide +kernel
theorem dc185 : decode jdk_42_method_66_code 51 = .ok (.goto 4, 3) := by decide +kernel
theorem dc187 : decode jdk_42_method_66_code 54 = .ok (.iconst 0, 1) := by decide +kernel
theorem dc186 : decode jdk_42_method_66_code 55 = .ok (.ireturn, 1) := by decide +kernel
theorem dc549 : decode jdk_42_method_91_code 0 = .ok (.aload_n 0, 1) := by decide +kernel
theorem dc550 : decode jdk_42_method_91_code 1 = .ok (.iload_n 1, 1) := by decide +kernel
theorem dc551 : decode jdk_42_method_91_code 2 = .ok (.aload_n 0, 1) := by decide +kernel
theorem dc552 : decode jdk_42_method_91_code 3 = .ok (.invokevirtual 505, 3) := by decide +kernel
theorem dc553 : decode jdk_42_method_91_code 6 = .ok (.invokevirtual 681, 3) := by decide +kernel
theorem dc554 : decode jdk_42_method_91_code 9 = .ok (.areturn, 1) := by decide +kernel
theorem dc521 : decode jdk_42_method_92_code 0 = .ok (.aload_n 0, 1) := by decide +kernel
theorem dc522 : decode jdk_42_method_92_code 1 = .ok (.invokevirtual 505, 3) := by decide +kernel
theorem dc523 : decode jdk_42_method_92_code 4 = .ok (.istore_n 3, 1) := by decide +kernel
theorem dc524 : decode jdk_42_method_92_code 5 = .ok (.iload_n 1, 1) := by decide +kernel
theorem dc525 : decode jdk_42_method_92_code 6 = .ok (.iload_n 2, 1) := by decide +kernel
theorem dc526 : decode jdk_42_method_92_code 7 = .ok (.iload_n 3, 1) := by decide +kernel
theorem dc527 : decode jdk_42_method_92_code 8 = .ok (.invokestatic 521, 3) := by decide +kernel
theorem dc528 : decode jdk_42_method_92_code 11 = .ok (.iload_n 1, 1) := by decide +kernel
theorem dc529 : decode jdk_42_method_92_code 12 = .ok (.ifCond .ne 10, 3) := by decide +kernel
theorem dc530 : decode jdk_42_method_92_code 15 = .ok (.iload_n 2, 1) := by decide +kernel
theorem dc531 : decode jdk_42_method_92_code 16 = .ok (.iload_n 3, 1) := by decide +kernel
theorem dc532 : decode jdk_42_method_92_code 17 = .ok (.if_icmp .ne 5, 3) := by decide +kernel
theorem dc533 : decode jdk_42_method_92_code 20 = .ok (.aload_n 0, 1) := by decide +kernel
theorem dc534 : decode jdk_42_method_92_code 21 = .ok (.areturn, 1) := by decide +kernel
theorem dc535 : decode jdk_42_method_92_code 22 = .ok (.iload_n 2, 1) := by decide +kernel
theorem dc536 : decode jdk_42_method_92_code 23 = .ok (.iload_n 1, 1) := by decide +kernel
theorem dc537 : decode jdk_42_method_92_code 24 = .ok (.isub, 1) := by decide +kernel
theorem dc538 : decode jdk_42_method_92_code 25 = .ok (.istore 4, 2) := by decide +kernel
theorem dc539 : decode jdk_42_method_92_code 27 = .ok (.aload_n 0, 1) := by decide +kernel
theorem dc540 : decode jdk_42_method_92_code 28 = .ok (.invokevirtual 492, 3) := by decide +kernel
theorem dc541 : decode jdk_42_method_92_code 31 = .ok (.ifCond .eq 16, 3) := by decide +kernel
theorem dc542 : decode jdk_42_method_92_code 34 = .ok (.aload_n 0, 1) := by decide +kernel
theorem dc543 : decode jdk_42_method_92_code 35 = .ok (.getfield 9, 3) := by decide +kernel
theorem dc544 : decode jdk_42_method_92_code 38 = .ok (.iload_n 1, 1) := by decide +kernel
theorem dc545 : decode jdk_42_method_92_code 39 = .ok (.iload 4, 2) := by decide +kernel
theorem dc546 : decode jdk_42_method_92_code 41 = .ok (.invokestatic 685, 3) := by decide +kernel
theorem dc547 : decode jdk_42_method_92_code 44 = .ok (.goto 13, 3) := by decide +kernel
theorem dc548 : decode jdk_42_method_92_code 57 = .ok (.areturn, 1) := by decide +kernel
theorem dc136 : decode jdk_43_method_13_code 0 = .ok (.aload_n 0, 1) := by decide +kernel
theorem dc137 : decode jdk_43_method_13_code 1 = .ok (.arraylength, 1) := by decide +kernel
theorem dc138 : decode jdk_43_method_13_code 2 = .ok (.aload_n 1, 1) := by decide +kernel
theorem dc139 : decode jdk_43_method_13_code 3 = .ok (.arraylength, 1) := by decide +kernel
theorem dc140 : decode jdk_43_method_13_code 4 = .ok (.if_icmp .ne 30, 3) := by decide +kernel
theorem dc141 : decode jdk_43_method_13_code 7 = .ok (.iconst 0, 1) := by decide +kernel
theorem dc142 : decode jdk_43_method_13_code 8 = .ok (.istore_n 2, 1) := by decide +kernel
theorem dc143 : decode jdk_43_method_13_code 9 = .ok (.iload_n 2, 1) := by decide +kernel
theorem dc144 : decode jdk_43_method_13_code 10 = .ok (.aload_n 0, 1) := by decide +kernel
theorem dc145 : decode jdk_43_method_13_code 11 = .ok (.arraylength, 1) := by decide +kernel
theorem dc146 : decode jdk_43_method_13_code 12 = .ok (.if_icmp .ge 20, 3) := by decide +kernel
theorem dc149 : decode jdk_43_method_13_code 15 = .ok (.aload_n 0, 1) := by decide +kernel
theorem dc150 : decode jdk_43_method_13_code 16 = .ok (.iload_n 2, 1) := by decide +kernel
theorem dc151 : decode jdk_43_method_13_code 17 = .ok (.baload, 1) := by decide +kernel
theorem dc152 : decode jdk_43_method_13_code 18 = .ok (.aload_n 1, 1) := by decide +kernel
theorem dc153 : decode jdk_43_method_13_code 19 = .ok (.iload_n 2, 1) := by decide +kernel
theorem dc154 : decode jdk_43_method_13_code 20 = .ok (.baload, 1) := by decide +kernel
theorem dc155 : decode jdk_43_method_13_code 21 = .ok (.if_icmp .eq 5, 3) := by decide +kernel
theorem dc158 : decode jdk_43_method_13_code 24 = .ok (.iconst 0, 1) := by decide +kernel
theorem dc159 : decode jdk_43_method_13_code 25 = .ok (.ireturn, 1) := by decide +kernel
theorem dc156 : decode jdk_43_method_13_code 26 = .ok (.iinc 2 1, 3) := by decide +kernel
theorem dc157 : decode jdk_43_method_13_code 29 = .ok (.goto (-20), 3) := by decide +kernel
theorem dc147 : decode jdk_43_method_13_code 32 = .ok (.iconst 1, 1) := by decide +kernel
theorem dc148 : decode jdk_43_method_13_code 33 = .ok (.ireturn, 1) := by decide +kernel
theorem dc160 : decode jdk_43_method_13_code 34 = .ok (.iconst 0, 1) := by decide +kernel
theorem dc161 : decode jdk_43_method_13_code 35 = .ok (.ireturn, 1) := by decide +kernel
theorem dc117 : decode jdk_43_method_2_code 0 = .ok (.iload_n 1, 1) := by decide +kernel
theorem dc118 : decode jdk_43_method_2_code 1 = .ok (.aload_n 0, 1) := by decide +kernel
theorem dc119 : decode jdk_43_method_2_code 2 = .ok (.arraylength, 1) := by decide +kernel
theorem dc120 : decode jdk_43_method_2_code 3 = .ok (.invokestatic 9, 3) := by decide +kernel
theorem dc121 : decode jdk_43_method_2_code 6 = .ok (.aload_n 0, 1) := by decide +kernel
theorem dc122 : decode jdk_43_method_2_code 7 = .ok (.iload_n 1, 1) := by decide +kernel
theorem dc123 : decode jdk_43_method_2_code 8 = .ok (.baload, 1) := by decide +kernel
theorem dc124 : decode jdk_43_method_2_code 9 = .ok (.sipush 255, 3) := by decide +kernel
theorem dc125 : decode jdk_43_method_2_code 12 = .ok (.iand, 1) := by decide +kernel
theorem dc126 : decode jdk_43_method_2_code 13 = .ok (.i2c, 1) := by decide +kernel
theorem dc127 : decode jdk_43_method_2_code 14 = .ok (.ireturn, 1) := by decide +kernel
theorem dc506 : decode jdk_43_method_47_code 0 = .ok (.iload_n 2, 1) := by decide +kernel
theorem dc507 : decode jdk_43_method_47_code 1 = .ok (.ifCond .ne 6, 3) := by decide +kernel
theorem dc508 : decode jdk_43_method_47_code 4 = .ok (.ldc 151, 2) := by decide +kernel
theorem dc509 : decode jdk_43_method_47_code 6 = .ok (.areturn, 1) := by decide +kernel
theorem dc510 : decode jdk_43_method_47_code 7 = .ok (.new 1, 3) := by decide +kernel
theorem dc511 : decode jdk_43_method_47_code 10 = .ok (.dup, 1) := by decide +kernel
theorem dc512 : decode jdk_43_method_47_code 11 = .ok (.aload_n 0, 1) := by decide +kernel
theorem dc513 : decode jdk_43_method_47_code 12 = .ok (.iload_n 1, 1) := by decide +kernel
theorem dc514 : decode jdk_43_method_47_code 13 = .ok (.iload_n 1, 1) := by decide +kernel
theorem dc515 : decode jdk_43_method_47_code 14 = .ok (.iload_n 2, 1) := by decide +kernel
theorem dc516 : decode jdk_43_method_47_code 15 = .ok (.iadd, 1) := by decide +kernel
theorem dc517 : decode jdk_43_method_47_code 16 = .ok (.invokestatic 232, 3) := by decide +kernel
theorem dc518 : decode jdk_43_method_47_code 19 = .ok (.iconst 0, 1) := by decide +kernel
theorem dc519 : decode jdk_43_method_47_code 20 = .ok (.invokespecial 112, 3) := by decide +kernel
theorem dc520 : decode jdk_43_method_47_code 23 = .ok (.areturn, 1) := by decide +kernel
theorem dc38 : decode jdk_52_method_15_code 0 = .ok (.iload_n 1, 1) := by decide +kernel
theorem dc39 : decode jdk_52_method_15_code 1 = .ok (.aload_n 0, 1) := by decide +kernel
theorem dc40 : decode jdk_52_method_15_code 2 = .ok (.arraylength, 1) := by decide +kernel
theorem dc41 : decode jdk_52_method_15_code 3 = .ok (.isub, 1) := by decide +kernel
theorem dc42 : decode jdk_52_method_15_code 4 = .ok (.bipush 31, 2) := by decide +kernel
theorem dc43 : decode jdk_52_method_15_code 6 = .ok (.iushr, 1) := by decide +kernel
theorem dc44 : decode jdk_52_method_15_code 7 = .ok (.i2b, 1) := by decide +kernel
theorem dc45 : decode jdk_52_method_15_code 8 = .ok (.ireturn, 1) := by decide +kernel
theorem dc23 : decode jdk_52_method_16_code 0 = .ok (.iload_n 2, 1) := by decide +kernel
theorem dc24 : decode jdk_52_method_16_code 1 = .ok (.newarray .byte, 2) := by decide +kernel
theorem dc25 : decode jdk_52_method_16_code 3 = .ok (.astore_n 3, 1) := by decide +kernel
theorem dc26 : decode jdk_52_method_16_code 4 = .ok (.aload_n 0, 1) := by decide +kernel
theorem dc27 : decode jdk_52_method_16_code 5 = .ok (.iload_n 1, 1) := by decide +kernel
theorem dc28 : decode jdk_52_method_16_code 6 = .ok (.aload_n 3, 1) := by decide +kernel
theorem dc29 : decode jdk_52_method_16_code 7 = .ok (.iconst 0, 1) := by decide +kernel
theorem dc30 : decode jdk_52_method_16_code 8 = .ok (.iload_n 2, 1) := by decide +kernel
theorem dc31 : decode jdk_52_method_16_code 9 = .ok (.invokestatic 115, 3) := by decide +kernel
theorem dc32 : decode jdk_52_method_16_code 12 = .ok (.istore 4, 2) := by decide +kernel
theorem dc33 : decode jdk_52_method_16_code 14 = .ok (.iload 4, 2) := by decide +kernel
theorem dc34 : decode jdk_52_method_16_code 16 = .ok (.iload_n 2, 1) := by decide +kernel
theorem dc35 : decode jdk_52_method_16_code 17 = .ok (.if_icmp .eq 40, 3) := by decide +kernel
theorem dc36 : decode jdk_52_method_16_code 57 = .ok (.aload_n 3, 1) := by decide +kernel
theorem dc37 : decode jdk_52_method_16_code 58 = .ok (.areturn, 1) := by decide +kernel
theorem dc0 : decode jdk_52_method_21_code 0 = .ok (.iconst 0, 1) := by decide +kernel
theorem dc1 : decode jdk_52_method_21_code 1 = .ok (.istore 5, 2) := by decide +kernel
theorem dc2 : decode jdk_52_method_21_code 3 = .ok (.iload 5, 2) := by decide +kernel
theorem dc3 : decode jdk_52_method_21_code 5 = .ok (.iload 4, 2) := by decide +kernel
theorem dc4 : decode jdk_52_method_21_code 7 = .ok (.if_icmp .ge 37, 3) := by decide +kernel
theorem dc7 : decode jdk_52_method_21_code 10 = .ok (.aload_n 0, 1) := by decide +kernel
theorem dc8 : decode jdk_52_method_21_code 11 = .ok (.iload_n 1, 1) := by decide +kernel
theorem dc9 : decode jdk_52_method_21_code 12 = .ok (.caload, 1) := by decide +kernel
theorem dc10 : decode jdk_52_method_21_code 13 = .ok (.istore 6, 2) := by decide +kernel
theorem dc11 : decode jdk_52_method_21_code 15 = .ok (.iload 6, 2) := by decide +kernel
theorem dc12 : decode jdk_52_method_21_code 17 = .ok (.sipush 255, 3) := by decide +kernel
theorem dc13 : decode jdk_52_method_21_code 20 = .ok (.if_icmp .le 6, 3) := by decide +kernel
theorem dc14 : decode jdk_52_method_21_code 26 = .ok (.aload_n 2, 1) := by decide +kernel
theorem dc15 : decode jdk_52_method_21_code 27 = .ok (.iload_n 3, 1) := by decide +kernel
theorem dc16 : decode jdk_52_method_21_code 28 = .ok (.iload 6, 2) := by decide +kernel
theorem dc17 : decode jdk_52_method_21_code 30 = .ok (.i2b, 1) := by decide +kernel
theorem dc18 : decode jdk_52_method_21_code 31 = .ok (.bastore, 1) := by decide +kernel
theorem dc19 : decode jdk_52_method_21_code 32 = .ok (.iinc 1 1, 3) := by decide +kernel
theorem dc20 : decode jdk_52_method_21_code 35 = .ok (.iinc 3 1, 3) := by decide +kernel
theorem dc21 : decode jdk_52_method_21_code 38 = .ok (.iinc 5 1, 3) := by decide +kernel
theorem dc22 : decode jdk_52_method_21_code 41 = .ok (.goto (-38), 3) := by decide +kernel
theorem dc5 : decode jdk_52_method_21_code 44 = .ok (.iload 4, 2) := by decide +kernel
theorem dc6 : decode jdk_52_method_21_code 46 = .ok (.ireturn, 1) := by decide +kernel
theorem dc452 : decode jdk_65_method_131_code 0 = .ok (.iload_n 1, 1) := by decide +kernel
theorem dc453 : decode jdk_65_method_131_code 1 = .ok (.iload_n 0, 1) := by decide +kernel
theorem dc454 : decode jdk_65_method_131_code 2 = .ok (.if_icmp .ge 35, 3) := by decide +kernel
theorem dc455 : decode jdk_65_method_131_code 37 = .ok (.return_, 1) := by decide +kernel
theorem dc486 : decode jdk_65_method_132_code 0 = .ok (.iload_n 1, 1) := by decide +kernel
theorem dc487 : decode jdk_65_method_132_code 1 = .ok (.ifCond .ne 9, 3) := by decide +kernel
theorem dc488 : decode jdk_65_method_132_code 4 = .ok (.iload_n 2, 1) := by decide +kernel
theorem dc489 : decode jdk_65_method_132_code 5 = .ok (.aload_n 0, 1) := by decide +kernel
theorem dc490 : decode jdk_65_method_132_code 6 = .ok (.arraylength, 1) := by decide +kernel
theorem dc491 : decode jdk_65_method_132_code 7 = .ok (.if_icmp .eq 10, 3) := by decide +kernel
theorem dc492 : decode jdk_65_method_132_code 10 = .ok (.aload_n 0, 1) := by decide +kernel
theorem dc493 : decode jdk_65_method_132_code 11 = .ok (.iload_n 1, 1) := by decide +kernel
theorem dc494 : decode jdk_65_method_132_code 12 = .ok (.iload_n 2, 1) := by decide +kernel
theorem dc495 : decode jdk_65_method_132_code 13 = .ok (.invokestatic 339, 3) := by decide +kernel
theorem dc496 : decode jdk_65_method_132_code 16 = .ok (.areturn, 1) := by decide +kernel
theorem dc463 : decode jdk_65_method_133_code 0 = .ok (.iload_n 1, 1) := by decide +kernel
theorem dc464 : decode jdk_65_method_133_code 1 = .ok (.iload_n 2, 1) := by decide +kernel
theorem dc465 : decode jdk_65_method_133_code 2 = .ok (.invokestatic 343, 3) := by decide +kernel
theorem dc466 : decode jdk_65_method_133_code 5 = .ok (.iload_n 2, 1) := by decide +kernel
theorem dc467 : decode jdk_65_method_133_code 6 = .ok (.iload_n 1, 1) := by decide +kernel
theorem dc468 : decode jdk_65_method_133_code 7 = .ok (.isub, 1) := by decide +kernel
theorem dc469 : decode jdk_65_method_133_code 8 = .ok (.istore_n 3, 1) := by decide +kernel
theorem dc470 : decode jdk_65_method_133_code 9 = .ok (.iload_n 3, 1) := by decide +kernel
theorem dc471 : decode jdk_65_method_133_code 10 = .ok (.newarray .byte, 2) := by decide +kernel
theorem dc472 : decode jdk_65_method_133_code 12 = .ok (.astore 4, 2) := by decide +kernel
theorem dc473 : decode jdk_65_method_133_code 14 = .ok (.aload_n 0, 1) := by decide +kernel
theorem dc474 : decode jdk_65_method_133_code 15 = .ok (.iload_n 1, 1) := by decide +kernel
theorem dc475 : decode jdk_65_method_133_code 16 = .ok (.aload 4, 2) := by decide +kernel
theorem dc476 : decode jdk_65_method_133_code 18 = .ok (.iconst 0, 1) := by decide +kernel
theorem dc477 : decode jdk_65_method_133_code 19 = .ok (.aload_n 0, 1) := by decide +kernel
theorem dc478 : decode jdk_65_method_133_code 20 = .ok (.arraylength, 1) := by decide +kernel
theorem dc479 : decode jdk_65_method_133_code 21 = .ok (.iload_n 1, 1) := by decide +kernel
theorem dc480 : decode jdk_65_method_133_code 22 = .ok (.isub, 1) := by decide +kernel
theorem dc481 : decode jdk_65_method_133_code 23 = .ok (.iload_n 3, 1) := by decide +kernel
theorem dc482 : decode jdk_65_method_133_code 24 = .ok (.invokestatic 304, 3) := by decide +kernel
theorem dc483 : decode jdk_65_method_133_code 27 = .ok (.invokestatic 150, 3) := by decide +kernel
theorem dc484 : decode jdk_65_method_133_code 30 = .ok (.aload 4, 2) := by decide +kernel
theorem dc485 : decode jdk_65_method_133_code 32 = .ok (.areturn, 1) := by decide +kernel
theorem dc188 : decode method_3_code 0 = .ok (.iload_n 0, 1) := by decide +kernel
theorem dc189 : decode method_3_code 1 = .ok (.sipush 255, 3) := by decide +kernel
theorem dc190 : decode method_3_code 4 = .ok (.iand, 1) := by decide +kernel
theorem dc191 : decode method_3_code 5 = .ok (.i2c, 1) := by decide +kernel
theorem dc192 : decode method_3_code 6 = .ok (.istore_n 1, 1) := by decide +kernel
theorem dc193 : decode method_3_code 7 = .ok (.iload_n 1, 1) := by decide +kernel
theorem dc194 : decode method_3_code 8 = .ok (.bipush 44, 2) := by decide +kernel
theorem dc195 : decode method_3_code 10 = .ok (.if_icmp .ne 6, 3) := by decide +kernel
theorem dc196 : decode method_3_code 13 = .ok (.bipush 45, 2) := by decide +kernel
theorem dc197 : decode method_3_code 15 = .ok (.ireturn, 1) := by decide +kernel
theorem dc198 : decode method_3_code 16 = .ok (.iload_n 1, 1) := by decide +kernel
theorem dc199 : decode method_3_code 17 = .ok (.bipush 34, 2) := by decide +kernel
theorem dc200 : decode method_3_code 19 = .ok (.if_icmp .ne 6, 3) := by decide +kernel
theorem dc201 : decode method_3_code 22 = .ok (.bipush 35, 2) := by decide +kernel
theorem dc202 : decode method_3_code 24 = .ok (.ireturn, 1) := by decide +kernel
theorem dc203 : decode method_3_code 25 = .ok (.iload_n 1, 1) := by decide +kernel
theorem dc204 : decode method_3_code 26 = .ok (.ireturn, 1) := by decide +kernel
theorem dc205 : decode method_4_code 0 = .ok (.iload_n 0, 1) := by decide +kernel
theorem dc206 : decode method_4_code 1 = .ok (.sipush 255, 3) := by decide +kernel
theorem dc207 : decode method_4_code 4 = .ok (.iand, 1) := by decide +kernel
theorem dc208 : decode method_4_code 5 = .ok (.i2c, 1) := by decide +kernel
theorem dc209 : decode method_4_code 6 = .ok (.istore_n 1, 1) := by decide +kernel
theorem dc210 : decode method_4_code 7 = .ok (.iload_n 1, 1) := by decide +kernel
theorem dc211 : decode method_4_code 8 = .ok (.bipush 34, 2) := by decide +kernel
theorem dc212 : decode method_4_code 10 = .ok (.if_icmp .ne 6, 3) := by decide +kernel
theorem dc213 : decode method_4_code 13 = .ok (.bipush 35, 2) := by decide +kernel
theorem dc214 : decode method_4_code 15 = .ok (.ireturn, 1) := by decide +kernel
theorem dc215 : decode method_4_code 16 = .ok (.iload_n 1, 1) := by decide +kernel
theorem dc216 : decode method_4_code 17 = .ok (.bipush 92, 2) := by decide +kernel
theorem dc217 : decode method_4_code 19 = .ok (.if_icmp .ne 6, 3) := by decide +kernel
theorem dc218 : decode method_4_code 22 = .ok (.bipush 93, 2) := by decide +kernel
theorem dc219 : decode method_4_code 24 = .ok (.ireturn, 1) := by decide +kernel
theorem dc220 : decode method_4_code 25 = .ok (.iload_n 1, 1) := by decide +kernel
theorem dc221 : decode method_4_code 26 = .ok (.ireturn, 1) := by decide +kernel
theorem dc222 : decode method_5_code 0 = .ok (.iload_n 0, 1) := by decide +kernel
theorem dc223 : decode method_5_code 1 = .ok (.sipush 255, 3) := by decide +kernel
theorem dc224 : decode method_5_code 4 = .ok (.iand, 1) := by decide +kernel
theorem dc225 : decode method_5_code 5 = .ok (.i2c, 1) := by decide +kernel
theorem dc226 : decode method_5_code 6 = .ok (.istore_n 1, 1) := by decide +kernel
theorem dc227 : decode method_5_code 7 = .ok (.iload_n 1, 1) := by decide +kernel
theorem dc228 : decode method_5_code 8 = .ok (.bipush 34, 2) := by decide +kernel
theorem dc229 : decode method_5_code 10 = .ok (.if_icmp .ne 6, 3) := by decide +kernel
theorem dc230 : decode method_5_code 13 = .ok (.bipush 35, 2) := by decide +kernel
theorem dc231 : decode method_5_code 15 = .ok (.ireturn, 1) := by decide +kernel
theorem dc232 : decode method_5_code 16 = .ok (.iload_n 1, 1) := by decide +kernel
theorem dc233 : decode method_5_code 17 = .ok (.ireturn, 1) := by decide +kernel
theorem dc234 : decode method_6_code 0 = .ok (.lload_n 1, 1) := by decide +kernel
theorem dc235 : decode method_6_code 1 = .ok (.ldc2_w 46, 3) := by decide +kernel
theorem dc236 : decode method_6_code 4 = .ok (.land, 1) := by decide +kernel
theorem dc237 : decode method_6_code 5 = .ok (.l2i, 1) := by decide +kernel
theorem dc238 : decode method_6_code 6 = .ok (.istore 4, 2) := by decide +kernel
theorem dc239 : decode method_6_code 8 = .ok (.lload_n 1, 1) := by decide +kernel
theorem dc240 : decode method_6_code 9 = .ok (.bipush 8, 2) := by decide +kernel
theorem dc241 : decode method_6_code 11 = .ok (.lushr, 1) := by decide +kernel
theorem dc242 : decode method_6_code 12 = .ok (.ldc2_w 46, 3) := by decide +kernel
theorem dc243 : decode method_6_code 15 = .ok (.land, 1) := by decide +kernel
theorem dc244 : decode method_6_code 16 = .ok (.l2i, 1) := by decide +kernel
theorem dc245 : decode method_6_code 17 = .ok (.istore 5, 2) := by decide +kernel
theorem dc246 : decode method_6_code 19 = .ok (.lload_n 1, 1) := by decide +kernel
theorem dc247 : decode method_6_code 20 = .ok (.bipush 16, 2) := by decide +kernel
theorem dc248 : decode method_6_code 22 = .ok (.lushr, 1) := by decide +kernel
theorem dc249 : decode method_6_code 23 = .ok (.ldc2_w 46, 3) := by decide +kernel
theorem dc250 : decode method_6_code 26 = .ok (.land, 1) := by decide +kernel
theorem dc251 : decode method_6_code 27 = .ok (.l2i, 1) := by decide +kernel
theorem dc252 : decode method_6_code 28 = .ok (.istore 6, 2) := by decide +kernel
theorem dc253 : decode method_6_code 30 = .ok (.lload_n 1, 1) := by decide +kernel
theorem dc254 : decode method_6_code 31 = .ok (.bipush 24, 2) := by decide +kernel
theorem dc255 : decode method_6_code 33 = .ok (.lushr, 1) := by decide +kernel
theorem dc256 : decode method_6_code 34 = .ok (.ldc2_w 46, 3) := by decide +kernel
theorem dc257 : decode method_6_code 37 = .ok (.land, 1) := by decide +kernel
theorem dc258 : decode method_6_code 38 = .ok (.l2i, 1) := by decide +kernel
theorem dc259 : decode method_6_code 39 = .ok (.istore 7, 2) := by decide +kernel
theorem dc260 : decode method_6_code 41 = .ok (.iload_n 0, 1) := by decide +kernel
theorem dc261 : decode method_6_code 42 = .ok (.iconst 1, 1) := by decide +kernel
theorem dc262 : decode method_6_code 43 = .ok (.if_icmp .ne 39, 3) := by decide +kernel
theorem dc263 : decode method_6_code 46 = .ok (.iconst 4, 1) := by decide +kernel
theorem dc264 : decode method_6_code 47 = .ok (.newarray .char, 2) := by decide +kernel
theorem dc265 : decode method_6_code 49 = .ok (.dup, 1) := by decide +kernel
theorem dc266 : decode method_6_code 50 = .ok (.iconst 0, 1) := by decide +kernel
theorem dc267 : decode method_6_code 51 = .ok (.iload 4, 2) := by decide +kernel
theorem dc268 : decode method_6_code 53 = .ok (.invokestatic 48, 3) := by decide +kernel
theorem dc269 : decode method_6_code 56 = .ok (.castore, 1) := by decide +kernel
theorem dc270 : decode method_6_code 57 = .ok (.dup, 1) := by decide +kernel
theorem dc271 : decode method_6_code 58 = .ok (.iconst 1, 1) := by decide +kernel
theorem dc272 : decode method_6_code 59 = .ok (.iload 5, 2) := by decide +kernel
theorem dc273 : decode method_6_code 61 = .ok (.invokestatic 48, 3) := by decide +kernel
theorem dc274 : decode method_6_code 64 = .ok (.castore, 1) := by decide +kernel
theorem dc275 : decode method_6_code 65 = .ok (.dup, 1) := by decide +kernel
theorem dc276 : decode method_6_code 66 = .ok (.iconst 2, 1) := by decide +kernel
theorem dc277 : decode method_6_code 67 = .ok (.iload 6, 2) := by decide +kernel
theorem dc278 : decode method_6_code 69 = .ok (.invokestatic 48, 3) := by decide +kernel
theorem dc279 : decode method_6_code 72 = .ok (.castore, 1) := by decide +kernel
theorem dc280 : decode method_6_code 73 = .ok (.dup, 1) := by decide +kernel
theorem dc281 : decode method_6_code 74 = .ok (.iconst 3, 1) := by decide +kernel
theorem dc282 : decode method_6_code 75 = .ok (.iload 7, 2) := by decide +kernel
theorem dc283 : decode method_6_code 77 = .ok (.invokestatic 48, 3) := by decide +kernel
theorem dc284 : decode method_6_code 80 = .ok (.castore, 1) := by decide +kernel
theorem dc285 : decode method_6_code 81 = .ok (.areturn, 1) := by decide +kernel
theorem dc286 : decode method_6_code 82 = .ok (.iload_n 0, 1) := by decide +kernel
theorem dc287 : decode method_6_code 83 = .ok (.iconst 2, 1) := by decide +kernel
theorem dc288 : decode method_6_code 84 = .ok (.if_icmp .ne 28, 3) := by decide +kernel
theorem dc289 : decode method_6_code 87 = .ok (.iconst 4, 1) := by decide +kernel
theorem dc290 : decode method_6_code 88 = .ok (.newarray .char, 2) := by decide +kernel
theorem dc291 : decode method_6_code 90 = .ok (.dup, 1) := by decide +kernel
theorem dc292 : decode method_6_code 91 = .ok (.iconst 0, 1) := by decide +kernel
theorem dc293 : decode method_6_code 92 = .ok (.bipush 34, 2) := by decide +kernel
theorem dc294 : decode method_6_code 94 = .ok (.castore, 1) := by decide +kernel
theorem dc295 : decode method_6_code 95 = .ok (.dup, 1) := by decide +kernel
theorem dc296 : decode method_6_code 96 = .ok (.iconst 1, 1) := by decide +kernel
theorem dc297 : decode method_6_code 97 = .ok (.bipush 92, 2) := by decide +kernel
theorem dc298 : decode method_6_code 99 = .ok (.castore, 1) := by decide +kernel
theorem dc299 : decode method_6_code 100 = .ok (.dup, 1) := by decide +kernel
theorem dc300 : decode method_6_code 101 = .ok (.iconst 2, 1) := by decide +kernel
theorem dc301 : decode method_6_code 102 = .ok (.iload 6, 2) := by decide +kernel
theorem dc302 : decode method_6_code 104 = .ok (.i2c, 1) := by decide +kernel
theorem dc303 : decode method_6_code 105 = .ok (.castore, 1) := by decide +kernel
theorem dc304 : decode method_6_code 106 = .ok (.dup, 1) := by decide +kernel
theorem dc305 : decode method_6_code 107 = .ok (.iconst 3, 1) := by decide +kernel
theorem dc306 : decode method_6_code 108 = .ok (.bipush 34, 2) := by decide +kernel
theorem dc307 : decode method_6_code 110 = .ok (.castore, 1) := by decide +kernel
theorem dc308 : decode method_6_code 111 = .ok (.areturn, 1) := by decide +kernel
theorem dc309 : decode method_6_code 112 = .ok (.iload_n 0, 1) := by decide +kernel
theorem dc310 : decode method_6_code 113 = .ok (.iconst 3, 1) := by decide +kernel
theorem dc311 : decode method_6_code 114 = .ok (.if_icmp .ne 33, 3) := by decide +kernel
theorem dc312 : decode method_6_code 117 = .ok (.iconst 4, 1) := by decide +kernel
theorem dc313 : decode method_6_code 118 = .ok (.newarray .char, 2) := by decide +kernel
theorem dc314 : decode method_6_code 120 = .ok (.dup, 1) := by decide +kernel
theorem dc315 : decode method_6_code 121 = .ok (.iconst 0, 1) := by decide +kernel
theorem dc316 : decode method_6_code 122 = .ok (.bipush 34, 2) := by decide +kernel
theorem dc317 : decode method_6_code 124 = .ok (.castore, 1) := by decide +kernel
theorem dc318 : decode method_6_code 125 = .ok (.dup, 1) := by decide +kernel
theorem dc319 : decode method_6_code 126 = .ok (.iconst 1, 1) := by decide +kernel
theorem dc320 : decode method_6_code 127 = .ok (.iload 5, 2) := by decide +kernel
theorem dc321 : decode method_6_code 129 = .ok (.invokestatic 52, 3) := by decide +kernel
theorem dc322 : decode method_6_code 132 = .ok (.castore, 1) := by decide +kernel
theorem dc323 : decode method_6_code 133 = .ok (.dup, 1) := by decide +kernel
theorem dc324 : decode method_6_code 134 = .ok (.iconst 2, 1) := by decide +kernel
theorem dc325 : decode method_6_code 135 = .ok (.iload 6, 2) := by decide +kernel
theorem dc326 : decode method_6_code 137 = .ok (.invokestatic 52, 3) := by decide +kernel
theorem dc327 : decode method_6_code 140 = .ok (.castore, 1) := by decide +kernel
theorem dc328 : decode method_6_code 141 = .ok (.dup, 1) := by decide +kernel
theorem dc329 : decode method_6_code 142 = .ok (.iconst 3, 1) := by decide +kernel
theorem dc330 : decode method_6_code 143 = .ok (.bipush 34, 2) := by decide +kernel
theorem dc331 : decode method_6_code 145 = .ok (.castore, 1) := by decide +kernel
theorem dc332 : decode method_6_code 146 = .ok (.areturn, 1) := by decide +kernel
theorem dc333 : decode method_6_code 147 = .ok (.iload_n 0, 1) := by decide +kernel
theorem dc334 : decode method_6_code 148 = .ok (.iconst 4, 1) := by decide +kernel
theorem dc335 : decode method_6_code 149 = .ok (.if_icmp .ne 33, 3) := by decide +kernel
theorem dc336 : decode method_6_code 152 = .ok (.iconst 4, 1) := by decide +kernel
theorem dc337 : decode method_6_code 153 = .ok (.newarray .char, 2) := by decide +kernel
theorem dc338 : decode method_6_code 155 = .ok (.dup, 1) := by decide +kernel
theorem dc339 : decode method_6_code 156 = .ok (.iconst 0, 1) := by decide +kernel
theorem dc340 : decode method_6_code 157 = .ok (.iload 4, 2) := by decide +kernel
theorem dc341 : decode method_6_code 159 = .ok (.invokestatic 48, 3) := by decide +kernel
theorem dc342 : decode method_6_code 162 = .ok (.castore, 1) := by decide +kernel
theorem dc343 : decode method_6_code 163 = .ok (.dup, 1) := by decide +kernel
theorem dc344 : decode method_6_code 164 = .ok (.iconst 1, 1) := by decide +kernel
theorem dc345 : decode method_6_code 165 = .ok (.bipush 34, 2) := by decide +kernel
theorem dc346 : decode method_6_code 167 = .ok (.castore, 1) := by decide +kernel
theorem dc347 : decode method_6_code 168 = .ok (.dup, 1) := by decide +kernel
theorem dc348 : decode method_6_code 169 = .ok (.iconst 2, 1) := by decide +kernel
theorem dc349 : decode method_6_code 170 = .ok (.iload 6, 2) := by decide +kernel
theorem dc350 : decode method_6_code 172 = .ok (.invokestatic 52, 3) := by decide +kernel
theorem dc351 : decode method_6_code 175 = .ok (.castore, 1) := by decide +kernel
theorem dc352 : decode method_6_code 176 = .ok (.dup, 1) := by decide +kernel
theorem dc353 : decode method_6_code 177 = .ok (.iconst 3, 1) := by decide +kernel
theorem dc354 : decode method_6_code 178 = .ok (.bipush 34, 2) := by decide +kernel
theorem dc355 : decode method_6_code 180 = .ok (.castore, 1) := by decide +kernel
theorem dc356 : decode method_6_code 181 = .ok (.areturn, 1) := by decide +kernel
theorem dc357 : decode method_6_code 182 = .ok (.iload_n 0, 1) := by decide +kernel
theorem dc358 : decode method_6_code 183 = .ok (.iconst 5, 1) := by decide +kernel
theorem dc359 : decode method_6_code 184 = .ok (.if_icmp .ne 33, 3) := by decide +kernel
theorem dc360 : decode method_6_code 187 = .ok (.iconst 4, 1) := by decide +kernel
theorem dc361 : decode method_6_code 188 = .ok (.newarray .char, 2) := by decide +kernel
theorem dc362 : decode method_6_code 190 = .ok (.dup, 1) := by decide +kernel
theorem dc363 : decode method_6_code 191 = .ok (.iconst 0, 1) := by decide +kernel
theorem dc364 : decode method_6_code 192 = .ok (.bipush 34, 2) := by decide +kernel
theorem dc365 : decode method_6_code 194 = .ok (.castore, 1) := by decide +kernel
theorem dc366 : decode method_6_code 195 = .ok (.dup, 1) := by decide +kernel
theorem dc367 : decode method_6_code 196 = .ok (.iconst 1, 1) := by decide +kernel
theorem dc368 : decode method_6_code 197 = .ok (.iload 5, 2) := by decide +kernel
theorem dc369 : decode method_6_code 199 = .ok (.invokestatic 52, 3) := by decide +kernel
theorem dc370 : decode method_6_code 202 = .ok (.castore, 1) := by decide +kernel
theorem dc371 : decode method_6_code 203 = .ok (.dup, 1) := by decide +kernel
theorem dc372 : decode method_6_code 204 = .ok (.iconst 2, 1) := by decide +kernel
theorem dc373 : decode method_6_code 205 = .ok (.bipush 34, 2) := by decide +kernel
theorem dc374 : decode method_6_code 207 = .ok (.castore, 1) := by decide +kernel
theorem dc375 : decode method_6_code 208 = .ok (.dup, 1) := by decide +kernel
theorem dc376 : decode method_6_code 209 = .ok (.iconst 3, 1) := by decide +kernel
theorem dc377 : decode method_6_code 210 = .ok (.iload 7, 2) := by decide +kernel
theorem dc378 : decode method_6_code 212 = .ok (.invokestatic 48, 3) := by decide +kernel
theorem dc379 : decode method_6_code 215 = .ok (.castore, 1) := by decide +kernel
theorem dc380 : decode method_6_code 216 = .ok (.areturn, 1) := by decide +kernel
theorem dc381 : decode method_6_code 217 = .ok (.iload_n 0, 1) := by decide +kernel
theorem dc382 : decode method_6_code 218 = .ok (.bipush 6, 2) := by decide +kernel
theorem dc383 : decode method_6_code 220 = .ok (.if_icmp .ne 33, 3) := by decide +kernel
theorem dc384 : decode method_6_code 223 = .ok (.iconst 4, 1) := by decide +kernel
theorem dc385 : decode method_6_code 224 = .ok (.newarray .char, 2) := by decide +kernel
theorem dc386 : decode method_6_code 226 = .ok (.dup, 1) := by decide +kernel
theorem dc387 : decode method_6_code 227 = .ok (.iconst 0, 1) := by decide +kernel
theorem dc388 : decode method_6_code 228 = .ok (.bipush 34, 2) := by decide +kernel
theorem dc389 : decode method_6_code 230 = .ok (.castore, 1) := by decide +kernel
theorem dc390 : decode method_6_code 231 = .ok (.dup, 1) := by decide +kernel
theorem dc391 : decode method_6_code 232 = .ok (.iconst 1, 1) := by decide +kernel
theorem dc392 : decode method_6_code 233 = .ok (.bipush 34, 2) := by decide +kernel
theorem dc393 : decode method_6_code 235 = .ok (.castore, 1) := by decide +kernel
theorem dc394 : decode method_6_code 236 = .ok (.dup, 1) := by decide +kernel
theorem dc395 : decode method_6_code 237 = .ok (.iconst 2, 1) := by decide +kernel
theorem dc396 : decode method_6_code 238 = .ok (.iload 6, 2) := by decide +kernel
theorem dc397 : decode method_6_code 240 = .ok (.invokestatic 48, 3) := by decide +kernel
theorem dc398 : decode method_6_code 243 = .ok (.castore, 1) := by decide +kernel
theorem dc399 : decode method_6_code 244 = .ok (.dup, 1) := by decide +kernel
theorem dc400 : decode method_6_code 245 = .ok (.iconst 3, 1) := by decide +kernel
theorem dc401 : decode method_6_code 246 = .ok (.iload 7, 2) := by decide +kernel
theorem dc402 : decode method_6_code 248 = .ok (.invokestatic 48, 3) := by decide +kernel
theorem dc403 : decode method_6_code 251 = .ok (.castore, 1) := by decide +kernel
theorem dc404 : decode method_6_code 252 = .ok (.areturn, 1) := by decide +kernel
theorem dc405 : decode method_6_code 253 = .ok (.iload_n 0, 1) := by decide +kernel
theorem dc406 : decode method_6_code 254 = .ok (.bipush 7, 2) := by decide +kernel
theorem dc407 : decode method_6_code 256 = .ok (.if_icmp .ne 40, 3) := by decide +kernel
theorem dc408 : decode method_6_code 259 = .ok (.iload_n 3, 1) := by decide +kernel
theorem dc409 : decode method_6_code 260 = .ok (.ifCond .eq 36, 3) := by decide +kernel
theorem dc413 : decode method_6_code 263 = .ok (.iconst 4, 1) := by decide +kernel
theorem dc414 : decode method_6_code 264 = .ok (.newarray .char, 2) := by decide +kernel
theorem dc415 : decode method_6_code 266 = .ok (.dup, 1) := by decide +kernel
theorem dc416 : decode method_6_code 267 = .ok (.iconst 0, 1) := by decide +kernel
theorem dc417 : decode method_6_code 268 = .ok (.bipush 34, 2) := by decide +kernel
theorem dc418 : decode method_6_code 270 = .ok (.castore, 1) := by decide +kernel
theorem dc419 : decode method_6_code 271 = .ok (.dup, 1) := by decide +kernel
theorem dc420 : decode method_6_code 272 = .ok (.iconst 1, 1) := by decide +kernel
theorem dc421 : decode method_6_code 273 = .ok (.iload 5, 2) := by decide +kernel
theorem dc422 : decode method_6_code 275 = .ok (.invokestatic 55, 3) := by decide +kernel
theorem dc423 : decode method_6_code 278 = .ok (.castore, 1) := by decide +kernel
theorem dc424 : decode method_6_code 279 = .ok (.dup, 1) := by decide +kernel
theorem dc425 : decode method_6_code 280 = .ok (.iconst 2, 1) := by decide +kernel
theorem dc426 : decode method_6_code 281 = .ok (.iload 6, 2) := by decide +kernel
theorem dc427 : decode method_6_code 283 = .ok (.invokestatic 55, 3) := by decide +kernel
theorem dc428 : decode method_6_code 286 = .ok (.castore, 1) := by decide +kernel
theorem dc429 : decode method_6_code 287 = .ok (.dup, 1) := by decide +kernel
theorem dc430 : decode method_6_code 288 = .ok (.iconst 3, 1) := by decide +kernel
theorem dc431 : decode method_6_code 289 = .ok (.iload 7, 2) := by decide +kernel
theorem dc432 : decode method_6_code 291 = .ok (.invokestatic 55, 3) := by decide +kernel
theorem dc433 : decode method_6_code 294 = .ok (.castore, 1) := by decide +kernel
theorem dc434 : decode method_6_code 295 = .ok (.areturn, 1) := by decide +kernel
theorem dc410 : decode method_6_code 296 = .ok (.iconst 0, 1) := by decide +kernel
theorem dc411 : decode method_6_code 297 = .ok (.newarray .char, 2) := by decide +kernel
theorem dc412 : decode method_6_code 299 = .ok (.areturn, 1) := by decide +kernel
theorem dc724 : decode method_7_code 0 = .ok (.aload_n 2, 1) := by decide +kernel
theorem dc725 : decode method_7_code 1 = .ok (.arraylength, 1) := by decide +kernel
theorem dc726 : decode method_7_code 2 = .ok (.iconst 4, 1) := by decide +kernel
theorem dc727 : decode method_7_code 3 = .ok (.if_icmp .ne 37, 3) := by decide +kernel
theorem dc747 : decode method_7_code 6 = .ok (.aload_n 0, 1) := by decide +kernel
theorem dc748 : decode method_7_code 7 = .ok (.iload_n 1, 1) := by decide +kernel
theorem dc749 : decode method_7_code 8 = .ok (.aload_n 2, 1) := by decide +kernel
theorem dc750 : decode method_7_code 9 = .ok (.iconst 0, 1) := by decide +kernel
theorem dc751 : decode method_7_code 10 = .ok (.caload, 1) := by decide +kernel
theorem dc752 : decode method_7_code 11 = .ok (.castore, 1) := by decide +kernel
theorem dc753 : decode method_7_code 12 = .ok (.aload_n 0, 1) := by decide +kernel
theorem dc754 : decode method_7_code 13 = .ok (.iload_n 1, 1) := by decide +kernel
theorem dc755 : decode method_7_code 14 = .ok (.iconst 1, 1) := by decide +kernel
theorem dc756 : decode method_7_code 15 = .ok (.iadd, 1) := by decide +kernel
theorem dc757 : decode method_7_code 16 = .ok (.aload_n 2, 1) := by decide +kernel
theorem dc758 : decode method_7_code 17 = .ok (.iconst 1, 1) := by decide +kernel
theorem dc759 : decode method_7_code 18 = .ok (.caload, 1) := by decide +kernel
theorem dc760 : decode method_7_code 19 = .ok (.castore, 1) := by decide +kernel
theorem dc761 : decode method_7_code 20 = .ok (.aload_n 0, 1) := by decide +kernel
theorem dc762 : decode method_7_code 21 = .ok (.iload_n 1, 1) := by decide +kernel
theorem dc763 : decode method_7_code 22 = .ok (.iconst 2, 1) := by decide +kernel
theorem dc764 : decode method_7_code 23 = .ok (.iadd, 1) := by decide +kernel
theorem dc765 : decode method_7_code 24 = .ok (.aload_n 2, 1) := by decide +kernel
theorem dc766 : decode method_7_code 25 = .ok (.iconst 2, 1) := by decide +kernel
theorem dc767 : decode method_7_code 26 = .ok (.caload, 1) := by decide +kernel
theorem dc768 : decode method_7_code 27 = .ok (.castore, 1) := by decide +kernel
theorem dc769 : decode method_7_code 28 = .ok (.aload_n 0, 1) := by decide +kernel
theorem dc770 : decode method_7_code 29 = .ok (.iload_n 1, 1) := by decide +kernel
theorem dc771 : decode method_7_code 30 = .ok (.iconst 3, 1) := by decide +kernel
theorem dc772 : decode method_7_code 31 = .ok (.iadd, 1) := by decide +kernel
theorem dc773 : decode method_7_code 32 = .ok (.aload_n 2, 1) := by decide +kernel
theorem dc774 : decode method_7_code 33 = .ok (.iconst 3, 1) := by decide +kernel
theorem dc775 : decode method_7_code 34 = .ok (.caload, 1) := by decide +kernel
theorem dc776 : decode method_7_code 35 = .ok (.castore, 1) := by decide +kernel
theorem dc777 : decode method_7_code 36 = .ok (.iload_n 1, 1) := by decide +kernel
theorem dc778 : decode method_7_code 37 = .ok (.iconst 4, 1) := by decide +kernel
theorem dc779 : decode method_7_code 38 = .ok (.iadd, 1) := by decide +kernel
theorem dc780 : decode method_7_code 39 = .ok (.ireturn, 1) := by decide +kernel
theorem dc728 : decode method_7_code 40 = .ok (.iload_n 1, 1) := by decide +kernel
theorem dc729 : decode method_7_code 41 = .ok (.ireturn, 1) := by decide +kernel
theorem dc730 : decode method_8_code 0 = .ok (.iload_n 0, 1) := by decide +kernel
theorem dc731 : decode method_8_code 1 = .ok (.ifCond .ne 7, 3) := by decide +kernel
theorem dc732 : decode method_8_code 4 = .ok (.iconst 0, 1) := by decide +kernel
theorem dc733 : decode method_8_code 5 = .ok (.newarray .char, 2) := by decide +kernel
theorem dc734 : decode method_8_code 7 = .ok (.areturn, 1) := by decide +kernel
theorem dc735 : decode method_8_code 8 = .ok (.iload_n 0, 1) := by decide +kernel
theorem dc736 : decode method_8_code 9 = .ok (.iconst 1, 1) := by decide +kernel
theorem dc737 : decode method_8_code 10 = .ok (.if_icmp .ne 7, 3) := by decide +kernel
theorem dc781 : decode method_8_code 13 = .ok (.iconst 1, 1) := by decide +kernel
theorem dc782 : decode method_8_code 14 = .ok (.newarray .char, 2) := by decide +kernel
theorem dc783 : decode method_8_code 16 = .ok (.areturn, 1) := by decide +kernel
theorem dc738 : decode method_8_code 17 = .ok (.iload_n 0, 1) := by decide +kernel
theorem dc739 : decode method_8_code 18 = .ok (.iconst 2, 1) := by decide +kernel
theorem dc740 : decode method_8_code 19 = .ok (.if_icmp .ne 7, 3) := by decide +kernel
theorem dc799 : decode method_8_code 22 = .ok (.iconst 2, 1) := by decide +kernel
theorem dc800 : decode method_8_code 23 = .ok (.newarray .char, 2) := by decide +kernel
theorem dc801 : decode method_8_code 25 = .ok (.areturn, 1) := by decide +kernel
theorem dc741 : decode method_8_code 26 = .ok (.iload_n 0, 1) := by decide +kernel
theorem dc742 : decode method_8_code 27 = .ok (.iconst 4, 1) := by decide +kernel
theorem dc743 : decode method_8_code 28 = .ok (.if_icmp .ne 7, 3) := by decide +kernel
theorem dc744 : decode method_8_code 31 = .ok (.iconst 4, 1) := by decide +kernel
theorem dc745 : decode method_8_code 32 = .ok (.newarray .char, 2) := by decide +kernel
theorem dc746 : decode method_8_code 34 = .ok (.areturn, 1) := by decide +kernel
theorem dc784 : decode method_8_code 35 = .ok (.iload_n 0, 1) := by decide +kernel
theorem dc785 : decode method_8_code 36 = .ok (.iconst 5, 1) := by decide +kernel
theorem dc786 : decode method_8_code 37 = .ok (.if_icmp .ne 7, 3) := by decide +kernel
theorem dc787 : decode method_8_code 40 = .ok (.iconst 5, 1) := by decide +kernel
theorem dc788 : decode method_8_code 41 = .ok (.newarray .char, 2) := by decide +kernel
theorem dc789 : decode method_8_code 43 = .ok (.areturn, 1) := by decide +kernel
theorem dc790 : decode method_8_code 44 = .ok (.iload_n 0, 1) := by decide +kernel
theorem dc791 : decode method_8_code 45 = .ok (.bipush 6, 2) := by decide +kernel
theorem dc792 : decode method_8_code 47 = .ok (.if_icmp .ne 8, 3) := by decide +kernel
theorem dc802 : decode method_8_code 50 = .ok (.bipush 6, 2) := by decide +kernel
theorem dc803 : decode method_8_code 52 = .ok (.newarray .char, 2) := by decide +kernel
theorem dc804 : decode method_8_code 54 = .ok (.areturn, 1) := by decide +kernel
theorem dc793 : decode method_8_code 55 = .ok (.iload_n 0, 1) := by decide +kernel
theorem dc794 : decode method_8_code 56 = .ok (.bipush 9, 2) := by decide +kernel
theorem dc795 : decode method_8_code 58 = .ok (.if_icmp .ne 8, 3) := by decide +kernel
theorem dc796 : decode method_8_code 61 = .ok (.bipush 9, 2) := by decide +kernel
theorem dc797 : decode method_8_code 63 = .ok (.newarray .char, 2) := by decide +kernel
theorem dc798 : decode method_8_code 65 = .ok (.areturn, 1) := by decide +kernel
theorem dc805 : decode method_8_code 66 = .ok (.iload_n 0, 1) := by decide +kernel
theorem dc806 : decode method_8_code 67 = .ok (.bipush 10, 2) := by decide +kernel
theorem dc807 : decode method_8_code 69 = .ok (.if_icmp .ne 8, 3) := by decide +kernel
theorem dc808 : decode method_8_code 72 = .ok (.bipush 10, 2) := by decide +kernel
theorem dc809 : decode method_8_code 74 = .ok (.newarray .char, 2) := by decide +kernel
theorem dc810 : decode method_8_code 76 = .ok (.areturn, 1) := by decide +kernel
theorem dc811 : decode method_8_code 77 = .ok (.bipush 14, 2) := by decide +kernel
theorem dc812 : decode method_8_code 79 = .ok (.newarray .char, 2) := by decide +kernel
theorem dc813 : decode method_8_code 81 = .ok (.areturn, 1) := by decide +kernel
theorem dc655 : decode prog_3_method_2_code 0 = .ok (.new 7, 3) := by decide +kernel
theorem dc656 : decode prog_3_method_2_code 3 = .ok (.dup, 1) := by decide +kernel
theorem dc657 : decode prog_3_method_2_code 4 = .ok (.invokespecial 9, 3) := by decide +kernel
theorem dc658 : decode prog_3_method_2_code 7 = .ok (.astore_n 1, 1) := by decide +kernel
theorem dc659 : decode prog_3_method_2_code 8 = .ok (.iconst 0, 1) := by decide +kernel
theorem dc660 : decode prog_3_method_2_code 9 = .ok (.istore_n 2, 1) := by decide +kernel
theorem dc661 : decode prog_3_method_2_code 10 = .ok (.iconst 0, 1) := by decide +kernel
theorem dc662 : decode prog_3_method_2_code 11 = .ok (.istore_n 3, 1) := by decide +kernel
theorem dc663 : decode prog_3_method_2_code 12 = .ok (.iconst 0, 1) := by decide +kernel
theorem dc664 : decode prog_3_method_2_code 13 = .ok (.istore 4, 2) := by decide +kernel
theorem dc665 : decode prog_3_method_2_code 15 = .ok (.iconst 0, 1) := by decide +kernel
theorem dc666 : decode prog_3_method_2_code 16 = .ok (.istore 5, 2) := by decide +kernel
theorem dc667 : decode prog_3_method_2_code 18 = .ok (.iload 5, 2) := by decide +kernel
theorem dc668 : decode prog_3_method_2_code 20 = .ok (.aload_n 0, 1) := by decide +kernel
theorem dc669 : decode prog_3_method_2_code 21 = .ok (.invokevirtual 10, 3) := by decide +kernel
theorem dc670 : decode prog_3_method_2_code 24 = .ok (.if_icmp .ge 94, 3) := by decide +kernel
theorem dc679 : decode prog_3_method_2_code 27 = .ok (.aload_n 0, 1) := by decide +kernel
theorem dc680 : decode prog_3_method_2_code 28 = .ok (.iload 5, 2) := by decide +kernel
theorem dc681 : decode prog_3_method_2_code 30 = .ok (.invokevirtual 16, 3) := by decide +kernel
theorem dc682 : decode prog_3_method_2_code 33 = .ok (.istore 6, 2) := by decide +kernel
theorem dc683 : decode prog_3_method_2_code 35 = .ok (.iload_n 3, 1) := by decide +kernel
theorem dc684 : decode prog_3_method_2_code 36 = .ok (.ifCond .eq 8, 3) := by decide +kernel
theorem dc703 : decode prog_3_method_2_code 39 = .ok (.iconst 0, 1) := by decide +kernel
theorem dc704 : decode prog_3_method_2_code 40 = .ok (.istore_n 3, 1) := by decide +kernel
theorem dc705 : decode prog_3_method_2_code 41 = .ok (.goto 71, 3) := by decide +kernel
theorem dc685 : decode prog_3_method_2_code 44 = .ok (.iload_n 2, 1) := by decide +kernel
theorem dc686 : decode prog_3_method_2_code 45 = .ok (.ifCond .eq 15, 3) := by decide +kernel
theorem dc706 : decode prog_3_method_2_code 48 = .ok (.iload 6, 2) := by decide +kernel
theorem dc707 : decode prog_3_method_2_code 50 = .ok (.bipush 92, 2) := by decide +kernel
theorem dc708 : decode prog_3_method_2_code 52 = .ok (.if_icmp .ne 8, 3) := by decide +kernel
theorem dc709 : decode prog_3_method_2_code 55 = .ok (.iconst 1, 1) := by decide +kernel
theorem dc710 : decode prog_3_method_2_code 56 = .ok (.istore_n 3, 1) := by decide +kernel
theorem dc711 : decode prog_3_method_2_code 57 = .ok (.goto 55, 3) := by decide +kernel
theorem dc687 : decode prog_3_method_2_code 60 = .ok (.iload 6, 2) := by decide +kernel
theorem dc688 : decode prog_3_method_2_code 62 = .ok (.bipush 34, 2) := by decide +kernel
theorem dc689 : decode prog_3_method_2_code 64 = .ok (.if_icmp .ne 16, 3) := by decide +kernel
theorem dc690 : decode prog_3_method_2_code 67 = .ok (.iload_n 2, 1) := by decide +kernel
theorem dc691 : decode prog_3_method_2_code 68 = .ok (.ifCond .ne 7, 3) := by decide +kernel
theorem dc692 : decode prog_3_method_2_code 71 = .ok (.iconst 1, 1) := by decide +kernel
theorem dc693 : decode prog_3_method_2_code 72 = .ok (.goto 4, 3) := by decide +kernel
theorem dc712 : decode prog_3_method_2_code 75 = .ok (.iconst 0, 1) := by decide +kernel
theorem dc694 : decode prog_3_method_2_code 76 = .ok (.istore_n 2, 1) := by decide +kernel
theorem dc695 : decode prog_3_method_2_code 77 = .ok (.goto 35, 3) := by decide +kernel
theorem dc698 : decode prog_3_method_2_code 80 = .ok (.iload 6, 2) := by decide +kernel
theorem dc699 : decode prog_3_method_2_code 82 = .ok (.bipush 44, 2) := by decide +kernel
theorem dc700 : decode prog_3_method_2_code 84 = .ok (.if_icmp .ne 28, 3) := by decide +kernel
theorem dc701 : decode prog_3_method_2_code 87 = .ok (.iload_n 2, 1) := by decide +kernel
theorem dc702 : decode prog_3_method_2_code 88 = .ok (.ifCond .ne 24, 3) := by decide +kernel
theorem dc713 : decode prog_3_method_2_code 91 = .ok (.aload_n 1, 1) := by decide +kernel
theorem dc714 : decode prog_3_method_2_code 92 = .ok (.aload_n 0, 1) := by decide +kernel
theorem dc715 : decode prog_3_method_2_code 93 = .ok (.iload 4, 2) := by decide +kernel
theorem dc716 : decode prog_3_method_2_code 95 = .ok (.iload 5, 2) := by decide +kernel
theorem dc717 : decode prog_3_method_2_code 97 = .ok (.invokevirtual 20, 3) := by decide +kernel
theorem dc718 : decode prog_3_method_2_code 100 = .ok (.invokeinterface 24 2, 5) := by decide +kernel
theorem dc719 : decode prog_3_method_2_code 105 = .ok (.pop, 1) := by decide +kernel
theorem dc720 : decode prog_3_method_2_code 106 = .ok (.iload 5, 2) := by decide +kernel
theorem dc721 : decode prog_3_method_2_code 108 = .ok (.iconst 1, 1) := by decide +kernel
theorem dc722 : decode prog_3_method_2_code 109 = .ok (.iadd, 1) := by decide +kernel
theorem dc723 : decode prog_3_method_2_code 110 = .ok (.istore 4, 2) := by decide +kernel
theorem dc696 : decode prog_3_method_2_code 112 = .ok (.iinc 5 1, 3) := by decide +kernel
theorem dc697 : decode prog_3_method_2_code 115 = .ok (.goto (-97), 3) := by decide +kernel
theorem dc671 : decode prog_3_method_2_code 118 = .ok (.aload_n 1, 1) := by decide +kernel
theorem dc672 : decode prog_3_method_2_code 119 = .ok (.aload_n 0, 1) := by decide +kernel
theorem dc673 : decode prog_3_method_2_code 120 = .ok (.iload 4, 2) := by decide +kernel
theorem dc674 : decode prog_3_method_2_code 122 = .ok (.invokevirtual 30, 3) := by decide +kernel
theorem dc675 : decode prog_3_method_2_code 125 = .ok (.invokeinterface 24 2, 5) := by decide +kernel
theorem dc676 : decode prog_3_method_2_code 130 = .ok (.pop, 1) := by decide +kernel
theorem dc677 : decode prog_3_method_2_code 131 = .ok (.aload_n 1, 1) := by decide +kernel
theorem dc678 : decode prog_3_method_2_code 132 = .ok (.areturn, 1) := by decide +kernel
theorem pd_0 : parseMethodDescriptor "([CI[BII)I" = some ⟨[(.array .char), .int, (.array .byte), .int, .int], some .int⟩ := by decide +kernel
theorem pd_1 : parseMethodDescriptor "([CII)[B" = some ⟨[(.array .char), .int, .int], some (.array .byte)⟩ := by decide +kernel
theorem pd_2 : parseMethodDescriptor "([BI)B" = some ⟨[(.array .byte), .int], some .byte⟩ := by decide +kernel
theorem pd_3 : parseMethodDescriptor "([CIILjava/lang/Void;)V" = some ⟨[(.array .char), .int, .int, (.object "java/lang/Void")], none⟩ := by decide +kernel
theorem pd_4 : parseMethodDescriptor "()B" = some ⟨[], some .byte⟩ := by decide +kernel
theorem pd_5 : parseMethodDescriptor "(IILjava/util/function/BiFunction;)I" = some ⟨[.int, .int, (.object "java/util/function/BiFunction")], some .int⟩ := by decide +kernel
theorem pd_6 : parseMethodDescriptor "(II)V" = some ⟨[.int, .int], none⟩ := by decide +kernel
theorem pd_7 : parseMethodDescriptor "()Z" = some ⟨[], some .boolean⟩ := by decide +kernel
theorem pd_8 : parseMethodDescriptor "([BI)C" = some ⟨[(.array .byte), .int], some .char⟩ := by decide +kernel
theorem pd_9 : parseMethodDescriptor "([B[B)Z" = some ⟨[(.array .byte), (.array .byte)], some .boolean⟩ := by decide +kernel
theorem pd_10 : parseMethodDescriptor "(I)C" = some ⟨[.int], some .char⟩ := by decide +kernel
theorem pd_11 : parseMethodDescriptor "(IIILjava/util/function/BiFunction;)I" = some ⟨[.int, .int, .int, (.object "java/util/function/BiFunction")], some .int⟩ := by decide +kernel
theorem pd_12 : parseMethodDescriptor "(II)I" = some ⟨[.int, .int], some .int⟩ := by decide +kernel
theorem pd_13 : parseMethodDescriptor "([BII)[B" = some ⟨[(.array .byte), .int, .int], some (.array .byte)⟩ := by decide +kernel
theorem pd_14 : parseMethodDescriptor "([BB)V" = some ⟨[(.array .byte), .byte], none⟩ := by decide +kernel
theorem pd_15 : parseMethodDescriptor "()I" = some ⟨[], some .int⟩ := by decide +kernel
theorem pd_16 : parseMethodDescriptor "(III)V" = some ⟨[.int, .int, .int], none⟩ := by decide +kernel
theorem pd_17 : parseMethodDescriptor "([BII)Ljava/lang/String;" = some ⟨[(.array .byte), .int, .int], some (.object "java/lang/String")⟩ := by decide +kernel
theorem pd_18 : parseMethodDescriptor "(II)Ljava/lang/String;" = some ⟨[.int, .int], some (.object "java/lang/String")⟩ := by decide +kernel
theorem pd_19 : parseMethodDescriptor "()V" = some ⟨[], none⟩ := by decide +kernel
theorem pd_20 : parseMethodDescriptor "(I)[Ljava/lang/Object;" = some ⟨[.int], some (.array (.object "java/lang/Object"))⟩ := by decide +kernel
theorem pd_21 : parseMethodDescriptor "()[Ljava/lang/Object;" = some ⟨[], some (.array (.object "java/lang/Object"))⟩ := by decide +kernel
theorem pd_22 : parseMethodDescriptor "(Ljava/lang/Object;[Ljava/lang/Object;I)V" = some ⟨[(.object "java/lang/Object"), (.array (.object "java/lang/Object")), .int], none⟩ := by decide +kernel
theorem pd_23 : parseMethodDescriptor "(I)Ljava/lang/Object;" = some ⟨[.int], some (.object "java/lang/Object")⟩ := by decide +kernel
theorem pd_24 : parseMethodDescriptor "(I)Ljava/lang/String;" = some ⟨[.int], some (.object "java/lang/String")⟩ := by decide +kernel
theorem pd_25 : parseMethodDescriptor "(Ljava/lang/Object;)Z" = some ⟨[(.object "java/lang/Object")], some .boolean⟩ := by decide +kernel
theorem pd_26 : parseMethodDescriptor "([C)V" = some ⟨[(.array .char)], none⟩ := by decide +kernel
theorem pd_27 : parseMethodDescriptor "(Ljava/lang/String;)Ljava/util/List;" = some ⟨[(.object "java/lang/String")], some (.object "java/util/List")⟩ := by decide +kernel
theorem pd_28 : parseMethodDescriptor "(IJZ)[C" = some ⟨[.int, .long, .boolean], some (.array .char)⟩ := by decide +kernel
theorem pd_29 : parseMethodDescriptor "(I)[C" = some ⟨[.int], some (.array .char)⟩ := by decide +kernel
theorem pd_30 : parseMethodDescriptor "([CI[C)I" = some ⟨[(.array .char), .int, (.array .char)], some .int⟩ := by decide +kernel
theorem pn_0 : plainName "java/lang/StringUTF16" = true := by first | (simp [plainName, overriddenIn]; done) | decide +kernel
theorem pn_1 : plainName "java/lang/String" = true := by first | (simp [plainName, overriddenIn]; done) | decide +kernel
theorem pn_2 : plainName "jdk/internal/util/Preconditions" = true := by first | (simp [plainName, overriddenIn]; done) | decide +kernel
theorem pn_3 : plainName "java/lang/StringLatin1" = true := by first | (simp [plainName, overriddenIn]; done) | decide +kernel
theorem pn_4 : plainName "com/example/despatch/despatch/http/HeaderListElementsPinLaw" = true := by first | (simp [plainName, overriddenIn]; done) | decide +kernel
theorem pn_5 : plainName "java/util/Arrays" = true := by first | (simp [plainName, overriddenIn]; done) | decide +kernel
theorem pn_6 : plainName "java/util/AbstractCollection" = true := by first | (simp [plainName, overriddenIn]; done) | decide +kernel
theorem pn_7 : plainName "java/util/AbstractList" = true := by first | (simp [plainName, overriddenIn]; done) | decide +kernel
theorem pn_8 : plainName "java/util/ArrayList" = true := by first | (simp [plainName, overriddenIn]; done) | decide +kernel
theorem pn_9 : plainName "java/util/Objects" = true := by first | (simp [plainName, overriddenIn]; done) | decide +kernel
theorem pn_10 : plainName "com/example/despatch/despatch/http/HeaderList" = true := by first | (simp [plainName, overriddenIn]; done) | decide +kernel
theorem own_t0 : (0 : Int32).toInt = 0 := rfl
theorem own_t1 : (1 : Int32).toInt = 1 := rfl
theorem own_t34 : (34 : Int32).toInt = 34 := rfl
theorem own_t35 : (35 : Int32).toInt = 35 := rfl
theorem own_t44 : (44 : Int32).toInt = 44 := rfl
theorem own_t45 : (45 : Int32).toInt = 45 := rfl
theorem own_t92 : (92 : Int32).toInt = 92 := rfl
theorem own_t93 : (93 : Int32).toInt = 93 := rfl
theorem M_ {a0 : Array Value} {Z : State} (hw : ∀ d ∈ tables_1, d.before a0 Z = true) {i : Nat} {d : Cond} (w : tables_1[i]? = some d) : d.before a0 Z = true := hw _ (List.mem_of_getElem? w)
theorem B_ {a b : Nat} (h : Nat.ble a b = true) : a ≤ b := Nat.le_of_ble_eq_true h
abbrev n_0 : MethodName := ⟨"java/lang/StringUTF16", "compress", "([CI[BII)I"⟩
abbrev n_1 : MethodName := ⟨"java/lang/StringUTF16", "compress", "([CII)[B"⟩
abbrev n_2 : MethodName := ⟨"java/lang/StringUTF16", "coderFromArrayLen", "([BI)B"⟩
abbrev n_3 : MethodName := ⟨"java/lang/String", "<init>", "([CIILjava/lang/Void;)V"⟩
abbrev n_4 : MethodName := ⟨"java/lang/String", "<init>", "([C)V"⟩
abbrev n_5 : MethodName := ⟨"java/lang/String", "coder", "()B"⟩
abbrev n_6 : MethodName := ⟨"java/lang/String", "length", "()I"⟩
abbrev n_7 : MethodName := ⟨"java/lang/String", "isLatin1", "()Z"⟩
abbrev n_8 : MethodName := ⟨"jdk/internal/util/Preconditions", "checkIndex", "(IILjava/util/function/BiFunction;)I"⟩
abbrev n_9 : MethodName := ⟨"java/lang/String", "checkIndex", "(II)V"⟩
abbrev n_10 : MethodName := ⟨"java/lang/StringLatin1", "charAt", "([BI)C"⟩
abbrev n_11 : MethodName := ⟨"java/lang/String", "charAt", "(I)C"⟩
abbrev n_12 : MethodName := ⟨"java/lang/StringLatin1", "equals", "([B[B)Z"⟩
abbrev n_13 : MethodName := ⟨"java/lang/String", "equals", "(Ljava/lang/Object;)Z"⟩
abbrev n_14 : MethodName := ⟨"com/example/despatch/despatch/http/HeaderListElementsPinLaw", "plain", "(I)C"⟩
abbrev n_15 : MethodName := ⟨"com/example/despatch/despatch/http/HeaderListElementsPinLaw", "inner", "(I)C"⟩
abbrev n_16 : MethodName := ⟨"com/example/despatch/despatch/http/HeaderListElementsPinLaw", "open", "(I)C"⟩
abbrev n_17 : MethodName := ⟨"com/example/despatch/despatch/http/HeaderListElementsPinLaw", "elem", "(IJZ)[C"⟩
abbrev n_18 : MethodName := ⟨"jdk/internal/util/Preconditions", "checkFromToIndex", "(IIILjava/util/function/BiFunction;)I"⟩
abbrev n_19 : MethodName := ⟨"java/lang/String", "checkBoundsBeginEnd", "(III)V"⟩
abbrev n_20 : MethodName := ⟨"java/util/Arrays", "checkLength", "(II)V"⟩
abbrev n_21 : MethodName := ⟨"java/lang/Math", "min", "(II)I"⟩
abbrev n_22 : MethodName := ⟨"java/util/Arrays", "copyOfRangeByte", "([BII)[B"⟩
abbrev n_23 : MethodName := ⟨"java/util/Arrays", "copyOfRange", "([BII)[B"⟩
abbrev n_24 : MethodName := ⟨"java/lang/String", "<init>", "([BB)V"⟩
abbrev n_25 : MethodName := ⟨"java/lang/StringLatin1", "newString", "([BII)Ljava/lang/String;"⟩
abbrev n_26 : MethodName := ⟨"java/lang/String", "substring", "(II)Ljava/lang/String;"⟩
abbrev n_27 : MethodName := ⟨"java/lang/String", "substring", "(I)Ljava/lang/String;"⟩
abbrev n_28 : MethodName := ⟨"java/util/AbstractCollection", "<init>", "()V"⟩
abbrev n_29 : MethodName := ⟨"java/util/AbstractList", "<init>", "()V"⟩
abbrev n_30 : MethodName := ⟨"java/util/ArrayList", "<init>", "()V"⟩
abbrev n_31 : MethodName := ⟨"java/lang/Math", "max", "(II)I"⟩
abbrev n_32 : MethodName := ⟨"java/util/ArrayList", "grow", "(I)[Ljava/lang/Object;"⟩
abbrev n_33 : MethodName := ⟨"java/util/ArrayList", "grow", "()[Ljava/lang/Object;"⟩
abbrev n_34 : MethodName := ⟨"java/util/ArrayList", "add", "(Ljava/lang/Object;[Ljava/lang/Object;I)V"⟩
abbrev n_35 : MethodName := ⟨"java/util/ArrayList", "add", "(Ljava/lang/Object;)Z"⟩
abbrev n_36 : MethodName := ⟨"java/util/ArrayList", "size", "()I"⟩
abbrev n_37 : MethodName := ⟨"java/util/ArrayList", "elementData", "(I)Ljava/lang/Object;"⟩
abbrev n_38 : MethodName := ⟨"java/util/Objects", "checkIndex", "(II)I"⟩
abbrev n_39 : MethodName := ⟨"java/util/ArrayList", "get", "(I)Ljava/lang/Object;"⟩
abbrev n_40 : MethodName := ⟨"com/example/despatch/despatch/http/HeaderList", "elements", "(Ljava/lang/String;)Ljava/util/List;"⟩
abbrev n_41 : MethodName := ⟨"java/util/List", "add", "(Ljava/lang/Object;)Z"⟩
abbrev n_42 : MethodName := ⟨"com/example/despatch/despatch/http/HeaderListElementsPinLaw", "put", "([CI[C)I"⟩
abbrev n_43 : MethodName := ⟨"com/example/despatch/despatch/http/HeaderListElementsPinLaw", "alloc", "(I)[C"⟩
abbrev n_44 : MethodName := ⟨"java/util/List", "size", "()I"⟩
abbrev n_45 : MethodName := ⟨"java/util/List", "get", "(I)Ljava/lang/Object;"⟩
theorem own_all0 {P : Int32 → Prop} : ∀ c ∈ ([] : List Int32), P c := fun _ q => nomatch q
theorem own_allS {P : Int32 → Prop} {a : Int32} {L : List Int32} (q : P a) (r : ∀ c ∈ L, P c) : ∀ c ∈ a :: L, P c := fun x z => (List.mem_cons.mp z).elim (fun u => u ▸ q) (r x)
def latB (c : Int32) : Value := .int c.toInt8.toInt32
/-- the object at a is a Latin-1 String of the chars cs; its bytes lie at b -/
def SL (Z : State) (h : Heap) (a b : Nat) (cs : List Int32) : Prop := Exa Z h a "java/lang/String" ∧ Fld Z h a "java/lang/String" "coder" "B" (.int 0) ∧ Fld Z h a "java/lang/String" "value" "[B" (.ref b) ∧ Ary Z h b .byte (cs.map latB) ∧ ∀ c ∈ cs, 0 ≤ c.toInt ∧ c.toInt ≤ 255
theorem SL.keep {Z : State} {h h' : Heap} {a b : Addr} {cs : List Int32} {ws : List Addr} (S : SL Z h a b cs) (K : Keep h h' ws) (qa : a ∉ ws) (qb : b ∉ ws) : SL Z h' a b cs := by
  obtain ⟨E, F1, F2, V, q⟩ := S
  exact ⟨E.keep K, F1.keep K qa, F2.keep K qa, V.keep K qb, q⟩
theorem SL.lt {Z : State} {h : Heap} {a b : Addr} {cs : List Int32} (S : SL Z h a b cs) : a < h.size := S.1.lt
theorem SL.ltb {Z : State} {h : Heap} {a b : Addr} {cs : List Int32} (S : SL Z h a b cs) : b < h.size := S.2.2.2.1.lt
theorem own_b8 (c : Int32) : c.toInt8.toInt32.toInt8.toInt32 = c.toInt8.toInt32 := by simp
theorem own_toInt {n : Nat} (h : n < 2 ^ 31) : n.toInt32.toInt = n := len_toInt h
theorem own_ltn {i n : Nat} (h : i < n) (hn : n < 2 ^ 31) : i.toInt32 < n.toInt32 := by
  rw [Int32.lt_iff_toInt_lt, own_toInt (by omega), own_toInt hn]; omega
theorem own_nltn {i n : Nat} (h : n ≤ i) (hn : i < 2 ^ 31) : ¬ i.toInt32 < n.toInt32 := by
  rw [Int32.lt_iff_toInt_lt, own_toInt hn, own_toInt (by omega)]; omega
theorem own_nneg {n : Nat} (hn : n < 2 ^ 31) : ¬ n.toInt32 < 0 := by
  rw [Int32.lt_iff_toInt_lt, own_toInt hn]; simp
theorem own_succ (i : Nat) : i.toInt32 + Int32.ofInt 1 = (i + 1).toInt32 := by
  show Int32.ofNat i + Int32.ofInt 1 = Int32.ofNat (i + 1)
  rw [Int32.ofNat_add]; rfl
theorem own_fill {cs : List Int32} {bs : List Value} {i : Nat} {c : Int32} (hl : bs.length = cs.length) (hc : cs[i]? = some c) : ((cs.take i).map latB ++ bs.drop i).set i (latB c) = (cs.take (i + 1)).map latB ++ bs.drop (i + 1) := by
  have hi : i < cs.length := (List.getElem?_eq_some_iff.mp hc).1
  have e1 : ((cs.take i).map latB).length = i := by simp; omega
  have e2 : bs.drop i = bs[i] :: bs.drop (i + 1) := List.drop_eq_getElem_cons (by omega)
  have e3 : cs.take (i + 1) = cs.take i ++ [c] := by rw [List.take_add_one, hc]; rfl
  rw [List.set_append_right _ _ (by omega), e1, e2, e3, Nat.sub_self, List.set_cons_zero, List.map_append, List.append_assoc]
  rfl
theorem own_back (c : Int32) (h : 0 ≤ c.toInt ∧ c.toInt ≤ 255) : nar .char (c.toInt8.toInt32 &&& 255).toUInt32.toUInt16.toUInt32.toInt32 = c := by
  have e : ∀ n : Fin 256, nar .char ((Int32.ofNat n.1).toInt8.toInt32 &&& 255).toUInt32.toUInt16.toUInt32.toInt32 = Int32.ofNat n.1 := by decide +kernel
  have q : c = Int32.ofNat c.toInt.toNat := by
    apply Int32.toInt_inj.mp
    rw [show Int32.ofNat c.toInt.toNat = c.toInt.toNat.toInt32 from rfl, own_toInt (by omega)]; omega
  rw [q]
  exact e ⟨c.toInt.toNat, by omega⟩
theorem own_csub (n : Int32) : (((n - n).toUInt32 >>> ((31 : Int32) &&& 31).toUInt32).toInt32).toInt8.toInt32 = 0 := by
  rw [Int32.sub_self]; decide
theorem own_nchar {c : Int32} (h : 0 ≤ c.toInt ∧ c.toInt < 65536) : nar .char c = c := by
  have q := c_i2c c
  apply Int32.toInt_inj.mp
  show c.toUInt32.toUInt16.toUInt32.toInt32.toInt = c.toInt
  omega
/-- the JDK's statics that String's methods read -/
def SEnv (Z : State) (cc : Int32) (fm : Value) : Prop := Sta Z Z.heap "java/lang/String" "COMPACT_STRINGS" "Z" (.int cc) ∧ ¬ cc = 0 ∧ Sta Z Z.heap "jdk/internal/util/Preconditions" "SIOOBE_FORMATTER" "Ljava/util/function/BiFunction;" fm ∧ fm.isRef = true
set_option maxRecDepth 65536 in
set_option maxHeartbeats 40000000 in
theorem c_compr (l : Launch) (Z : State) (a0 : Array Value) (hw : ∀ d ∈ tables_1, d.before a0 Z = true) (hE : EW Z a0 consts_1) (ca ba : Nat) (cs : List Int32) (bs : List Value) (h0 : Heap) (O : Ext Z.heap h0) (hn : cs.length ≤ 14) (hch : ∀ c ∈ cs, 0 ≤ c.toInt ∧ c.toInt ≤ 255) (VA : Ary Z h0 ca .char (cs.map Value.int)) (VB : Ary Z h0 ba .byte bs) (hbl : bs.length = cs.length) (hne : ca ≠ ba) (hz : Z.heap.size ≤ ba) :
    Con l Z consts_1 n_0 jdk_52_method_21_code 7 (Option.some Jvm.ClassFile.FieldType.int) ({ frames := 0, cells := 0, slots := 0, locals := 0 } : Room) #[(.ref ca), (.int 0), (.ref ba), (.int 0), (.int cs.length.toInt32)] h0 [ba] (fun v h => v = some (.int cs.length.toInt32) ∧ Ary Z h ba .byte (cs.map latB)) := by
 refine Con.of (a0 := a0) #[.val (.ref ca), .val (.int 0), .val (.ref ba), .val (.int 0), .val (.int cs.length.toInt32), .unset, .unset] (plainFor_of_name pn_0) hE O (allS ⟨hz, VB.lt⟩ all0) (fun m => by first | (simp [entryFrame, mkF, argsToLocals, Value.category]; done) | rfl) ?_
 intro p e s m below meth c T0 hx hby hml hnm hret hlk hh W0
 have hn31 : cs.length < 2 ^ 31 := by omega
 refine g_iconst (0 : Int32) (pc' := 1) W0.here hx (hb hby dc0) rfl rfl ?_
 refine g_istore (pc' := 3) (Ls' := #[.val (.ref ca), .val (.int 0), .val (.ref ba), .val (.int 0), .val (.int cs.length.toInt32), .val (.int 0), .unset]) W0.here hx (hb hby dc1) rfl rfl ?_
 have LOOP : ∀ (k i : Nat), i + k = cs.length → ∀ (TL : State) (hL : Heap) (o6 : Slot), One o6 → Wk p l e ({ frames := 0, cells := 0, slots := 0, locals := 0 } : Room) s m #[(.ref ca), (.int 0), (.ref ba), (.int 0), (.int cs.length.toInt32)] below meth c Z consts_1 "java/lang/StringUTF16" [ba] [] TL hL 0 0 → Keep h0 hL [ba] → Ary Z hL ba .byte ((cs.take i).map latB ++ bs.drop i) → Gets p.tables e below (Post s Z consts_1 ({ frames := 0, cells := 0, slots := 0, locals := 0 } : Room) h0 [ba] (fun v h => v = some (.int cs.length.toInt32) ∧ Ary Z h ba .byte (cs.map latB))) TL (mkF m 3 #[.val (.ref ca), .val (.int i.toInt32), .val (.ref ba), .val (.int i.toInt32), .val (.int cs.length.toInt32), .val (.int i.toInt32), o6] []) := by
  intro k
  induction k with
  | zero =>
   intro i hi TL hL o6 ho6 WL KL VBL
   have VAL := VA.keep KL (ninS hne nin0)
   refine g_iload (pc' := 5) WL.here hx (hb hby dc2) rfl rfl ?_
   refine g_iload (pc' := 7) WL.here hx (hb hby dc3) rfl rfl ?_
   refine g_icmpY (pc' := 44) WL.here hx (hb hby dc4) rfl (flt (show ¬ (i.toInt32 < cs.length.toInt32) from (own_nltn (by omega) (by omega)))).2.1 ?_
   refine g_iload (pc' := 46) WL.here hx (hb hby dc5) rfl rfl ?_
   refine w_retI WL hx hh hlk hret (hb hby dc6) (B_ rfl) (B_ rfl) ?_
   have e1 : i = cs.length := by omega
   subst e1
   rw [List.take_length, List.drop_eq_nil_of_le (by omega), List.append_nil] at VBL
   exact ⟨rfl, VBL⟩
  | succ k ih =>
   intro i hi TL hL o6 ho6 WL KL VBL
   have VAL := VA.keep KL (ninS hne nin0)
   have hi2 : i < cs.length := by omega
   obtain ⟨ci, hci⟩ : ∃ ci, cs[i]? = some ci := ⟨_, List.getElem?_eq_getElem hi2⟩
   have hcm : ci ∈ cs := List.mem_of_getElem? hci
   have hcr := hch ci hcm
   refine g_iload (pc' := 5) WL.here hx (hb hby dc2) rfl rfl ?_
   refine g_iload (pc' := 7) WL.here hx (hb hby dc3) rfl rfl ?_
   refine g_icmpN (pc' := 10) WL.here hx (hb hby dc4) rfl (tlt (show i.toInt32 < cs.length.toInt32 from (own_ltn hi2 hn31))).2.1 ?_
   refine g_aloadN (pc' := 11) WL.here hx (hb hby dc7) rfl rfl rfl ?_
   refine g_iloadN (pc' := 12) WL.here hx (hb hby dc8) rfl rfl ?_
   refine w_caload (pc' := 13) (v := (.int ci)) WL hx VAL (own_nneg (by omega)) (by rw [i32_nat (by omega), List.getElem?_map, hci]; rfl) (hb hby dc9) rfl ?_
   refine g_istore (pc' := 15) (Ls' := #[.val (.ref ca), .val (.int i.toInt32), .val (.ref ba), .val (.int i.toInt32), .val (.int cs.length.toInt32), .val (.int i.toInt32), .val (.int ci)]) WL.here hx (hb hby dc10) (XS.store1 (o := o6) rfl ho6 rfl) rfl ?_
   refine g_iload (pc' := 17) WL.here hx (hb hby dc11) rfl rfl ?_
   refine g_sipush (255 : Int32) (pc' := 20) WL.here hx (hb hby dc12) rfl rfl ?_
   refine g_icmpY (pc' := 26) WL.here hx (hb hby dc13) rfl (flt (show ¬ ((255 : Int32) < ci) from (by rw [Int32.lt_iff_toInt_lt]; have : (255 : Int32).toInt = 255 := rfl; omega))).2.2.2 ?_
   refine g_aloadN (pc' := 27) WL.here hx (hb hby dc14) rfl rfl rfl ?_
   refine g_iloadN (pc' := 28) WL.here hx (hb hby dc15) rfl rfl ?_
   refine g_iload (pc' := 30) WL.here hx (hb hby dc16) rfl rfl ?_
   refine g_i2b (pc' := 31) WL.here hx (hb hby dc17) rfl ?_
   refine w_bastore (pc' := 32) (x' := ci.toInt8.toInt32) WL hx VBL (own_nneg (by omega)) (by rw [i32_nat (by omega)]; simp; omega) (List.mem_of_getElem? (i := 0) rfl) (own_b8 ci) (hb hby dc18) rfl fun T1 h1 W1 K1 V1 => ?_
   have z_K1 : hL.size ≤ h1.size := K1.1
   have V1 : Ary Z h1 ba .byte ((cs.take (i + 1)).map latB ++ bs.drop (i + 1)) := by rw [i32_nat (by omega)] at V1; rw [← own_fill hbl hci]; exact V1
   refine g_iincV (i + 1).toInt32 (pc' := 35) (Ls' := #[.val (.ref ca), .val (.int (i + 1).toInt32), .val (.ref ba), .val (.int i.toInt32), .val (.int cs.length.toInt32), .val (.int i.toInt32), .val (.int ci)]) W1.here hx (hb hby dc19) (own_succ i) rfl rfl rfl ?_
   refine g_iincV (i + 1).toInt32 (pc' := 38) (Ls' := #[.val (.ref ca), .val (.int (i + 1).toInt32), .val (.ref ba), .val (.int (i + 1).toInt32), .val (.int cs.length.toInt32), .val (.int i.toInt32), .val (.int ci)]) W1.here hx (hb hby dc20) (own_succ i) rfl rfl rfl ?_
   refine g_iincV (i + 1).toInt32 (pc' := 41) (Ls' := #[.val (.ref ca), .val (.int (i + 1).toInt32), .val (.ref ba), .val (.int (i + 1).toInt32), .val (.int cs.length.toInt32), .val (.int (i + 1).toInt32), .val (.int ci)]) W1.here hx (hb hby dc21) (own_succ i) rfl rfl rfl ?_
   refine g_goto (pc' := 3) W1.here hx (hb hby dc22) rfl ?_
   exact ih (i + 1) (by omega) _ _ _ (One.val rfl) W1 (KL.trans K1 (fun x q => Or.inl q)) V1
 exact LOOP cs.length 0 (by omega) _ _ _ One.u W0 (Keep.refl _ _) (by simpa using VB)
set_option maxRecDepth 65536 in
set_option maxHeartbeats 40000000 in
theorem c_compress (l : Launch) (Z : State) (a0 : Array Value) (hw : ∀ d ∈ tables_1, d.before a0 Z = true) (hE : EW Z a0 consts_1) (ca : Nat) (cs : List Int32) (h0 : Heap) (O : Ext Z.heap h0) (hn : cs.length ≤ 14) (hch : ∀ c ∈ cs, 0 ≤ c.toInt ∧ c.toInt ≤ 255) (VA : Ary Z h0 ca .char (cs.map Value.int))  :
    Con l Z consts_1 n_1 jdk_52_method_16_code 6 (Option.some (Jvm.ClassFile.FieldType.array Jvm.ClassFile.FieldType.byte)) ({ frames := 1, cells := 1, slots := 14, locals := 18 } : Room) #[(.ref ca), (.int 0), (.int cs.length.toInt32)] h0 [] (fun v h => ∃ ba : Nat, v = some (.ref ba) ∧ h0.size ≤ ba ∧ Ary Z h ba .byte (cs.map latB)) := by
 refine Con.of (a0 := a0) #[.val (.ref ca), .val (.int 0), .val (.int cs.length.toInt32), .unset, .unset, .unset] (plainFor_of_name pn_0) hE O all0 (fun m => by first | (simp [entryFrame, mkF, argsToLocals, Value.category]; done) | rfl) ?_
 intro p e s m below meth c T0 hx hby hml hnm hret hlk hh W0
 have hn31 : cs.length < 2 ^ 31 := by omega
 have lt_ca : ca < h0.size := VA.lt
 refine g_iloadN (pc' := 1) W0.here hx (hb hby dc23) rfl rfl ?_
 refine w_newarr (pc' := 3) (cap := 14) W0 hx (M_ hw w_26) (hb hby dc24) (own_nneg hn31) (by rw [i32_nat hn31]; exact hn) (B_ rfl) (B_ rfl) (B_ rfl) rfl rfl fun T2 h2 b2 g2 W2 K2 V2 => ?_
 have z_K2 : h0.size ≤ h2.size := K2.1
 have ne_ca_b2 : ca ≠ b2 := by omega
 have lt_b2 : b2 < h2.size := W2.lt (List.mem_cons_self ..)
 have V3 : Ary Z h2 b2 .byte (List.replicate cs.length (.int 0)) := by rw [i32_nat hn31] at V2; exact V2
 refine g_astoreN (pc' := 4) (Ls' := #[.val (.ref ca), .val (.int 0), .val (.int cs.length.toInt32), .val (.ref b2), .unset, .unset]) W2.here hx (hb hby dc25) rfl rfl rfl ?_
 refine g_aloadN (pc' := 5) W2.here hx (hb hby dc26) rfl rfl rfl ?_
 refine g_iloadN (pc' := 6) W2.here hx (hb hby dc27) rfl rfl ?_
 refine g_aloadN (pc' := 7) W2.here hx (hb hby dc28) rfl rfl rfl ?_
 refine g_iconst (0 : Int32) (pc' := 8) W2.here hx (hb hby dc29) rfl rfl ?_
 refine g_iloadN (pc' := 9) W2.here hx (hb hby dc30) rfl rfl ?_
 have c4 := (VA.keep K2 nin0)
 refine w_callS (pc' := 12) (st := []) (y := n_0) W2 hx [(.ref ca), (.int 0), (.ref b2), (.int 0), (.int cs.length.toInt32)] (M_ hw w_171) (M_ hw w_172) (M_ hw w_169) (M_ hw w_173) (by decide) (c_compr l Z a0 hw hE ca b2 cs _ h2 W2.old hn hch c4 V3 (by simp) ne_ca_b2 (by have := O.1; omega)) (allS (List.mem_of_getElem? (i := 0) rfl) all0) (by rw [hml]; rfl) (lenOf pd_0 rfl) rfl (hb hby dc31) (B_ rfl) (B_ rfl) (B_ rfl) (B_ rfl) rfl fun v5 T5 h5 W5 K5 Q5 => ?_
 have z_K5 : h2.size ≤ h5.size := K5.1
 obtain ⟨rfl, V6⟩ := Q5
 refine g_istore (pc' := 14) (Ls' := #[.val (.ref ca), .val (.int 0), .val (.int cs.length.toInt32), .val (.ref b2), .val (.int cs.length.toInt32), .unset]) W5.here hx (hb hby dc32) rfl rfl ?_
 refine g_iload (pc' := 16) W5.here hx (hb hby dc33) rfl rfl ?_
 refine g_iloadN (pc' := 17) W5.here hx (hb hby dc34) rfl rfl ?_
 refine g_icmpY (pc' := 57) W5.here hx (hb hby dc35) rfl (teq (show cs.length.toInt32 = cs.length.toInt32 from rfl)).1 ?_
 refine g_aloadN (pc' := 58) W5.here hx (hb hby dc36) rfl rfl rfl ?_
 refine w_retA W5 hx hh hlk hret rfl rfl (hb hby dc37) (B_ rfl) (B_ rfl) ?_
 exact ⟨_, rfl, by omega, V6⟩
set_option maxRecDepth 65536 in
set_option maxHeartbeats 40000000 in
theorem c_coderFrom (l : Launch) (Z : State) (a0 : Array Value) (hw : ∀ d ∈ tables_1, d.before a0 Z = true) (hE : EW Z a0 consts_1) (ba : Nat) (cs : List Int32) (bs : List Value) (h0 : Heap) (O : Ext Z.heap h0) (VB : Ary Z h0 ba .byte bs) (hbl : bs.length = cs.length) :
    Con l Z consts_1 n_2 jdk_52_method_15_code 2 (Option.some Jvm.ClassFile.FieldType.byte) ({ frames := 0, cells := 0, slots := 0, locals := 0 } : Room) #[(.ref ba), (.int cs.length.toInt32)] h0 [] (pureQ (some (.int 0)) h0) := by
 refine Con.of (a0 := a0) #[.val (.ref ba), .val (.int cs.length.toInt32)] (plainFor_of_name pn_0) hE O all0 (fun m => by first | (simp [entryFrame, mkF, argsToLocals, Value.category]; done) | rfl) ?_
 intro p e s m below meth c T0 hx hby hml hnm hret hlk hh W0
 refine g_iloadN (pc' := 1) W0.here hx (hb hby dc38) rfl rfl ?_
 refine g_aloadN (pc' := 2) W0.here hx (hb hby dc39) rfl rfl rfl ?_
 refine w_len (pc' := 3) W0 hx VB (hb hby dc40) rfl ?_
 refine g_name (w := .int cs.length.toInt32) (congrArg Value.int (by rw [hbl])) ?_
 refine g_isub (pc' := 4) W0.here hx (hb hby dc41) rfl ?_
 refine g_bipush (31 : Int32) (pc' := 6) W0.here hx (hb hby dc42) rfl rfl ?_
 refine g_iushr (pc' := 7) W0.here hx (hb hby dc43) rfl ?_
 refine g_i2b (pc' := 8) W0.here hx (hb hby dc44) rfl ?_
 refine w_retN (t := .byte) W0 hx hh hlk hret (by simp) (hb hby dc45) (B_ rfl) (B_ rfl) ?_
 exact ⟨congrArg (fun z => some (Value.int z)) (by rw [own_csub]; rfl), rfl⟩
theorem own_pos0 {n : Nat} (h : 0 < n) (hn : n < 2 ^ 31) : ¬ n.toInt32 = 0 := fun q => by
  have := congrArg Int32.toInt q
  rw [own_toInt hn] at this
  simp at this; omega
theorem own_nil {cs : List Int32} (hn : cs.length < 2 ^ 31) (q : cs.length.toInt32 = (0 : Int32)) : cs = [] := by
  cases cs with
  | nil => rfl
  | cons a t => exact absurd q (own_pos0 (by simp) hn)
theorem own_atoms {Z : State} {a0 : Array Value} (hw : ∀ d ∈ tables_1, d.before a0 Z = true) : ∀ a ∈ Bundle.stringAtoms, a.before a0 Z = true := fun d hd => by
  simp only [Bundle.stringAtoms, Bundle.sN, List.mem_cons, List.not_mem_nil, or_false] at hd
  rcases hd with rfl | rfl | rfl | rfl | rfl | rfl | rfl
  · exact (M_ hw w_14)
  · exact (M_ hw w_13)
  · exact (M_ hw w_26)
  · exact (M_ hw w_27)
  · exact (M_ hw w_28)
  · exact (M_ hw w_29)
  · exact (M_ hw w_30)
set_option maxRecDepth 65536 in
set_option maxHeartbeats 40000000 in
theorem c_str4 (l : Launch) (Z : State) (a0 : Array Value) (hw : ∀ d ∈ tables_1, d.before a0 Z = true) (hE : EW Z a0 consts_1) (cc : Int32) (fm : Value) (o ca : Nat) (cs : List Int32) (h0 : Heap) (O : Ext Z.heap h0) (G : SEnv Z cc fm) (hn : cs.length ≤ 14) (hch : ∀ c ∈ cs, 0 ≤ c.toInt ∧ c.toInt ≤ 255) (VA : Ary Z h0 ca .char (cs.map Value.int)) (hz : Z.heap.size ≤ o) (E0 : Exa Z h0 o "java/lang/String") (u1 u2 : Value) (F1 : Fld Z h0 o "java/lang/String" "coder" "B" u1) (F2 : Fld Z h0 o "java/lang/String" "value" "[B" u2) (hoc : o ≠ ca)  :
    Con l Z consts_1 n_3 jdk_42_method_149_code 6 (Option.none : Option Jvm.ClassFile.FieldType) ({ frames := 2, cells := 4, slots := 14, locals := 35 } : Room) #[(.ref o), (.ref ca), (.int 0), (.int cs.length.toInt32), .null] h0 [o] (fun v h => v = none ∧ ∃ b : Nat, SL Z h o b cs) := by
 refine Con.of (a0 := a0) #[.val (.ref o), .val (.ref ca), .val (.int 0), .val (.int cs.length.toInt32), .val .null, .unset] (plainFor_of_name pn_1) hE O (allS ⟨hz, E0.lt⟩ all0) (fun m => by first | (simp [entryFrame, mkF, argsToLocals, Value.category]; done) | rfl) ?_
 intro p e s m below meth c T0 hx hby hml hnm hret hlk hh W0
 have hn31 : cs.length < 2 ^ 31 := by omega
 have lt_ca : ca < h0.size := VA.lt
 have lt_o : o < h0.size := E0.lt
 refine g_aloadN (pc' := 1) W0.here hx (hb hby dc46) rfl rfl rfl ?_
 refine w_initO (pc' := 4) W0 hx (M_ hw w_22) (M_ hw w_23) (M_ hw w_24) (by rw [hml]; rfl) (hb hby dc47) (B_ rfl) (B_ rfl) rfl fun T7 W7 => ?_
 refine g_iloadN (pc' := 5) W7.here hx (hb hby dc48) rfl rfl ?_
 by_cases hc5_8 : cs.length.toInt32 = (0 : Int32)
 ·
  refine g_ifN (pc' := 8) W7.here hx (hb hby dc49) rfl (teq hc5_8).2 ?_
  have e0 : cs = [] := own_nil hn31 hc5_8
  refine g_aloadN (pc' := 9) W7.here hx (hb hby dc50) rfl rfl rfl ?_
  refine w_ldcS (pc' := 11) (vs := []) (z := 0) W7 hx (M_ hw w_25) (own_atoms hw) (List.mem_of_getElem? (i := 0) rfl) ⟨fun _ q => (nomatch q), rfl⟩ (by decide) rfl (hb hby dc51) 0 (B_ rfl) (B_ rfl) (B_ rfl) (B_ rfl) rfl fun T9 h9 sa9 sb9 W9 K9 A9 C9 F9 V9 N9 => ?_
  have z_K9 : h0.size ≤ h9.size := K9.1
  obtain ⟨ne_o_sa9, ne_o_sb9⟩ := N9 o (List.mem_of_getElem? (i := 0) rfl)
  refine w_get (pc' := 14) W9 hx (M_ hw w_31) Via.refl F9 (hb hby dc52) rfl fun T10 W10 => ?_
  have c11 := (F2.keep K9 nin0)
  have c12 := (E0.keep K9)
  refine w_put (pc' := 17) W10 hx (M_ hw w_31) Via.refl c11 c12 (Or.inr ⟨(M_ hw w_27), rfl, hnm⟩) (M_ hw w_13) (ty := (.array .byte)) (by decide) rfl rfl (List.mem_of_getElem? (i := 0) rfl) (hb hby dc53) rfl fun T13 h13 W13 K13 R13 F13 A13 => ?_
  have c14 := (F1.keep K9 nin0)
  have z_K13 : h9.size ≤ h13.size := K13.1
  have c15 := (c14.other R13 (Or.inr (slot_ne (Or.inr (M_ hw w_28)) (Or.inr (M_ hw w_27)) (by decide) (t := .byte) (t' := (.array .byte)) (by decide) (by decide))))
  refine g_aloadN (pc' := 18) W13.here hx (hb hby dc54) rfl rfl rfl ?_
  refine w_ldcS (pc' := 20) (vs := []) (z := 0) W13 hx (M_ hw w_25) (own_atoms hw) (List.mem_of_getElem? (i := 0) rfl) ⟨fun _ q => (nomatch q), rfl⟩ (by decide) rfl (hb hby dc55) 0 (B_ rfl) (B_ rfl) (B_ rfl) (B_ rfl) rfl fun T16 h16 sa16 sb16 W16 K16 A16 C16 F16 V16 N16 => ?_
  have z_K16 : h13.size ≤ h16.size := K16.1
  obtain ⟨ne_o_sa16, ne_o_sb16⟩ := N16 o (List.mem_of_getElem? (i := 0) rfl)
  refine w_get (pc' := 23) W16 hx (M_ hw w_32) Via.refl C16 (hb hby dc56) rfl fun T17 W17 => ?_
  have c18 := (c15.keep K16 nin0)
  have c19 := (A13.keep K16)
  refine w_putN (pc' := 26) (v' := (.int 0)) W17 hx (M_ hw w_32) Via.refl c18 c19 (Or.inr ⟨(M_ hw w_28), rfl, hnm⟩) (M_ hw w_13) (ty := .byte) (by decide) rfl rfl (List.mem_of_getElem? (i := 0) rfl) (hb hby dc57) rfl fun T20 h20 W20 K20 R20 F20 A20 => ?_
  have c21 := (F13.keep K16 nin0)
  have z_K20 : h16.size ≤ h20.size := K20.1
  have c22 := (c21.other R20 (Or.inr (slot_ne (Or.inr (M_ hw w_27)) (Or.inr (M_ hw w_28)) (by decide) (t := (.array .byte)) (t' := .byte) (by decide) (by decide))))
  have c23 := (((V9.keep K13 (ninS (Ne.symm ne_o_sb9) nin0)).keep K16 nin0).keep K20 (ninS (Ne.symm ne_o_sb9) nin0))
  refine w_retV W20 hx hh hlk hret (hb hby dc58) (B_ rfl) (B_ rfl) ?_
  refine ⟨rfl, sb9, A20, F20, c22, ?_, hch⟩
  rw [e0]; exact c23
 ·
  refine g_ifY (pc' := 27) W7.here hx (hb hby dc49) rfl (feq hc5_8).2 ?_
  refine w_getS (pc' := 30) W7 hx (M_ hw w_71) Via.refl G.1 (hb hby dc59) rfl fun T24 W24 => ?_
  refine g_ifN (pc' := 33) W24.here hx (hb hby dc60) rfl (feq (show ¬ (cc = (0 : Int32)) from G.2.1)).1 ?_
  refine g_aloadN (pc' := 34) W24.here hx (hb hby dc61) rfl rfl rfl ?_
  refine g_iloadN (pc' := 35) W24.here hx (hb hby dc62) rfl rfl ?_
  refine g_iloadN (pc' := 36) W24.here hx (hb hby dc63) rfl rfl ?_
  refine w_callS (pc' := 39) (st := []) (y := n_1) W24 hx [(.ref ca), (.int 0), (.int cs.length.toInt32)] (M_ hw w_167) (M_ hw w_168) (M_ hw w_169) (M_ hw w_170) (by decide) (c_compress l Z a0 hw hE ca cs h0 W24.old hn hch VA) all0 (by rw [hml]; rfl) (lenOf pd_1 rfl) rfl (hb hby dc64) (B_ rfl) (B_ rfl) (B_ rfl) (B_ rfl) rfl fun v25 T25 h25 W25 K25 Q25 => ?_
  have z_K25 : h0.size ≤ h25.size := K25.1
  obtain ⟨ba26, rfl, gz26, V26⟩ := Q25
  have ne_ca_ba26 : ca ≠ ba26 := by omega
  have ne_o_ba26 : o ≠ ba26 := by omega
  have lt_ba26 : ba26 < h25.size := V26.lt
  refine g_astore (pc' := 41) (Ls' := #[.val (.ref o), .val (.ref ca), .val (.int 0), .val (.int cs.length.toInt32), .val .null, .val (.ref ba26)]) W25.here hx (hb hby dc65) rfl rfl rfl ?_
  refine g_aloadN (pc' := 42) W25.here hx (hb hby dc66) rfl rfl rfl ?_
  refine g_aload (pc' := 44) W25.here hx (hb hby dc67) rfl rfl rfl ?_
  refine g_iloadN (pc' := 45) W25.here hx (hb hby dc68) rfl rfl ?_
  refine w_callSp (pc' := 48) (st := [(.ref o)]) (y := n_2) W25 hx [(.ref ba26), (.int cs.length.toInt32)] (M_ hw w_174) (M_ hw w_175) (M_ hw w_169) (M_ hw w_176) (by decide) (c_coderFrom l Z a0 hw hE ba26 cs _ h25 W25.old V26 (by simp)) (by rw [hml]; rfl) (lenOf pd_2 rfl) rfl (hb hby dc69) (B_ rfl) (B_ rfl) rfl rfl (B_ rfl) (B_ rfl) rfl fun T27 W27 => ?_
  have c28 := (F1.keep K25 nin0)
  have c29 := (E0.keep K25)
  refine w_putN (pc' := 51) (v' := (.int 0)) W27 hx (M_ hw w_32) Via.refl c28 c29 (Or.inr ⟨(M_ hw w_28), rfl, hnm⟩) (M_ hw w_13) (ty := .byte) (by decide) rfl rfl (List.mem_of_getElem? (i := 0) rfl) (hb hby dc70) rfl fun T30 h30 W30 K30 R30 F30 A30 => ?_
  have c31 := (F2.keep K25 nin0)
  have z_K30 : h25.size ≤ h30.size := K30.1
  have c32 := (c31.other R30 (Or.inr (slot_ne (Or.inr (M_ hw w_27)) (Or.inr (M_ hw w_28)) (by decide) (t := (.array .byte)) (t' := .byte) (by decide) (by decide))))
  refine g_aloadN (pc' := 52) W30.here hx (hb hby dc71) rfl rfl rfl ?_
  refine g_aload (pc' := 54) W30.here hx (hb hby dc72) rfl rfl rfl ?_
  refine w_put (pc' := 57) W30 hx (M_ hw w_31) Via.refl c32 A30 (Or.inr ⟨(M_ hw w_27), rfl, hnm⟩) (M_ hw w_13) (ty := (.array .byte)) (by decide) rfl rfl (List.mem_of_getElem? (i := 0) rfl) (hb hby dc73) rfl fun T33 h33 W33 K33 R33 F33 A33 => ?_
  have z_K33 : h30.size ≤ h33.size := K33.1
  have c34 := (F30.other R33 (Or.inr (slot_ne (Or.inr (M_ hw w_28)) (Or.inr (M_ hw w_27)) (by decide) (t := .byte) (t' := (.array .byte)) (by decide) (by decide))))
  have c35 := ((V26.keep K30 (ninS (Ne.symm ne_o_ba26) nin0)).keep K33 (ninS (Ne.symm ne_o_ba26) nin0))
  refine w_retV W33 hx hh hlk hret (hb hby dc74) (B_ rfl) (B_ rfl) ?_
  exact ⟨rfl, ba26, A33, c34, F33, c35, hch⟩
set_option maxRecDepth 65536 in
set_option maxHeartbeats 40000000 in
theorem c_strC (l : Launch) (Z : State) (a0 : Array Value) (hw : ∀ d ∈ tables_1, d.before a0 Z = true) (hE : EW Z a0 consts_1) (cc : Int32) (fm : Value) (o ca : Nat) (cs : List Int32) (h0 : Heap) (O : Ext Z.heap h0) (G : SEnv Z cc fm) (hn : cs.length ≤ 14) (hch : ∀ c ∈ cs, 0 ≤ c.toInt ∧ c.toInt ≤ 255) (VA : Ary Z h0 ca .char (cs.map Value.int)) (hz : Z.heap.size ≤ o) (E0 : Exa Z h0 o "java/lang/String") (u1 u2 : Value) (F1 : Fld Z h0 o "java/lang/String" "coder" "B" u1) (F2 : Fld Z h0 o "java/lang/String" "value" "[B" u2) (hoc : o ≠ ca)  :
    Con l Z consts_1 n_4 jdk_42_method_3_code 2 (Option.none : Option Jvm.ClassFile.FieldType) ({ frames := 3, cells := 4, slots := 14, locals := 52 } : Room) #[(.ref o), (.ref ca)] h0 [o] (fun v h => v = none ∧ ∃ b : Nat, SL Z h o b cs) := by
 refine Con.of (a0 := a0) #[.val (.ref o), .val (.ref ca)] (plainFor_of_name pn_1) hE O (allS ⟨hz, E0.lt⟩ all0) (fun m => by first | (simp [entryFrame, mkF, argsToLocals, Value.category]; done) | rfl) ?_
 intro p e s m below meth c T0 hx hby hml hnm hret hlk hh W0
 have hn31 : cs.length < 2 ^ 31 := by omega
 have lt_ca : ca < h0.size := VA.lt
 have lt_o : o < h0.size := E0.lt
 refine g_aloadN (pc' := 1) W0.here hx (hb hby dc75) rfl rfl rfl ?_
 refine g_aloadN (pc' := 2) W0.here hx (hb hby dc76) rfl rfl rfl ?_
 refine g_iconst (0 : Int32) (pc' := 3) W0.here hx (hb hby dc77) rfl rfl ?_
 refine g_aloadN (pc' := 4) W0.here hx (hb hby dc78) rfl rfl rfl ?_
 refine w_len (pc' := 5) W0 hx VA (hb hby dc79) rfl ?_
 refine g_name (w := .int cs.length.toInt32) (congrArg Value.int (by rw [List.length_map])) ?_
 refine g_aconstNull (pc' := 6) W0.here hx (hb hby dc80) rfl ?_
 refine w_special (pc' := 9) (st := []) (y := n_3) (a := o) W0 hx [(.ref ca), (.int 0), (.int cs.length.toInt32), .null] rfl (M_ hw w_18) (M_ hw w_19) (M_ hw w_14) (M_ hw w_21) (by decide) (c_str4 l Z a0 hw hE cc fm o ca cs h0 W0.old G hn hch VA (by have := O.1; omega) E0 _ _ F1 F2 hoc) (allS (List.mem_of_getElem? (i := 0) rfl) all0) (by rw [hml]; rfl) (lenOf pd_3 rfl) rfl (hb hby dc81) (B_ rfl) (B_ rfl) (B_ rfl) (B_ rfl) rfl fun v36 T36 h36 W36 K36 Q36 => ?_
 have z_K36 : h0.size ≤ h36.size := K36.1
 obtain ⟨rfl, sb37, S37⟩ := Q36
 have ES37 := S37.1
 have lt_sb37 : sb37 < h36.size := S37.ltb
 refine w_retV W36 hx hh hlk hret (hb hby dc82) (B_ rfl) (B_ rfl) ?_
 exact ⟨rfl, _, S37⟩
set_option maxRecDepth 65536 in
set_option maxHeartbeats 40000000 in
theorem c_coder (l : Launch) (Z : State) (a0 : Array Value) (hw : ∀ d ∈ tables_1, d.before a0 Z = true) (hE : EW Z a0 consts_1) (cc : Int32) (fm : Value) (a b : Nat) (cs : List Int32)  (h0 : Heap) (O : Ext Z.heap h0) (G : SEnv Z cc fm) (S0 : SL Z h0 a b cs)  :
    Con l Z consts_1 n_5 jdk_42_method_152_code 1 (Option.some Jvm.ClassFile.FieldType.byte) ({ frames := 0, cells := 0, slots := 0, locals := 0 } : Room) #[(.ref a)] h0 [] (pureQ (some (.int 0)) h0) := by
 refine Con.of (a0 := a0) #[.val (.ref a)] (plainFor_of_name pn_1) hE O all0 (fun m => by first | (simp [entryFrame, mkF, argsToLocals, Value.category]; done) | rfl) ?_
 intro p e s m below meth c T0 hx hby hml hnm hret hlk hh W0
 obtain ⟨E_a, FC_a, FV_a, V_b, L_a⟩ := id S0
 have hlen : cs.length < 2 ^ 31 := by have := V_b.len; simpa using this
 refine w_getS (pc' := 3) W0 hx (M_ hw w_71) Via.refl G.1 (hb hby dc83) rfl fun T38 W38 => ?_
 refine g_ifN (pc' := 6) W38.here hx (hb hby dc84) rfl (feq (show ¬ (cc = (0 : Int32)) from G.2.1)).1 ?_
 refine g_aloadN (pc' := 7) W38.here hx (hb hby dc85) rfl rfl rfl ?_
 refine w_get (pc' := 10) W38 hx (M_ hw w_32) Via.refl FC_a (hb hby dc86) rfl fun T39 W39 => ?_
 refine g_goto (pc' := 14) W39.here hx (hb hby dc87) rfl ?_
 refine w_retN (t := .byte) W39 hx hh hlk hret (by simp) (hb hby dc88) (B_ rfl) (B_ rfl) ?_
 exact ⟨rfl, rfl⟩
theorem own_shr0 (x : Int32) : x >>> ((0 : Int32) &&& 31) = x := by
  apply Int32.toInt_inj.mp
  rw [c_ishr x 0 0 rfl]
  simp
set_option maxRecDepth 65536 in
set_option maxHeartbeats 40000000 in
theorem c_length (l : Launch) (Z : State) (a0 : Array Value) (hw : ∀ d ∈ tables_1, d.before a0 Z = true) (hE : EW Z a0 consts_1) (cc : Int32) (fm : Value) (a b : Nat) (cs : List Int32)  (h0 : Heap) (O : Ext Z.heap h0) (G : SEnv Z cc fm) (S0 : SL Z h0 a b cs)  :
    Con l Z consts_1 n_6 jdk_42_method_54_code 1 (Option.some Jvm.ClassFile.FieldType.int) ({ frames := 1, cells := 0, slots := 0, locals := 13 } : Room) #[(.ref a)] h0 [] (pureQ (some (.int cs.length.toInt32)) h0) := by
 refine Con.of (a0 := a0) #[.val (.ref a)] (plainFor_of_name pn_1) hE O all0 (fun m => by first | (simp [entryFrame, mkF, argsToLocals, Value.category]; done) | rfl) ?_
 intro p e s m below meth c T0 hx hby hml hnm hret hlk hh W0
 obtain ⟨E_a, FC_a, FV_a, V_b, L_a⟩ := id S0
 have hlen : cs.length < 2 ^ 31 := by have := V_b.len; simpa using this
 refine g_aloadN (pc' := 1) W0.here hx (hb hby dc89) rfl rfl rfl ?_
 refine w_get (pc' := 4) W0 hx (M_ hw w_31) Via.refl FV_a (hb hby dc90) rfl fun T40 W40 => ?_
 refine w_len (pc' := 5) W40 hx V_b (hb hby dc91) rfl ?_
 refine g_name (w := .int cs.length.toInt32) (congrArg Value.int (by rw [List.length_map])) ?_
 refine g_aloadN (pc' := 6) W40.here hx (hb hby dc92) rfl rfl rfl ?_
 refine w_virtualp (pc' := 9) (st := [(.int cs.length.toInt32)]) (y := n_5) (z := n_5) (a := a) W40 hx [] (M_ hw w_66) (M_ hw w_67) (nfS (z := n_5) (M_ hw w_69)) (M_ hw w_69) (M_ hw w_68) (M_ hw w_14) (M_ hw w_70) (by decide) (c_coder l Z a0 hw hE cc fm a b cs h0 W40.old G S0) E_a (by rw [hml]; rfl) (lenOf pd_4 rfl) rfl (hb hby dc93) (B_ rfl) (B_ rfl) rfl rfl (B_ rfl) (B_ rfl) rfl fun T41 W41 => ?_
 refine g_ishr (pc' := 10) W41.here hx (hb hby dc94) rfl ?_
 refine w_retI W41 hx hh hlk hret (hb hby dc95) (B_ rfl) (B_ rfl) ?_
 exact ⟨congrArg (fun z => some (Value.int z)) (own_shr0 _), rfl⟩
set_option maxRecDepth 65536 in
set_option maxHeartbeats 40000000 in
theorem c_isLat (l : Launch) (Z : State) (a0 : Array Value) (hw : ∀ d ∈ tables_1, d.before a0 Z = true) (hE : EW Z a0 consts_1) (cc : Int32) (fm : Value) (a b : Nat) (cs : List Int32)  (h0 : Heap) (O : Ext Z.heap h0) (G : SEnv Z cc fm) (S0 : SL Z h0 a b cs)  :
    Con l Z consts_1 n_7 jdk_42_method_154_code 1 (Option.some Jvm.ClassFile.FieldType.boolean) ({ frames := 0, cells := 0, slots := 0, locals := 0 } : Room) #[(.ref a)] h0 [] (pureQ (some (.int 1)) h0) := by
 refine Con.of (a0 := a0) #[.val (.ref a)] (plainFor_of_name pn_1) hE O all0 (fun m => by first | (simp [entryFrame, mkF, argsToLocals, Value.category]; done) | rfl) ?_
 intro p e s m below meth c T0 hx hby hml hnm hret hlk hh W0
 obtain ⟨E_a, FC_a, FV_a, V_b, L_a⟩ := id S0
 have hlen : cs.length < 2 ^ 31 := by have := V_b.len; simpa using this
 refine w_getS (pc' := 3) W0 hx (M_ hw w_71) Via.refl G.1 (hb hby dc96) rfl fun T42 W42 => ?_
 refine g_ifN (pc' := 6) W42.here hx (hb hby dc97) rfl (feq (show ¬ (cc = (0 : Int32)) from G.2.1)).1 ?_
 refine g_aloadN (pc' := 7) W42.here hx (hb hby dc98) rfl rfl rfl ?_
 refine w_get (pc' := 10) W42 hx (M_ hw w_32) Via.refl FC_a (hb hby dc99) rfl fun T43 W43 => ?_
 refine g_ifN (pc' := 13) W43.here hx (hb hby dc100) rfl (teq (show (0 : Int32) = (0 : Int32) from (by decide))).2 ?_
 refine g_iconst (1 : Int32) (pc' := 14) W43.here hx (hb hby dc101) rfl rfl ?_
 refine g_goto (pc' := 18) W43.here hx (hb hby dc102) rfl ?_
 refine w_retN (t := .boolean) W43 hx hh hlk hret (by simp) (hb hby dc103) (B_ rfl) (B_ rfl) ?_
 exact ⟨rfl, rfl⟩
set_option maxRecDepth 65536 in
set_option maxHeartbeats 40000000 in
theorem c_chk3 (l : Launch) (Z : State) (a0 : Array Value) (hw : ∀ d ∈ tables_1, d.before a0 Z = true) (hE : EW Z a0 consts_1) (j n : Int32) (fm : Value) (h0 : Heap) (O : Ext Z.heap h0) (hfm : fm.isRef = true) (hj : ¬ j < 0) (hjn : j < n) :
    Con l Z consts_1 n_8 jdk_41_method_11_code 3 (Option.some Jvm.ClassFile.FieldType.int) ({ frames := 0, cells := 0, slots := 0, locals := 0 } : Room) #[(.int j), (.int n), fm] h0 [] (pureQ (some (.int j)) h0) := by
 refine Con.of (a0 := a0) #[.val (.int j), .val (.int n), .val fm] (plainFor_of_name pn_2) hE O all0 (fun m => by rcases ref_cases hfm with rfl | ⟨_, rfl⟩ <;> rfl) ?_
 intro p e s m below meth c T0 hx hby hml hnm hret hlk hh W0
 refine g_iloadN (pc' := 1) W0.here hx (hb hby dc104) rfl rfl ?_
 refine g_ifN (pc' := 4) W0.here hx (hb hby dc105) rfl (flt (show ¬ (j < (0 : Int32)) from hj)).1 ?_
 refine g_iloadN (pc' := 5) W0.here hx (hb hby dc106) rfl rfl ?_
 refine g_iloadN (pc' := 6) W0.here hx (hb hby dc107) rfl rfl ?_
 refine g_icmpY (pc' := 16) W0.here hx (hb hby dc108) rfl (tlt (show j < n from hjn)).1 ?_
 refine g_iloadN (pc' := 17) W0.here hx (hb hby dc109) rfl rfl ?_
 refine w_retI W0 hx hh hlk hret (hb hby dc110) (B_ rfl) (B_ rfl) ?_
 exact ⟨rfl, rfl⟩
set_option maxRecDepth 65536 in
set_option maxHeartbeats 40000000 in
theorem c_chk2 (l : Launch) (Z : State) (a0 : Array Value) (hw : ∀ d ∈ tables_1, d.before a0 Z = true) (hE : EW Z a0 consts_1) (cc : Int32) (fm : Value) (j n : Int32) (h0 : Heap) (O : Ext Z.heap h0) (G : SEnv Z cc fm) (hj : ¬ j < 0) (hjn : j < n) :
    Con l Z consts_1 n_9 jdk_42_method_155_code 2 (Option.none : Option Jvm.ClassFile.FieldType) ({ frames := 1, cells := 0, slots := 0, locals := 14 } : Room) #[(.int j), (.int n)] h0 [] (pureQ none h0) := by
 refine Con.of (a0 := a0) #[.val (.int j), .val (.int n)] (plainFor_of_name pn_1) hE O all0 (fun m => by first | (simp [entryFrame, mkF, argsToLocals, Value.category]; done) | rfl) ?_
 intro p e s m below meth c T0 hx hby hml hnm hret hlk hh W0
 refine g_iloadN (pc' := 1) W0.here hx (hb hby dc111) rfl rfl ?_
 refine g_iloadN (pc' := 2) W0.here hx (hb hby dc112) rfl rfl ?_
 refine w_getS (pc' := 5) W0 hx (M_ hw w_86) Via.refl G.2.2.1 (hb hby dc113) rfl fun T44 W44 => ?_
 refine w_callSp (pc' := 8) (st := []) (y := n_8) W44 hx [(.int j), (.int n), fm] (M_ hw w_193) (M_ hw w_147) (M_ hw w_87) (M_ hw w_148) (by decide) (c_chk3 l Z a0 hw hE j n fm h0 W44.old G.2.2.2 hj hjn) (by rw [hml]; rfl) (lenOf pd_5 rfl) rfl (hb hby dc114) (B_ rfl) (B_ rfl) rfl rfl (B_ rfl) (B_ rfl) rfl fun T45 W45 => ?_
 refine g_pop (pc' := 9) W45.here hx (hb hby dc115) rfl rfl ?_
 refine w_retV W45 hx hh hlk hret (hb hby dc116) (B_ rfl) (B_ rfl) ?_
 exact ⟨rfl, rfl⟩
set_option maxRecDepth 65536 in
set_option maxHeartbeats 40000000 in
theorem c_l1at (l : Launch) (Z : State) (a0 : Array Value) (hw : ∀ d ∈ tables_1, d.before a0 Z = true) (hE : EW Z a0 consts_1) (cc : Int32) (fm : Value) (a b : Nat) (cs : List Int32) (j cj : Int32)  (h0 : Heap) (O : Ext Z.heap h0) (G : SEnv Z cc fm) (S0 : SL Z h0 a b cs) (hj : ¬ j < 0) (hjn : j < cs.length.toInt32) (hcj : cs[j.toNatClampNeg]? = some cj) :
    Con l Z consts_1 n_10 jdk_43_method_2_code 2 (Option.some Jvm.ClassFile.FieldType.char) ({ frames := 2, cells := 0, slots := 0, locals := 27 } : Room) #[(.ref b), (.int j)] h0 [] (pureQ (some (.int cj)) h0) := by
 refine Con.of (a0 := a0) #[.val (.ref b), .val (.int j)] (plainFor_of_name pn_3) hE O all0 (fun m => by first | (simp [entryFrame, mkF, argsToLocals, Value.category]; done) | rfl) ?_
 intro p e s m below meth c T0 hx hby hml hnm hret hlk hh W0
 obtain ⟨E_a, FC_a, FV_a, V_b, L_a⟩ := id S0
 have hlen : cs.length < 2 ^ 31 := by have := V_b.len; simpa using this
 refine g_iloadN (pc' := 1) W0.here hx (hb hby dc117) rfl rfl ?_
 refine g_aloadN (pc' := 2) W0.here hx (hb hby dc118) rfl rfl rfl ?_
 refine w_len (pc' := 3) W0 hx V_b (hb hby dc119) rfl ?_
 refine g_name (w := .int cs.length.toInt32) (congrArg Value.int (by rw [List.length_map])) ?_
 refine w_callSp (pc' := 6) (st := []) (y := n_9) W0 hx [(.int j), (.int cs.length.toInt32)] (M_ hw w_190) (M_ hw w_191) (M_ hw w_14) (M_ hw w_192) (by decide) (c_chk2 l Z a0 hw hE cc fm j cs.length.toInt32 h0 W0.old G hj hjn) (by rw [hml]; rfl) (lenOf pd_6 rfl) rfl (hb hby dc120) (B_ rfl) (B_ rfl) rfl rfl (B_ rfl) (B_ rfl) rfl fun T46 W46 => ?_
 refine g_aloadN (pc' := 7) W46.here hx (hb hby dc121) rfl rfl rfl ?_
 refine g_iloadN (pc' := 8) W46.here hx (hb hby dc122) rfl rfl ?_
 refine w_baload (pc' := 9) (v := (.int cj.toInt8.toInt32)) W46 hx V_b hj (by rw [List.getElem?_map, hcj]; rfl) (hb hby dc123) rfl ?_
 refine g_sipush (255 : Int32) (pc' := 12) W46.here hx (hb hby dc124) rfl rfl ?_
 refine g_iand (pc' := 13) W46.here hx (hb hby dc125) rfl ?_
 refine g_i2c (pc' := 14) W46.here hx (hb hby dc126) rfl ?_
 refine w_retN (t := .char) W46 hx hh hlk hret (by simp) (hb hby dc127) (B_ rfl) (B_ rfl) ?_
 exact ⟨congrArg (fun z => some (Value.int z)) (own_back cj (L_a cj (List.mem_of_getElem? hcj))), rfl⟩
set_option maxRecDepth 65536 in
set_option maxHeartbeats 40000000 in
theorem c_charAt (l : Launch) (Z : State) (a0 : Array Value) (hw : ∀ d ∈ tables_1, d.before a0 Z = true) (hE : EW Z a0 consts_1) (cc : Int32) (fm : Value) (a b : Nat) (cs : List Int32) (j cj : Int32)  (h0 : Heap) (O : Ext Z.heap h0) (G : SEnv Z cc fm) (S0 : SL Z h0 a b cs) (hj : ¬ j < 0) (hjn : j < cs.length.toInt32) (hcj : cs[j.toNatClampNeg]? = some cj) :
    Con l Z consts_1 n_11 jdk_42_method_56_code 2 (Option.some Jvm.ClassFile.FieldType.char) ({ frames := 3, cells := 0, slots := 0, locals := 40 } : Room) #[(.ref a), (.int j)] h0 [] (pureQ (some (.int cj)) h0) := by
 refine Con.of (a0 := a0) #[.val (.ref a), .val (.int j)] (plainFor_of_name pn_1) hE O all0 (fun m => by first | (simp [entryFrame, mkF, argsToLocals, Value.category]; done) | rfl) ?_
 intro p e s m below meth c T0 hx hby hml hnm hret hlk hh W0
 obtain ⟨E_a, FC_a, FV_a, V_b, L_a⟩ := id S0
 have hlen : cs.length < 2 ^ 31 := by have := V_b.len; simpa using this
 refine g_aloadN (pc' := 1) W0.here hx (hb hby dc128) rfl rfl rfl ?_
 refine w_virtualp (pc' := 4) (st := []) (y := n_7) (z := n_7) (a := a) W0 hx [] (M_ hw w_182) (M_ hw w_183) (nfS (z := n_7) (M_ hw w_185)) (M_ hw w_185) (M_ hw w_184) (M_ hw w_14) (M_ hw w_186) (by decide) (c_isLat l Z a0 hw hE cc fm a b cs h0 W0.old G S0) E_a (by rw [hml]; rfl) (lenOf pd_7 rfl) rfl (hb hby dc129) (B_ rfl) (B_ rfl) rfl rfl (B_ rfl) (B_ rfl) rfl fun T47 W47 => ?_
 refine g_ifN (pc' := 7) W47.here hx (hb hby dc130) rfl (feq (show ¬ ((1 : Int32) = (0 : Int32)) from (by decide))).1 ?_
 refine g_aloadN (pc' := 8) W47.here hx (hb hby dc131) rfl rfl rfl ?_
 refine w_get (pc' := 11) W47 hx (M_ hw w_31) Via.refl FV_a (hb hby dc132) rfl fun T48 W48 => ?_
 refine g_iloadN (pc' := 12) W48.here hx (hb hby dc133) rfl rfl ?_
 refine w_callSp (pc' := 15) (st := []) (y := n_10) W48 hx [(.ref b), (.int j)] (M_ hw w_187) (M_ hw w_188) (M_ hw w_162) (M_ hw w_189) (by decide) (c_l1at l Z a0 hw hE cc fm a b cs j cj h0 W48.old G S0 hj hjn hcj) (by rw [hml]; rfl) (lenOf pd_8 rfl) rfl (hb hby dc134) (B_ rfl) (B_ rfl) rfl rfl (B_ rfl) (B_ rfl) rfl fun T49 W49 => ?_
 refine w_retN (t := .char) W49 hx hh hlk hret (by simp) (hb hby dc135) (B_ rfl) (B_ rfl) ?_
 exact ⟨congrArg (fun z => some (Value.int z)) (own_nchar (by have := L_a cj (List.mem_of_getElem? hcj); omega)), rfl⟩
theorem own_binj {c d : Int32} (hc : 0 ≤ c.toInt ∧ c.toInt ≤ 255) (hd : 0 ≤ d.toInt ∧ d.toInt ≤ 255) : c.toInt8.toInt32 = d.toInt8.toInt32 ↔ c = d := by
  constructor
  · intro q
    have q1 := (c_i2b c).1
    have q2 := (c_i2b d).1
    rw [q] at q1
    apply Int32.toInt_inj.mp; omega
  · intro q; rw [q]
theorem own_n32 {n k : Nat} (hn : n < 2 ^ 31) (hk : k < 2 ^ 31) : n.toInt32 = k.toInt32 ↔ n = k := by
  constructor
  · intro q
    have := congrArg Int32.toInt q
    rw [own_toInt hn, own_toInt hk] at this; omega
  · intro q; rw [q]
theorem own_ext1 {xs ys : List Int32} {i : Nat} (H : ∀ j, j < i → xs[j]? = ys[j]?) (e : xs[i]? = ys[i]?) : ∀ j, j < i + 1 → xs[j]? = ys[j]? := fun j hj => by
  rcases Nat.lt_or_ge j i with q | q
  · exact H j q
  · have e1 : j = i := by omega
    subst e1; exact e
theorem own_lext {xs ys : List Int32} (hl : xs.length = ys.length) (h : ∀ j, j < xs.length → xs[j]? = ys[j]?) : xs = ys := by
  apply List.ext_getElem?
  intro j
  by_cases q : j < xs.length
  · exact h j q
  · rw [List.getElem?_eq_none (by omega), List.getElem?_eq_none (by omega)]
set_option maxRecDepth 65536 in
set_option maxHeartbeats 40000000 in
theorem c_l1eq (l : Launch) (Z : State) (a0 : Array Value) (hw : ∀ d ∈ tables_1, d.before a0 Z = true) (hE : EW Z a0 consts_1) (cc : Int32) (fm : Value) (a b : Nat) (cs : List Int32) (a2 b2 : Nat) (cs2 : List Int32)  (h0 : Heap) (O : Ext Z.heap h0) (G : SEnv Z cc fm) (S0 : SL Z h0 a b cs) (S2 : SL Z h0 a2 b2 cs2)  :
    Con l Z consts_1 n_12 jdk_43_method_13_code 3 (Option.some Jvm.ClassFile.FieldType.boolean) ({ frames := 0, cells := 0, slots := 0, locals := 0 } : Room) #[(.ref b), (.ref b2)] h0 [] (pureQ (some (.int (if cs = cs2 then 1 else 0))) h0) := by
 refine Con.of (a0 := a0) #[.val (.ref b), .val (.ref b2), .unset] (plainFor_of_name pn_3) hE O all0 (fun m => by first | (simp [entryFrame, mkF, argsToLocals, Value.category]; done) | rfl) ?_
 intro p e s m below meth c T0 hx hby hml hnm hret hlk hh W0
 obtain ⟨E_a, FC_a, FV_a, V_b, L_a⟩ := id S0
 have hlen : cs.length < 2 ^ 31 := by have := V_b.len; simpa using this
 obtain ⟨E_a2, FC_a2, FV_a2, V_b2, L_a2⟩ := id S2
 have hlen2 : cs2.length < 2 ^ 31 := by have := V_b2.len; simpa using this
 refine g_aloadN (pc' := 1) W0.here hx (hb hby dc136) rfl rfl rfl ?_
 refine w_len (pc' := 2) W0 hx V_b (hb hby dc137) rfl ?_
 refine g_name (w := .int cs.length.toInt32) (congrArg Value.int (by rw [List.length_map])) ?_
 refine g_aloadN (pc' := 3) W0.here hx (hb hby dc138) rfl rfl rfl ?_
 refine w_len (pc' := 4) W0 hx V_b2 (hb hby dc139) rfl ?_
 refine g_name (w := .int cs2.length.toInt32) (congrArg Value.int (by rw [List.length_map])) ?_
 by_cases hc4_50 : cs.length.toInt32 = cs2.length.toInt32
 ·
  refine g_icmpN (pc' := 7) W0.here hx (hb hby dc140) rfl (teq hc4_50).2 ?_
  have hll : cs.length = cs2.length := (own_n32 hlen hlen2).mp hc4_50
  refine g_iconst (0 : Int32) (pc' := 8) W0.here hx (hb hby dc141) rfl rfl ?_
  refine g_istoreN (pc' := 9) (Ls' := #[.val (.ref b), .val (.ref b2), .val (.int 0)]) W0.here hx (hb hby dc142) rfl rfl ?_
  have LOOP : ∀ (k i : Nat), i + k = cs.length → ∀ (TL : State), Wk p l e ({ frames := 0, cells := 0, slots := 0, locals := 0 } : Room) s m #[(.ref b), (.ref b2)] below meth c Z consts_1 "java/lang/StringLatin1" [] [] TL h0 0 0 → (∀ j, j < i → cs[j]? = cs2[j]?) → Gets p.tables e below (Post s Z consts_1 ({ frames := 0, cells := 0, slots := 0, locals := 0 } : Room) h0 [] (pureQ (some (.int (if cs = cs2 then 1 else 0))) h0)) TL (mkF m 9 #[.val (.ref b), .val (.ref b2), .val (.int i.toInt32)] []) := by
   intro k
   induction k with
   | zero =>
    intro i hi TL  WL HI
    refine g_iloadN (pc' := 10) WL.here hx (hb hby dc143) rfl rfl ?_
    refine g_aloadN (pc' := 11) WL.here hx (hb hby dc144) rfl rfl rfl ?_
    refine w_len (pc' := 12) WL hx V_b (hb hby dc145) rfl ?_
    refine g_name (w := .int cs.length.toInt32) (congrArg Value.int (by rw [List.length_map])) ?_
    refine g_icmpY (pc' := 32) WL.here hx (hb hby dc146) rfl (flt (show ¬ (i.toInt32 < cs.length.toInt32) from (own_nltn (by omega) (by omega)))).2.1 ?_
    refine g_iconst (1 : Int32) (pc' := 33) WL.here hx (hb hby dc147) rfl rfl ?_
    refine w_retN (t := .boolean) WL hx hh hlk hret (by simp) (hb hby dc148) (B_ rfl) (B_ rfl) ?_
    exact ⟨by rw [if_pos (own_lext hll (fun j hj => HI j (by omega)))]; rfl, rfl⟩
   | succ k ih =>
    intro i hi TL  WL HI
    have hi2 : i < cs.length := by omega
    obtain ⟨ci, hci⟩ : ∃ ci, cs[i]? = some ci := ⟨_, List.getElem?_eq_getElem hi2⟩
    obtain ⟨di, hdi⟩ : ∃ di, cs2[i]? = some di := ⟨_, List.getElem?_eq_getElem (by omega)⟩
    refine g_iloadN (pc' := 10) WL.here hx (hb hby dc143) rfl rfl ?_
    refine g_aloadN (pc' := 11) WL.here hx (hb hby dc144) rfl rfl rfl ?_
    refine w_len (pc' := 12) WL hx V_b (hb hby dc145) rfl ?_
    refine g_name (w := .int cs.length.toInt32) (congrArg Value.int (by rw [List.length_map])) ?_
    refine g_icmpN (pc' := 15) WL.here hx (hb hby dc146) rfl (tlt (show i.toInt32 < cs.length.toInt32 from (own_ltn hi2 hlen))).2.1 ?_
    refine g_aloadN (pc' := 16) WL.here hx (hb hby dc149) rfl rfl rfl ?_
    refine g_iloadN (pc' := 17) WL.here hx (hb hby dc150) rfl rfl ?_
    refine w_baload (pc' := 18) (v := (.int ci.toInt8.toInt32)) WL hx V_b (own_nneg (by omega)) (by rw [i32_nat (by omega), List.getElem?_map, hci]; rfl) (hb hby dc151) rfl ?_
    refine g_aloadN (pc' := 19) WL.here hx (hb hby dc152) rfl rfl rfl ?_
    refine g_iloadN (pc' := 20) WL.here hx (hb hby dc153) rfl rfl ?_
    refine w_baload (pc' := 21) (v := (.int di.toInt8.toInt32)) WL hx V_b2 (own_nneg (by omega)) (by rw [i32_nat (by omega), List.getElem?_map, hdi]; rfl) (hb hby dc154) rfl ?_
    by_cases hc21_51 : ci.toInt8.toInt32 = di.toInt8.toInt32
    ·
     refine g_icmpY (pc' := 26) WL.here hx (hb hby dc155) rfl (teq hc21_51).1 ?_
     refine g_iincV (i + 1).toInt32 (pc' := 29) (Ls' := #[.val (.ref b), .val (.ref b2), .val (.int (i + 1).toInt32)]) WL.here hx (hb hby dc156) (own_succ i) rfl rfl rfl ?_
     refine g_goto (pc' := 9) WL.here hx (hb hby dc157) rfl ?_
     exact ih (i + 1) (by omega) _  WL (own_ext1 HI (by rw [hci, hdi]; exact congrArg some ((own_binj (L_a ci (List.mem_of_getElem? hci)) (L_a2 di (List.mem_of_getElem? hdi))).mp hc21_51)))
    ·
     refine g_icmpN (pc' := 24) WL.here hx (hb hby dc155) rfl (feq hc21_51).1 ?_
     refine g_iconst (0 : Int32) (pc' := 25) WL.here hx (hb hby dc158) rfl rfl ?_
     refine w_retN (t := .boolean) WL hx hh hlk hret (by simp) (hb hby dc159) (B_ rfl) (B_ rfl) ?_
     exact ⟨by rw [if_neg (fun q => by subst q; rw [hci] at hdi; cases hdi; exact hc21_51 rfl)]; rfl, rfl⟩
  exact LOOP cs.length 0 (by omega) _  W0 (fun j hj => absurd hj (Nat.not_lt_zero j))
 ·
  refine g_icmpY (pc' := 34) W0.here hx (hb hby dc140) rfl (feq hc4_50).2 ?_
  refine g_iconst (0 : Int32) (pc' := 35) W0.here hx (hb hby dc160) rfl rfl ?_
  refine w_retN (t := .boolean) W0 hx hh hlk hret (by simp) (hb hby dc161) (B_ rfl) (B_ rfl) ?_
  exact ⟨by rw [if_neg (fun q => hc4_50 (by rw [q]))]; rfl, rfl⟩
set_option maxRecDepth 65536 in
set_option maxHeartbeats 40000000 in
theorem c_equals (l : Launch) (Z : State) (a0 : Array Value) (hw : ∀ d ∈ tables_1, d.before a0 Z = true) (hE : EW Z a0 consts_1) (cc : Int32) (fm : Value) (a b : Nat) (cs : List Int32) (a2 b2 : Nat) (cs2 : List Int32)  (h0 : Heap) (O : Ext Z.heap h0) (G : SEnv Z cc fm) (S0 : SL Z h0 a b cs) (S2 : SL Z h0 a2 b2 cs2) (hne : a ≠ a2)  :
    Con l Z consts_1 n_13 jdk_42_method_66_code 3 (Option.some Jvm.ClassFile.FieldType.boolean) ({ frames := 1, cells := 0, slots := 0, locals := 14 } : Room) #[(.ref a), (.ref a2)] h0 [] (pureQ (some (.int (if cs = cs2 then 1 else 0))) h0) := by
 refine Con.of (a0 := a0) #[.val (.ref a), .val (.ref a2), .unset] (plainFor_of_name pn_1) hE O all0 (fun m => by first | (simp [entryFrame, mkF, argsToLocals, Value.category]; done) | rfl) ?_
 intro p e s m below meth c T0 hx hby hml hnm hret hlk hh W0
 obtain ⟨E_a, FC_a, FV_a, V_b, L_a⟩ := id S0
 have hlen : cs.length < 2 ^ 31 := by have := V_b.len; simpa using this
 obtain ⟨E_a2, FC_a2, FV_a2, V_b2, L_a2⟩ := id S2
 have hlen2 : cs2.length < 2 ^ 31 := by have := V_b2.len; simpa using this
 refine g_aloadN (pc' := 1) W0.here hx (hb hby dc162) rfl rfl rfl ?_
 refine g_aloadN (pc' := 2) W0.here hx (hb hby dc163) rfl rfl rfl ?_
 refine w_acmp (pc' := 7) W0 hx rfl rfl false (hb hby dc164) (decide_eq_false fun q => hne (Value.ref.inj q)) (by decide) (by decide) ?_
 refine g_aloadN (pc' := 8) W0.here hx (hb hby dc165) rfl rfl rfl ?_
 refine w_inst (pc' := 11) W0 hx (M_ hw w_159) (Ins.self E_a2) (hb hby dc166) rfl fun T52 W52 => ?_
 refine g_ifN (pc' := 14) W52.here hx (hb hby dc167) rfl (feq (show ¬ ((1 : Int32) = (0 : Int32)) from (by decide))).1 ?_
 refine g_aloadN (pc' := 15) W52.here hx (hb hby dc168) rfl rfl rfl ?_
 refine w_cast (pc' := 18) W52 hx (M_ hw w_159) (Ins.self E_a2) (hb hby dc169) rfl fun T53 W53 => ?_
 refine g_astoreN (pc' := 19) (Ls' := #[.val (.ref a), .val (.ref a2), .val (.ref a2)]) W53.here hx (hb hby dc170) rfl rfl rfl ?_
 refine w_getS (pc' := 22) W53 hx (M_ hw w_71) Via.refl G.1 (hb hby dc171) rfl fun T54 W54 => ?_
 refine g_ifN (pc' := 25) W54.here hx (hb hby dc172) rfl (feq (show ¬ (cc = (0 : Int32)) from G.2.1)).1 ?_
 refine g_aloadN (pc' := 26) W54.here hx (hb hby dc173) rfl rfl rfl ?_
 refine w_get (pc' := 29) W54 hx (M_ hw w_32) Via.refl FC_a (hb hby dc174) rfl fun T55 W55 => ?_
 refine g_aloadN (pc' := 30) W55.here hx (hb hby dc175) rfl rfl rfl ?_
 refine w_get (pc' := 33) W55 hx (M_ hw w_32) Via.refl FC_a2 (hb hby dc176) rfl fun T56 W56 => ?_
 refine g_icmpN (pc' := 36) W56.here hx (hb hby dc177) rfl (teq (show (0 : Int32) = (0 : Int32) from (by decide))).2 ?_
 refine g_aloadN (pc' := 37) W56.here hx (hb hby dc178) rfl rfl rfl ?_
 refine w_get (pc' := 40) W56 hx (M_ hw w_31) Via.refl FV_a (hb hby dc179) rfl fun T57 W57 => ?_
 refine g_aloadN (pc' := 41) W57.here hx (hb hby dc180) rfl rfl rfl ?_
 refine w_get (pc' := 44) W57 hx (M_ hw w_31) Via.refl FV_a2 (hb hby dc181) rfl fun T58 W58 => ?_
 refine w_callSp (pc' := 47) (st := []) (y := n_12) W58 hx [(.ref b), (.ref b2)] (M_ hw w_160) (M_ hw w_161) (M_ hw w_162) (M_ hw w_163) (by decide) (c_l1eq l Z a0 hw hE cc fm a b cs a2 b2 cs2 h0 W58.old G S0 S2) (by rw [hml]; rfl) (lenOf pd_9 rfl) rfl (hb hby dc182) (B_ rfl) (B_ rfl) rfl rfl (B_ rfl) (B_ rfl) rfl fun T59 W59 => ?_
 by_cases hcs : cs = cs2
 ·
  refine g_ifN (pc' := 50) W59.here hx (hb hby dc183) rfl (feq (show ¬ ((if cs = cs2 then (1 : Int32) else 0) = (0 : Int32)) from (by rw [if_pos hcs]; decide))).1 ?_
  refine g_iconst (1 : Int32) (pc' := 51) W59.here hx (hb hby dc184) rfl rfl ?_
  refine g_goto (pc' := 55) W59.here hx (hb hby dc185) rfl ?_
  refine w_retN (t := .boolean) W59 hx hh hlk hret (by simp) (hb hby dc186) (B_ rfl) (B_ rfl) ?_
  exact ⟨by rw [if_pos hcs]; rfl, rfl⟩
 ·
  refine g_ifY (pc' := 54) W59.here hx (hb hby dc183) rfl (teq (show (if cs = cs2 then (1 : Int32) else 0) = (0 : Int32) from (by rw [if_neg hcs]))).1 ?_
  refine g_iconst (0 : Int32) (pc' := 55) W59.here hx (hb hby dc187) rfl rfl ?_
  refine w_retN (t := .boolean) W59 hx hh hlk hret (by simp) (hb hby dc186) (B_ rfl) (B_ rfl) ?_
  exact ⟨by rw [if_neg hcs]; rfl, rfl⟩
theorem own_byte (x : Int32) : 0 ≤ ((x &&& (255 : Int32)).toUInt32.toUInt16.toUInt32.toInt32).toInt ∧ ((x &&& (255 : Int32)).toUInt32.toUInt16.toUInt32.toInt32).toInt ≤ 255 := by
  rw [i2c_mask, c_mask x 255 8 (by decide) (by decide)]
  omega
theorem own_c16 {c : Int32} (h : 0 ≤ c.toInt ∧ c.toInt ≤ 255) : 0 ≤ c.toInt ∧ c.toInt < 65536 := by omega
/-- one char read: (in quotes, escaped, a split) -/
def stq (q e : Bool) (c : Int32) : Bool × Bool × Bool := if e then (q, false, false) else if q ∧ c = 92 then (q, true, false) else if c = 34 then (!q, false, false) else if c = 44 ∧ ¬ q then (q, false, true) else (q, false, false)
def spl : Bool → Bool → List Int32 → List Int32 → List (List Int32)
  | _, _, cur, [] => [cur]
  | q, e, cur, c :: t => if (stq q e c).2.2 then cur :: spl (stq q e c).1 (stq q e c).2.1 [] t else spl (stq q e c).1 (stq q e c).2.1 (cur ++ [c]) t
def goodL (es : List Int32) : Prop := spl false false [] es = [es]
def goodN (es : List Int32) : Prop := ∀ t, spl false false [] (es ++ 44 :: t) = es :: spl false false [] t
abbrev pl (c : Int32) : Prop := (0 ≤ c.toInt ∧ c.toInt ≤ 255) ∧ ¬ c = 44 ∧ ¬ c = 34
abbrev inn (c : Int32) : Prop := (0 ≤ c.toInt ∧ c.toInt ≤ 255) ∧ ¬ c = 34 ∧ ¬ c = 92
abbrev opn (c : Int32) : Prop := (0 ≤ c.toInt ∧ c.toInt ≤ 255) ∧ ¬ c = 34
set_option maxRecDepth 65536 in
set_option maxHeartbeats 40000000 in
theorem c_plain (l : Launch) (Z : State) (a0 : Array Value) (hw : ∀ d ∈ tables_1, d.before a0 Z = true) (hE : EW Z a0 consts_1) (xb : Int32) (h0 : Heap) (O : Ext Z.heap h0)  :
    Con l Z consts_1 n_14 method_3_code 2 (Option.some Jvm.ClassFile.FieldType.char) ({ frames := 0, cells := 0, slots := 0, locals := 0 } : Room) #[(.int xb)] h0 [] (fun v _ => ∃ c : Int32, v = some (.int c) ∧ pl c) := by
 refine Con.of (a0 := a0) #[.val (.int xb), .unset] (plainFor_of_name pn_4) hE O all0 (fun m => by first | (simp [entryFrame, mkF, argsToLocals, Value.category]; done) | rfl) ?_
 intro p e s m below meth c T0 hx hby hml hnm hret hlk hh W0
 refine g_iloadN (pc' := 1) W0.here hx (hb hby dc188) rfl rfl ?_
 refine g_sipush (255 : Int32) (pc' := 4) W0.here hx (hb hby dc189) rfl rfl ?_
 refine g_iand (pc' := 5) W0.here hx (hb hby dc190) rfl ?_
 refine g_i2c (pc' := 6) W0.here hx (hb hby dc191) rfl ?_
 obtain ⟨xk, hxk⟩ : ∃ zz_ : Int32, zz_ = ((xb &&& (255 : Int32)).toUInt32.toUInt16.toUInt32.toInt32) := ⟨_, rfl⟩
 refine g_name (congrArg Value.int hxk) ?_
 have l_xk : 0 ≤ xk.toInt ∧ xk.toInt ≤ 255 := by rw [hxk]; exact own_byte _
 refine g_istoreN (pc' := 7) (Ls' := #[.val (.int xb), .val (.int xk)]) W0.here hx (hb hby dc192) rfl rfl ?_
 refine g_iloadN (pc' := 8) W0.here hx (hb hby dc193) rfl rfl ?_
 refine g_bipush (44 : Int32) (pc' := 10) W0.here hx (hb hby dc194) rfl rfl ?_
 by_cases hc10_60 : xk = (44 : Int32)
 ·
  refine g_icmpN (pc' := 13) W0.here hx (hb hby dc195) rfl (teq hc10_60).2 ?_
  refine g_bipush (45 : Int32) (pc' := 15) W0.here hx (hb hby dc196) rfl rfl ?_
  refine w_retN (t := .char) W0 hx hh hlk hret (by simp) (hb hby dc197) (B_ rfl) (B_ rfl) ?_
  exact ⟨_, rfl, by decide⟩
 ·
  refine g_icmpY (pc' := 16) W0.here hx (hb hby dc195) rfl (feq hc10_60).2 ?_
  refine g_iloadN (pc' := 17) W0.here hx (hb hby dc198) rfl rfl ?_
  refine g_bipush (34 : Int32) (pc' := 19) W0.here hx (hb hby dc199) rfl rfl ?_
  by_cases hc19_61 : xk = (34 : Int32)
  ·
   refine g_icmpN (pc' := 22) W0.here hx (hb hby dc200) rfl (teq hc19_61).2 ?_
   refine g_bipush (35 : Int32) (pc' := 24) W0.here hx (hb hby dc201) rfl rfl ?_
   refine w_retN (t := .char) W0 hx hh hlk hret (by simp) (hb hby dc202) (B_ rfl) (B_ rfl) ?_
   exact ⟨_, rfl, by decide⟩
  ·
   refine g_icmpY (pc' := 25) W0.here hx (hb hby dc200) rfl (feq hc19_61).2 ?_
   refine g_iloadN (pc' := 26) W0.here hx (hb hby dc203) rfl rfl ?_
   refine w_retN (t := .char) W0 hx hh hlk hret (by simp) (hb hby dc204) (B_ rfl) (B_ rfl) ?_
   exact ⟨xk, congrArg (fun z => some (Value.int z)) (own_nchar (own_c16 l_xk)), l_xk, hc10_60, hc19_61⟩
set_option maxRecDepth 65536 in
set_option maxHeartbeats 40000000 in
theorem c_inner (l : Launch) (Z : State) (a0 : Array Value) (hw : ∀ d ∈ tables_1, d.before a0 Z = true) (hE : EW Z a0 consts_1) (xb : Int32) (h0 : Heap) (O : Ext Z.heap h0)  :
    Con l Z consts_1 n_15 method_4_code 2 (Option.some Jvm.ClassFile.FieldType.char) ({ frames := 0, cells := 0, slots := 0, locals := 0 } : Room) #[(.int xb)] h0 [] (fun v _ => ∃ c : Int32, v = some (.int c) ∧ inn c) := by
 refine Con.of (a0 := a0) #[.val (.int xb), .unset] (plainFor_of_name pn_4) hE O all0 (fun m => by first | (simp [entryFrame, mkF, argsToLocals, Value.category]; done) | rfl) ?_
 intro p e s m below meth c T0 hx hby hml hnm hret hlk hh W0
 refine g_iloadN (pc' := 1) W0.here hx (hb hby dc205) rfl rfl ?_
 refine g_sipush (255 : Int32) (pc' := 4) W0.here hx (hb hby dc206) rfl rfl ?_
 refine g_iand (pc' := 5) W0.here hx (hb hby dc207) rfl ?_
 refine g_i2c (pc' := 6) W0.here hx (hb hby dc208) rfl ?_
 obtain ⟨xk, hxk⟩ : ∃ zz_ : Int32, zz_ = ((xb &&& (255 : Int32)).toUInt32.toUInt16.toUInt32.toInt32) := ⟨_, rfl⟩
 refine g_name (congrArg Value.int hxk) ?_
 have l_xk : 0 ≤ xk.toInt ∧ xk.toInt ≤ 255 := by rw [hxk]; exact own_byte _
 refine g_istoreN (pc' := 7) (Ls' := #[.val (.int xb), .val (.int xk)]) W0.here hx (hb hby dc209) rfl rfl ?_
 refine g_iloadN (pc' := 8) W0.here hx (hb hby dc210) rfl rfl ?_
 refine g_bipush (34 : Int32) (pc' := 10) W0.here hx (hb hby dc211) rfl rfl ?_
 by_cases hc10_62 : xk = (34 : Int32)
 ·
  refine g_icmpN (pc' := 13) W0.here hx (hb hby dc212) rfl (teq hc10_62).2 ?_
  refine g_bipush (35 : Int32) (pc' := 15) W0.here hx (hb hby dc213) rfl rfl ?_
  refine w_retN (t := .char) W0 hx hh hlk hret (by simp) (hb hby dc214) (B_ rfl) (B_ rfl) ?_
  exact ⟨_, rfl, by decide⟩
 ·
  refine g_icmpY (pc' := 16) W0.here hx (hb hby dc212) rfl (feq hc10_62).2 ?_
  refine g_iloadN (pc' := 17) W0.here hx (hb hby dc215) rfl rfl ?_
  refine g_bipush (92 : Int32) (pc' := 19) W0.here hx (hb hby dc216) rfl rfl ?_
  by_cases hc19_63 : xk = (92 : Int32)
  ·
   refine g_icmpN (pc' := 22) W0.here hx (hb hby dc217) rfl (teq hc19_63).2 ?_
   refine g_bipush (93 : Int32) (pc' := 24) W0.here hx (hb hby dc218) rfl rfl ?_
   refine w_retN (t := .char) W0 hx hh hlk hret (by simp) (hb hby dc219) (B_ rfl) (B_ rfl) ?_
   exact ⟨_, rfl, by decide⟩
  ·
   refine g_icmpY (pc' := 25) W0.here hx (hb hby dc217) rfl (feq hc19_63).2 ?_
   refine g_iloadN (pc' := 26) W0.here hx (hb hby dc220) rfl rfl ?_
   refine w_retN (t := .char) W0 hx hh hlk hret (by simp) (hb hby dc221) (B_ rfl) (B_ rfl) ?_
   exact ⟨xk, congrArg (fun z => some (Value.int z)) (own_nchar (own_c16 l_xk)), l_xk, hc10_62, hc19_63⟩
set_option maxRecDepth 65536 in
set_option maxHeartbeats 40000000 in
theorem c_open (l : Launch) (Z : State) (a0 : Array Value) (hw : ∀ d ∈ tables_1, d.before a0 Z = true) (hE : EW Z a0 consts_1) (xb : Int32) (h0 : Heap) (O : Ext Z.heap h0)  :
    Con l Z consts_1 n_16 method_5_code 2 (Option.some Jvm.ClassFile.FieldType.char) ({ frames := 0, cells := 0, slots := 0, locals := 0 } : Room) #[(.int xb)] h0 [] (fun v _ => ∃ c : Int32, v = some (.int c) ∧ opn c) := by
 refine Con.of (a0 := a0) #[.val (.int xb), .unset] (plainFor_of_name pn_4) hE O all0 (fun m => by first | (simp [entryFrame, mkF, argsToLocals, Value.category]; done) | rfl) ?_
 intro p e s m below meth c T0 hx hby hml hnm hret hlk hh W0
 refine g_iloadN (pc' := 1) W0.here hx (hb hby dc222) rfl rfl ?_
 refine g_sipush (255 : Int32) (pc' := 4) W0.here hx (hb hby dc223) rfl rfl ?_
 refine g_iand (pc' := 5) W0.here hx (hb hby dc224) rfl ?_
 refine g_i2c (pc' := 6) W0.here hx (hb hby dc225) rfl ?_
 obtain ⟨xk, hxk⟩ : ∃ zz_ : Int32, zz_ = ((xb &&& (255 : Int32)).toUInt32.toUInt16.toUInt32.toInt32) := ⟨_, rfl⟩
 refine g_name (congrArg Value.int hxk) ?_
 have l_xk : 0 ≤ xk.toInt ∧ xk.toInt ≤ 255 := by rw [hxk]; exact own_byte _
 refine g_istoreN (pc' := 7) (Ls' := #[.val (.int xb), .val (.int xk)]) W0.here hx (hb hby dc226) rfl rfl ?_
 refine g_iloadN (pc' := 8) W0.here hx (hb hby dc227) rfl rfl ?_
 refine g_bipush (34 : Int32) (pc' := 10) W0.here hx (hb hby dc228) rfl rfl ?_
 by_cases hc10_64 : xk = (34 : Int32)
 ·
  refine g_icmpN (pc' := 13) W0.here hx (hb hby dc229) rfl (teq hc10_64).2 ?_
  refine g_bipush (35 : Int32) (pc' := 15) W0.here hx (hb hby dc230) rfl rfl ?_
  refine w_retN (t := .char) W0 hx hh hlk hret (by simp) (hb hby dc231) (B_ rfl) (B_ rfl) ?_
  exact ⟨_, rfl, by decide⟩
 ·
  refine g_icmpY (pc' := 16) W0.here hx (hb hby dc229) rfl (feq hc10_64).2 ?_
  refine g_iloadN (pc' := 17) W0.here hx (hb hby dc232) rfl rfl ?_
  refine w_retN (t := .char) W0 hx hh hlk hret (by simp) (hb hby dc233) (B_ rfl) (B_ rfl) ?_
  exact ⟨xk, congrArg (fun z => some (Value.int z)) (own_nchar (own_c16 l_xk)), l_xk, hc10_64⟩
theorem own_gl1 {y0 y1 y2 y3 : Int32} (hy0 : pl y0) (hy1 : pl y1) (hy2 : pl y2) (hy3 : pl y3) : goodL [y0, y1, y2, y3] := by
  unfold goodL
  simp [spl, stq, hy0.2.1, hy0.2.2, hy1.2.1, hy1.2.2, hy2.2.1, hy2.2.2, hy3.2.1, hy3.2.2]
theorem own_gn1 {y0 y1 y2 y3 : Int32} (hy0 : pl y0) (hy1 : pl y1) (hy2 : pl y2) (hy3 : pl y3) : goodN [y0, y1, y2, y3] := by
  intro t
  simp [spl, stq, hy0.2.1, hy0.2.2, hy1.2.1, hy1.2.2, hy2.2.1, hy2.2.2, hy3.2.1, hy3.2.2]
theorem own_gl2 {y2 : Int32} : goodL [34, 92, y2, 34] := by
  unfold goodL
  simp [spl, stq]
theorem own_gn2 {y2 : Int32} : goodN [34, 92, y2, 34] := by
  intro t
  simp [spl, stq]
theorem own_gl3 {y1 y2 : Int32} (hy1 : inn y1) (hy2 : inn y2) : goodL [34, y1, y2, 34] := by
  unfold goodL
  simp [spl, stq, hy1.2.1, hy1.2.2, hy2.2.1, hy2.2.2]
theorem own_gn3 {y1 y2 : Int32} (hy1 : inn y1) (hy2 : inn y2) : goodN [34, y1, y2, 34] := by
  intro t
  simp [spl, stq, hy1.2.1, hy1.2.2, hy2.2.1, hy2.2.2]
theorem own_gl4 {y0 y2 : Int32} (hy0 : pl y0) (hy2 : inn y2) : goodL [y0, 34, y2, 34] := by
  unfold goodL
  simp [spl, stq, hy0.2.1, hy0.2.2, hy2.2.1, hy2.2.2]
theorem own_gn4 {y0 y2 : Int32} (hy0 : pl y0) (hy2 : inn y2) : goodN [y0, 34, y2, 34] := by
  intro t
  simp [spl, stq, hy0.2.1, hy0.2.2, hy2.2.1, hy2.2.2]
theorem own_gl5 {y1 y3 : Int32} (hy1 : inn y1) (hy3 : pl y3) : goodL [34, y1, 34, y3] := by
  unfold goodL
  simp [spl, stq, hy1.2.1, hy1.2.2, hy3.2.1, hy3.2.2]
theorem own_gn5 {y1 y3 : Int32} (hy1 : inn y1) (hy3 : pl y3) : goodN [34, y1, 34, y3] := by
  intro t
  simp [spl, stq, hy1.2.1, hy1.2.2, hy3.2.1, hy3.2.2]
theorem own_gl6 {y2 y3 : Int32} (hy2 : pl y2) (hy3 : pl y3) : goodL [34, 34, y2, y3] := by
  unfold goodL
  simp [spl, stq, hy2.2.1, hy2.2.2, hy3.2.1, hy3.2.2]
theorem own_gn6 {y2 y3 : Int32} (hy2 : pl y2) (hy3 : pl y3) : goodN [34, 34, y2, y3] := by
  intro t
  simp [spl, stq, hy2.2.1, hy2.2.2, hy3.2.1, hy3.2.2]
theorem own_gl7 {y1 y2 y3 : Int32} (hy1 : opn y1) (hy2 : opn y2) (hy3 : opn y3) : goodL [34, y1, y2, y3] := by
  unfold goodL
  by_cases a : y1 = 92 <;> by_cases b : y2 = 92 <;> by_cases c : y3 = 92 <;> simp [spl, stq, hy1.2, hy2.2, hy3.2, *]
theorem own_gl0 : goodL [] := rfl
theorem own_gn0 : goodN [] := fun t => by simp [spl, stq]
theorem own_l255 (x : Int64) : 0 ≤ (x &&& (255 : Int64)).toInt32.toInt ∧ (x &&& (255 : Int64)).toInt32.toInt ≤ 255 := by
  have a := c_maskL x 255 8 (by decide) (by decide)
  have b := c_l2i (x &&& 255)
  have r := rng32 (x &&& 255).toInt32
  omega
theorem own_i2cb {z : Int32} (h : 0 ≤ z.toInt ∧ z.toInt ≤ 255) : z.toUInt32.toUInt16.toUInt32.toInt32 = z := by
  have q := c_i2c z
  apply Int32.toInt_inj.mp; omega
set_option maxRecDepth 65536 in
set_option maxHeartbeats 40000000 in
theorem c_elem (l : Launch) (Z : State) (a0 : Array Value) (hw : ∀ d ∈ tables_1, d.before a0 Z = true) (hE : EW Z a0 consts_1) (xs : Int32) (xl : Int64) (xz : Int32) (h0 : Heap) (O : Ext Z.heap h0)  :
    Con l Z consts_1 n_17 method_6_code 8 (Option.some (Jvm.ClassFile.FieldType.array Jvm.ClassFile.FieldType.char)) ({ frames := 1, cells := 1, slots := 4, locals := 16 } : Room) #[(.int xs), (.long xl), (.int xz)] h0 [] (fun v h => ∃ (ca : Nat) (es : List Int32), v = some (.ref ca) ∧ h0.size ≤ ca ∧ Ary Z h ca .char (es.map Value.int) ∧ (es.length = 0 ∨ es.length = 4) ∧ (∀ c ∈ es, 0 ≤ c.toInt ∧ c.toInt ≤ 255) ∧ goodL es ∧ (xz = 0 → goodN es)) := by
 refine Con.of (a0 := a0) #[.val (.int xs), .val (.long xl), .second, .val (.int xz), .unset, .unset, .unset, .unset] (plainFor_of_name pn_4) hE O all0 (fun m => by first | (simp [entryFrame, mkF, argsToLocals, Value.category]; done) | rfl) ?_
 intro p e s m below meth c T0 hx hby hml hnm hret hlk hh W0
 refine g_lloadN (pc' := 1) W0.here hx (hb hby dc234) rfl rfl ?_
 refine w_ldc2J (pc' := 4) W0 hx (M_ hw w_4) (hb hby dc235) rfl ?_
 refine g_land (pc' := 5) W0.here hx (hb hby dc236) rfl ?_
 refine g_l2i (pc' := 6) W0.here hx (hb hby dc237) rfl ?_
 obtain ⟨b0v, hb0⟩ : ∃ zz_ : Int32, zz_ = ((xl &&& (255 : Int64)).toInt32) := ⟨_, rfl⟩
 refine g_name (congrArg Value.int hb0) ?_
 have l_b0v : 0 ≤ b0v.toInt ∧ b0v.toInt ≤ 255 := by rw [hb0]; exact own_l255 _
 refine g_istore (pc' := 8) (Ls' := #[.val (.int xs), .val (.long xl), .second, .val (.int xz), .val (.int b0v), .unset, .unset, .unset]) W0.here hx (hb hby dc238) rfl rfl ?_
 refine g_lloadN (pc' := 9) W0.here hx (hb hby dc239) rfl rfl ?_
 refine g_bipush (8 : Int32) (pc' := 11) W0.here hx (hb hby dc240) rfl rfl ?_
 refine g_lushr (pc' := 12) W0.here hx (hb hby dc241) rfl ?_
 refine w_ldc2J (pc' := 15) W0 hx (M_ hw w_4) (hb hby dc242) rfl ?_
 refine g_land (pc' := 16) W0.here hx (hb hby dc243) rfl ?_
 refine g_l2i (pc' := 17) W0.here hx (hb hby dc244) rfl ?_
 obtain ⟨b1v, hb1⟩ : ∃ zz_ : Int32, zz_ = ((((xl.toUInt64 >>> ((8 : Int32) &&& 0x3f).toInt64.toUInt64).toInt64) &&& (255 : Int64)).toInt32) := ⟨_, rfl⟩
 refine g_name (congrArg Value.int hb1) ?_
 have l_b1v : 0 ≤ b1v.toInt ∧ b1v.toInt ≤ 255 := by rw [hb1]; exact own_l255 _
 refine g_istore (pc' := 19) (Ls' := #[.val (.int xs), .val (.long xl), .second, .val (.int xz), .val (.int b0v), .val (.int b1v), .unset, .unset]) W0.here hx (hb hby dc245) rfl rfl ?_
 refine g_lloadN (pc' := 20) W0.here hx (hb hby dc246) rfl rfl ?_
 refine g_bipush (16 : Int32) (pc' := 22) W0.here hx (hb hby dc247) rfl rfl ?_
 refine g_lushr (pc' := 23) W0.here hx (hb hby dc248) rfl ?_
 refine w_ldc2J (pc' := 26) W0 hx (M_ hw w_4) (hb hby dc249) rfl ?_
 refine g_land (pc' := 27) W0.here hx (hb hby dc250) rfl ?_
 refine g_l2i (pc' := 28) W0.here hx (hb hby dc251) rfl ?_
 obtain ⟨b2v, hb2⟩ : ∃ zz_ : Int32, zz_ = ((((xl.toUInt64 >>> ((16 : Int32) &&& 0x3f).toInt64.toUInt64).toInt64) &&& (255 : Int64)).toInt32) := ⟨_, rfl⟩
 refine g_name (congrArg Value.int hb2) ?_
 have l_b2v : 0 ≤ b2v.toInt ∧ b2v.toInt ≤ 255 := by rw [hb2]; exact own_l255 _
 refine g_istore (pc' := 30) (Ls' := #[.val (.int xs), .val (.long xl), .second, .val (.int xz), .val (.int b0v), .val (.int b1v), .val (.int b2v), .unset]) W0.here hx (hb hby dc252) rfl rfl ?_
 refine g_lloadN (pc' := 31) W0.here hx (hb hby dc253) rfl rfl ?_
 refine g_bipush (24 : Int32) (pc' := 33) W0.here hx (hb hby dc254) rfl rfl ?_
 refine g_lushr (pc' := 34) W0.here hx (hb hby dc255) rfl ?_
 refine w_ldc2J (pc' := 37) W0 hx (M_ hw w_4) (hb hby dc256) rfl ?_
 refine g_land (pc' := 38) W0.here hx (hb hby dc257) rfl ?_
 refine g_l2i (pc' := 39) W0.here hx (hb hby dc258) rfl ?_
 obtain ⟨b3v, hb3⟩ : ∃ zz_ : Int32, zz_ = ((((xl.toUInt64 >>> ((24 : Int32) &&& 0x3f).toInt64.toUInt64).toInt64) &&& (255 : Int64)).toInt32) := ⟨_, rfl⟩
 refine g_name (congrArg Value.int hb3) ?_
 have l_b3v : 0 ≤ b3v.toInt ∧ b3v.toInt ≤ 255 := by rw [hb3]; exact own_l255 _
 refine g_istore (pc' := 41) (Ls' := #[.val (.int xs), .val (.long xl), .second, .val (.int xz), .val (.int b0v), .val (.int b1v), .val (.int b2v), .val (.int b3v)]) W0.here hx (hb hby dc259) rfl rfl ?_
 refine g_iloadN (pc' := 42) W0.here hx (hb hby dc260) rfl rfl ?_
 refine g_iconst (1 : Int32) (pc' := 43) W0.here hx (hb hby dc261) rfl rfl ?_
 by_cases hc43_65 : xs = (1 : Int32)
 ·
  refine g_icmpN (pc' := 46) W0.here hx (hb hby dc262) rfl (teq hc43_65).2 ?_
  refine g_iconst (4 : Int32) (pc' := 47) W0.here hx (hb hby dc263) rfl rfl ?_
  refine w_newarr (pc' := 49) (cap := 4) W0 hx (M_ hw w_5) (hb hby dc264) (by decide) (Nat.le_refl _) (B_ rfl) (B_ rfl) (B_ rfl) rfl rfl fun T66 h66 b66 g66 W66 K66 V66 => ?_
  have z_K66 : h0.size ≤ h66.size := K66.1
  have lt_b66 : b66 < h66.size := W66.lt (List.mem_cons_self ..)
  have V66 : Ary Z h66 b66 .char [(.int 0), (.int 0), (.int 0), (.int 0)] := V66
  refine g_dup (pc' := 50) W66.here hx (hb hby dc265) rfl rfl ?_
  refine g_iconst (0 : Int32) (pc' := 51) W66.here hx (hb hby dc266) rfl rfl ?_
  refine g_iload (pc' := 53) W66.here hx (hb hby dc267) rfl rfl ?_
  refine w_callS (pc' := 56) (st := [(.int 0), (.ref b66), (.ref b66)]) (y := n_14) W66 hx [(.int b0v)] (M_ hw w_194) (M_ hw w_195) (M_ hw w_2) (M_ hw w_196) (by decide) (c_plain l Z a0 hw hE b0v h66 W66.old) all0 (by rw [hml]; rfl) (lenOf pd_10 rfl) rfl (hb hby dc268) (B_ rfl) (B_ rfl) (B_ rfl) (B_ rfl) rfl fun v67 T67 h67 W67 K67 Q67 => ?_
  have z_K67 : h66.size ≤ h67.size := K67.1
  obtain ⟨y68, rfl, p_y68⟩ := Q67
  have c69 := (V66.keep K67 nin0)
  refine w_castore (pc' := 57) (x' := y68) W67 hx c69 (by decide) (Nat.lt_of_lt_of_le (Nat.lt_succ_self _) (B_ rfl)) (List.mem_of_getElem? (i := 0) rfl) (own_nchar (own_c16 p_y68.1)) (hb hby dc269) rfl fun T70 h70 W70 K70 V70 => ?_
  have z_K70 : h67.size ≤ h70.size := K70.1
  have V70 : Ary Z h70 b66 .char [(.int y68), (.int 0), (.int 0), (.int 0)] := V70
  refine g_dup (pc' := 58) W70.here hx (hb hby dc270) rfl rfl ?_
  refine g_iconst (1 : Int32) (pc' := 59) W70.here hx (hb hby dc271) rfl rfl ?_
  refine g_iload (pc' := 61) W70.here hx (hb hby dc272) rfl rfl ?_
  refine w_callS (pc' := 64) (st := [(.int 1), (.ref b66), (.ref b66)]) (y := n_14) W70 hx [(.int b1v)] (M_ hw w_194) (M_ hw w_195) (M_ hw w_2) (M_ hw w_196) (by decide) (c_plain l Z a0 hw hE b1v h70 W70.old) all0 (by rw [hml]; rfl) (lenOf pd_10 rfl) rfl (hb hby dc273) (B_ rfl) (B_ rfl) (B_ rfl) (B_ rfl) rfl fun v71 T71 h71 W71 K71 Q71 => ?_
  have z_K71 : h70.size ≤ h71.size := K71.1
  obtain ⟨y72, rfl, p_y72⟩ := Q71
  have c73 := (V70.keep K71 nin0)
  refine w_castore (pc' := 65) (x' := y72) W71 hx c73 (by decide) (Nat.lt_of_lt_of_le (Nat.lt_succ_self _) (B_ rfl)) (List.mem_of_getElem? (i := 0) rfl) (own_nchar (own_c16 p_y72.1)) (hb hby dc274) rfl fun T74 h74 W74 K74 V74 => ?_
  have z_K74 : h71.size ≤ h74.size := K74.1
  have V74 : Ary Z h74 b66 .char [(.int y68), (.int y72), (.int 0), (.int 0)] := V74
  refine g_dup (pc' := 66) W74.here hx (hb hby dc275) rfl rfl ?_
  refine g_iconst (2 : Int32) (pc' := 67) W74.here hx (hb hby dc276) rfl rfl ?_
  refine g_iload (pc' := 69) W74.here hx (hb hby dc277) rfl rfl ?_
  refine w_callS (pc' := 72) (st := [(.int 2), (.ref b66), (.ref b66)]) (y := n_14) W74 hx [(.int b2v)] (M_ hw w_194) (M_ hw w_195) (M_ hw w_2) (M_ hw w_196) (by decide) (c_plain l Z a0 hw hE b2v h74 W74.old) all0 (by rw [hml]; rfl) (lenOf pd_10 rfl) rfl (hb hby dc278) (B_ rfl) (B_ rfl) (B_ rfl) (B_ rfl) rfl fun v75 T75 h75 W75 K75 Q75 => ?_
  have z_K75 : h74.size ≤ h75.size := K75.1
  obtain ⟨y76, rfl, p_y76⟩ := Q75
  have c77 := (V74.keep K75 nin0)
  refine w_castore (pc' := 73) (x' := y76) W75 hx c77 (by decide) (Nat.lt_of_lt_of_le (Nat.lt_succ_self _) (B_ rfl)) (List.mem_of_getElem? (i := 0) rfl) (own_nchar (own_c16 p_y76.1)) (hb hby dc279) rfl fun T78 h78 W78 K78 V78 => ?_
  have z_K78 : h75.size ≤ h78.size := K78.1
  have V78 : Ary Z h78 b66 .char [(.int y68), (.int y72), (.int y76), (.int 0)] := V78
  refine g_dup (pc' := 74) W78.here hx (hb hby dc280) rfl rfl ?_
  refine g_iconst (3 : Int32) (pc' := 75) W78.here hx (hb hby dc281) rfl rfl ?_
  refine g_iload (pc' := 77) W78.here hx (hb hby dc282) rfl rfl ?_
  refine w_callS (pc' := 80) (st := [(.int 3), (.ref b66), (.ref b66)]) (y := n_14) W78 hx [(.int b3v)] (M_ hw w_194) (M_ hw w_195) (M_ hw w_2) (M_ hw w_196) (by decide) (c_plain l Z a0 hw hE b3v h78 W78.old) all0 (by rw [hml]; rfl) (lenOf pd_10 rfl) rfl (hb hby dc283) (B_ rfl) (B_ rfl) (B_ rfl) (B_ rfl) rfl fun v79 T79 h79 W79 K79 Q79 => ?_
  have z_K79 : h78.size ≤ h79.size := K79.1
  obtain ⟨y80, rfl, p_y80⟩ := Q79
  have c81 := (V78.keep K79 nin0)
  refine w_castore (pc' := 81) (x' := y80) W79 hx c81 (by decide) (Nat.lt_of_lt_of_le (Nat.lt_succ_self _) (B_ rfl)) (List.mem_of_getElem? (i := 0) rfl) (own_nchar (own_c16 p_y80.1)) (hb hby dc284) rfl fun T82 h82 W82 K82 V82 => ?_
  have z_K82 : h79.size ≤ h82.size := K82.1
  have V82 : Ary Z h82 b66 .char [(.int y68), (.int y72), (.int y76), (.int y80)] := V82
  refine w_retA W82 hx hh hlk hret rfl rfl (hb hby dc285) (B_ rfl) (B_ rfl) ?_
  exact ⟨_, [y68, y72, y76, y80], rfl, by omega, V82, Or.inr rfl, (own_allS p_y68.1 (own_allS p_y72.1 (own_allS p_y76.1 (own_allS p_y80.1 own_all0)))), own_gl1 p_y68 p_y72 p_y76 p_y80, fun q => own_gn1 p_y68 p_y72 p_y76 p_y80⟩
 ·
  refine g_icmpY (pc' := 82) W0.here hx (hb hby dc262) rfl (feq hc43_65).2 ?_
  refine g_iloadN (pc' := 83) W0.here hx (hb hby dc286) rfl rfl ?_
  refine g_iconst (2 : Int32) (pc' := 84) W0.here hx (hb hby dc287) rfl rfl ?_
  by_cases hc84_83 : xs = (2 : Int32)
  ·
   refine g_icmpN (pc' := 87) W0.here hx (hb hby dc288) rfl (teq hc84_83).2 ?_
   refine g_iconst (4 : Int32) (pc' := 88) W0.here hx (hb hby dc289) rfl rfl ?_
   refine w_newarr (pc' := 90) (cap := 4) W0 hx (M_ hw w_5) (hb hby dc290) (by decide) (Nat.le_refl _) (B_ rfl) (B_ rfl) (B_ rfl) rfl rfl fun T84 h84 b84 g84 W84 K84 V84 => ?_
   have z_K84 : h0.size ≤ h84.size := K84.1
   have lt_b84 : b84 < h84.size := W84.lt (List.mem_cons_self ..)
   have V84 : Ary Z h84 b84 .char [(.int 0), (.int 0), (.int 0), (.int 0)] := V84
   refine g_dup (pc' := 91) W84.here hx (hb hby dc291) rfl rfl ?_
   refine g_iconst (0 : Int32) (pc' := 92) W84.here hx (hb hby dc292) rfl rfl ?_
   refine g_bipush (34 : Int32) (pc' := 94) W84.here hx (hb hby dc293) rfl rfl ?_
   refine w_castore (pc' := 95) (x' := (34 : Int32)) W84 hx V84 (by decide) (Nat.lt_of_lt_of_le (Nat.lt_succ_self _) (B_ rfl)) (List.mem_of_getElem? (i := 0) rfl) (by decide) (hb hby dc294) rfl fun T85 h85 W85 K85 V85 => ?_
   have z_K85 : h84.size ≤ h85.size := K85.1
   have V85 : Ary Z h85 b84 .char [(.int 34), (.int 0), (.int 0), (.int 0)] := V85
   refine g_dup (pc' := 96) W85.here hx (hb hby dc295) rfl rfl ?_
   refine g_iconst (1 : Int32) (pc' := 97) W85.here hx (hb hby dc296) rfl rfl ?_
   refine g_bipush (92 : Int32) (pc' := 99) W85.here hx (hb hby dc297) rfl rfl ?_
   refine w_castore (pc' := 100) (x' := (92 : Int32)) W85 hx V85 (by decide) (Nat.lt_of_lt_of_le (Nat.lt_succ_self _) (B_ rfl)) (List.mem_of_getElem? (i := 0) rfl) (by decide) (hb hby dc298) rfl fun T86 h86 W86 K86 V86 => ?_
   have z_K86 : h85.size ≤ h86.size := K86.1
   have V86 : Ary Z h86 b84 .char [(.int 34), (.int 92), (.int 0), (.int 0)] := V86
   refine g_dup (pc' := 101) W86.here hx (hb hby dc299) rfl rfl ?_
   refine g_iconst (2 : Int32) (pc' := 102) W86.here hx (hb hby dc300) rfl rfl ?_
   refine g_iload (pc' := 104) W86.here hx (hb hby dc301) rfl rfl ?_
   refine g_i2c (pc' := 105) W86.here hx (hb hby dc302) rfl ?_
   refine g_name (w := .int b2v) (congrArg Value.int (own_i2cb l_b2v).symm) ?_
   refine w_castore (pc' := 106) (x' := b2v) W86 hx V86 (by decide) (Nat.lt_of_lt_of_le (Nat.lt_succ_self _) (B_ rfl)) (List.mem_of_getElem? (i := 0) rfl) (own_nchar (own_c16 l_b2v)) (hb hby dc303) rfl fun T87 h87 W87 K87 V87 => ?_
   have z_K87 : h86.size ≤ h87.size := K87.1
   have V87 : Ary Z h87 b84 .char [(.int 34), (.int 92), (.int b2v), (.int 0)] := V87
   refine g_dup (pc' := 107) W87.here hx (hb hby dc304) rfl rfl ?_
   refine g_iconst (3 : Int32) (pc' := 108) W87.here hx (hb hby dc305) rfl rfl ?_
   refine g_bipush (34 : Int32) (pc' := 110) W87.here hx (hb hby dc306) rfl rfl ?_
   refine w_castore (pc' := 111) (x' := (34 : Int32)) W87 hx V87 (by decide) (Nat.lt_of_lt_of_le (Nat.lt_succ_self _) (B_ rfl)) (List.mem_of_getElem? (i := 0) rfl) (by decide) (hb hby dc307) rfl fun T88 h88 W88 K88 V88 => ?_
   have z_K88 : h87.size ≤ h88.size := K88.1
   have V88 : Ary Z h88 b84 .char [(.int 34), (.int 92), (.int b2v), (.int 34)] := V88
   refine w_retA W88 hx hh hlk hret rfl rfl (hb hby dc308) (B_ rfl) (B_ rfl) ?_
   exact ⟨_, [(34 : Int32), (92 : Int32), b2v, (34 : Int32)], rfl, by omega, V88, Or.inr rfl, (own_allS (by decide) (own_allS (by decide) (own_allS l_b2v (own_allS (by decide) own_all0)))), own_gl2 , fun q => own_gn2 ⟩
  ·
   refine g_icmpY (pc' := 112) W0.here hx (hb hby dc288) rfl (feq hc84_83).2 ?_
   refine g_iloadN (pc' := 113) W0.here hx (hb hby dc309) rfl rfl ?_
   refine g_iconst (3 : Int32) (pc' := 114) W0.here hx (hb hby dc310) rfl rfl ?_
   by_cases hc114_89 : xs = (3 : Int32)
   ·
    refine g_icmpN (pc' := 117) W0.here hx (hb hby dc311) rfl (teq hc114_89).2 ?_
    refine g_iconst (4 : Int32) (pc' := 118) W0.here hx (hb hby dc312) rfl rfl ?_
    refine w_newarr (pc' := 120) (cap := 4) W0 hx (M_ hw w_5) (hb hby dc313) (by decide) (Nat.le_refl _) (B_ rfl) (B_ rfl) (B_ rfl) rfl rfl fun T90 h90 b90 g90 W90 K90 V90 => ?_
    have z_K90 : h0.size ≤ h90.size := K90.1
    have lt_b90 : b90 < h90.size := W90.lt (List.mem_cons_self ..)
    have V90 : Ary Z h90 b90 .char [(.int 0), (.int 0), (.int 0), (.int 0)] := V90
    refine g_dup (pc' := 121) W90.here hx (hb hby dc314) rfl rfl ?_
    refine g_iconst (0 : Int32) (pc' := 122) W90.here hx (hb hby dc315) rfl rfl ?_
    refine g_bipush (34 : Int32) (pc' := 124) W90.here hx (hb hby dc316) rfl rfl ?_
    refine w_castore (pc' := 125) (x' := (34 : Int32)) W90 hx V90 (by decide) (Nat.lt_of_lt_of_le (Nat.lt_succ_self _) (B_ rfl)) (List.mem_of_getElem? (i := 0) rfl) (by decide) (hb hby dc317) rfl fun T91 h91 W91 K91 V91 => ?_
    have z_K91 : h90.size ≤ h91.size := K91.1
    have V91 : Ary Z h91 b90 .char [(.int 34), (.int 0), (.int 0), (.int 0)] := V91
    refine g_dup (pc' := 126) W91.here hx (hb hby dc318) rfl rfl ?_
    refine g_iconst (1 : Int32) (pc' := 127) W91.here hx (hb hby dc319) rfl rfl ?_
    refine g_iload (pc' := 129) W91.here hx (hb hby dc320) rfl rfl ?_
    refine w_callS (pc' := 132) (st := [(.int 1), (.ref b90), (.ref b90)]) (y := n_15) W91 hx [(.int b1v)] (M_ hw w_164) (M_ hw w_165) (M_ hw w_2) (M_ hw w_166) (by decide) (c_inner l Z a0 hw hE b1v h91 W91.old) all0 (by rw [hml]; rfl) (lenOf pd_10 rfl) rfl (hb hby dc321) (B_ rfl) (B_ rfl) (B_ rfl) (B_ rfl) rfl fun v92 T92 h92 W92 K92 Q92 => ?_
    have z_K92 : h91.size ≤ h92.size := K92.1
    obtain ⟨y93, rfl, p_y93⟩ := Q92
    have c94 := (V91.keep K92 nin0)
    refine w_castore (pc' := 133) (x' := y93) W92 hx c94 (by decide) (Nat.lt_of_lt_of_le (Nat.lt_succ_self _) (B_ rfl)) (List.mem_of_getElem? (i := 0) rfl) (own_nchar (own_c16 p_y93.1)) (hb hby dc322) rfl fun T95 h95 W95 K95 V95 => ?_
    have z_K95 : h92.size ≤ h95.size := K95.1
    have V95 : Ary Z h95 b90 .char [(.int 34), (.int y93), (.int 0), (.int 0)] := V95
    refine g_dup (pc' := 134) W95.here hx (hb hby dc323) rfl rfl ?_
    refine g_iconst (2 : Int32) (pc' := 135) W95.here hx (hb hby dc324) rfl rfl ?_
    refine g_iload (pc' := 137) W95.here hx (hb hby dc325) rfl rfl ?_
    refine w_callS (pc' := 140) (st := [(.int 2), (.ref b90), (.ref b90)]) (y := n_15) W95 hx [(.int b2v)] (M_ hw w_164) (M_ hw w_165) (M_ hw w_2) (M_ hw w_166) (by decide) (c_inner l Z a0 hw hE b2v h95 W95.old) all0 (by rw [hml]; rfl) (lenOf pd_10 rfl) rfl (hb hby dc326) (B_ rfl) (B_ rfl) (B_ rfl) (B_ rfl) rfl fun v96 T96 h96 W96 K96 Q96 => ?_
    have z_K96 : h95.size ≤ h96.size := K96.1
    obtain ⟨y97, rfl, p_y97⟩ := Q96
    have c98 := (V95.keep K96 nin0)
    refine w_castore (pc' := 141) (x' := y97) W96 hx c98 (by decide) (Nat.lt_of_lt_of_le (Nat.lt_succ_self _) (B_ rfl)) (List.mem_of_getElem? (i := 0) rfl) (own_nchar (own_c16 p_y97.1)) (hb hby dc327) rfl fun T99 h99 W99 K99 V99 => ?_
    have z_K99 : h96.size ≤ h99.size := K99.1
    have V99 : Ary Z h99 b90 .char [(.int 34), (.int y93), (.int y97), (.int 0)] := V99
    refine g_dup (pc' := 142) W99.here hx (hb hby dc328) rfl rfl ?_
    refine g_iconst (3 : Int32) (pc' := 143) W99.here hx (hb hby dc329) rfl rfl ?_
    refine g_bipush (34 : Int32) (pc' := 145) W99.here hx (hb hby dc330) rfl rfl ?_
    refine w_castore (pc' := 146) (x' := (34 : Int32)) W99 hx V99 (by decide) (Nat.lt_of_lt_of_le (Nat.lt_succ_self _) (B_ rfl)) (List.mem_of_getElem? (i := 0) rfl) (by decide) (hb hby dc331) rfl fun T100 h100 W100 K100 V100 => ?_
    have z_K100 : h99.size ≤ h100.size := K100.1
    have V100 : Ary Z h100 b90 .char [(.int 34), (.int y93), (.int y97), (.int 34)] := V100
    refine w_retA W100 hx hh hlk hret rfl rfl (hb hby dc332) (B_ rfl) (B_ rfl) ?_
    exact ⟨_, [(34 : Int32), y93, y97, (34 : Int32)], rfl, by omega, V100, Or.inr rfl, (own_allS (by decide) (own_allS p_y93.1 (own_allS p_y97.1 (own_allS (by decide) own_all0)))), own_gl3 p_y93 p_y97, fun q => own_gn3 p_y93 p_y97⟩
   ·
    refine g_icmpY (pc' := 147) W0.here hx (hb hby dc311) rfl (feq hc114_89).2 ?_
    refine g_iloadN (pc' := 148) W0.here hx (hb hby dc333) rfl rfl ?_
    refine g_iconst (4 : Int32) (pc' := 149) W0.here hx (hb hby dc334) rfl rfl ?_
    by_cases hc149_101 : xs = (4 : Int32)
    ·
     refine g_icmpN (pc' := 152) W0.here hx (hb hby dc335) rfl (teq hc149_101).2 ?_
     refine g_iconst (4 : Int32) (pc' := 153) W0.here hx (hb hby dc336) rfl rfl ?_
     refine w_newarr (pc' := 155) (cap := 4) W0 hx (M_ hw w_5) (hb hby dc337) (by decide) (Nat.le_refl _) (B_ rfl) (B_ rfl) (B_ rfl) rfl rfl fun T102 h102 b102 g102 W102 K102 V102 => ?_
     have z_K102 : h0.size ≤ h102.size := K102.1
     have lt_b102 : b102 < h102.size := W102.lt (List.mem_cons_self ..)
     have V102 : Ary Z h102 b102 .char [(.int 0), (.int 0), (.int 0), (.int 0)] := V102
     refine g_dup (pc' := 156) W102.here hx (hb hby dc338) rfl rfl ?_
     refine g_iconst (0 : Int32) (pc' := 157) W102.here hx (hb hby dc339) rfl rfl ?_
     refine g_iload (pc' := 159) W102.here hx (hb hby dc340) rfl rfl ?_
     refine w_callS (pc' := 162) (st := [(.int 0), (.ref b102), (.ref b102)]) (y := n_14) W102 hx [(.int b0v)] (M_ hw w_194) (M_ hw w_195) (M_ hw w_2) (M_ hw w_196) (by decide) (c_plain l Z a0 hw hE b0v h102 W102.old) all0 (by rw [hml]; rfl) (lenOf pd_10 rfl) rfl (hb hby dc341) (B_ rfl) (B_ rfl) (B_ rfl) (B_ rfl) rfl fun v103 T103 h103 W103 K103 Q103 => ?_
     have z_K103 : h102.size ≤ h103.size := K103.1
     obtain ⟨y104, rfl, p_y104⟩ := Q103
     have c105 := (V102.keep K103 nin0)
     refine w_castore (pc' := 163) (x' := y104) W103 hx c105 (by decide) (Nat.lt_of_lt_of_le (Nat.lt_succ_self _) (B_ rfl)) (List.mem_of_getElem? (i := 0) rfl) (own_nchar (own_c16 p_y104.1)) (hb hby dc342) rfl fun T106 h106 W106 K106 V106 => ?_
     have z_K106 : h103.size ≤ h106.size := K106.1
     have V106 : Ary Z h106 b102 .char [(.int y104), (.int 0), (.int 0), (.int 0)] := V106
     refine g_dup (pc' := 164) W106.here hx (hb hby dc343) rfl rfl ?_
     refine g_iconst (1 : Int32) (pc' := 165) W106.here hx (hb hby dc344) rfl rfl ?_
     refine g_bipush (34 : Int32) (pc' := 167) W106.here hx (hb hby dc345) rfl rfl ?_
     refine w_castore (pc' := 168) (x' := (34 : Int32)) W106 hx V106 (by decide) (Nat.lt_of_lt_of_le (Nat.lt_succ_self _) (B_ rfl)) (List.mem_of_getElem? (i := 0) rfl) (by decide) (hb hby dc346) rfl fun T107 h107 W107 K107 V107 => ?_
     have z_K107 : h106.size ≤ h107.size := K107.1
     have V107 : Ary Z h107 b102 .char [(.int y104), (.int 34), (.int 0), (.int 0)] := V107
     refine g_dup (pc' := 169) W107.here hx (hb hby dc347) rfl rfl ?_
     refine g_iconst (2 : Int32) (pc' := 170) W107.here hx (hb hby dc348) rfl rfl ?_
     refine g_iload (pc' := 172) W107.here hx (hb hby dc349) rfl rfl ?_
     refine w_callS (pc' := 175) (st := [(.int 2), (.ref b102), (.ref b102)]) (y := n_15) W107 hx [(.int b2v)] (M_ hw w_164) (M_ hw w_165) (M_ hw w_2) (M_ hw w_166) (by decide) (c_inner l Z a0 hw hE b2v h107 W107.old) all0 (by rw [hml]; rfl) (lenOf pd_10 rfl) rfl (hb hby dc350) (B_ rfl) (B_ rfl) (B_ rfl) (B_ rfl) rfl fun v108 T108 h108 W108 K108 Q108 => ?_
     have z_K108 : h107.size ≤ h108.size := K108.1
     obtain ⟨y109, rfl, p_y109⟩ := Q108
     have c110 := (V107.keep K108 nin0)
     refine w_castore (pc' := 176) (x' := y109) W108 hx c110 (by decide) (Nat.lt_of_lt_of_le (Nat.lt_succ_self _) (B_ rfl)) (List.mem_of_getElem? (i := 0) rfl) (own_nchar (own_c16 p_y109.1)) (hb hby dc351) rfl fun T111 h111 W111 K111 V111 => ?_
     have z_K111 : h108.size ≤ h111.size := K111.1
     have V111 : Ary Z h111 b102 .char [(.int y104), (.int 34), (.int y109), (.int 0)] := V111
     refine g_dup (pc' := 177) W111.here hx (hb hby dc352) rfl rfl ?_
     refine g_iconst (3 : Int32) (pc' := 178) W111.here hx (hb hby dc353) rfl rfl ?_
     refine g_bipush (34 : Int32) (pc' := 180) W111.here hx (hb hby dc354) rfl rfl ?_
     refine w_castore (pc' := 181) (x' := (34 : Int32)) W111 hx V111 (by decide) (Nat.lt_of_lt_of_le (Nat.lt_succ_self _) (B_ rfl)) (List.mem_of_getElem? (i := 0) rfl) (by decide) (hb hby dc355) rfl fun T112 h112 W112 K112 V112 => ?_
     have z_K112 : h111.size ≤ h112.size := K112.1
     have V112 : Ary Z h112 b102 .char [(.int y104), (.int 34), (.int y109), (.int 34)] := V112
     refine w_retA W112 hx hh hlk hret rfl rfl (hb hby dc356) (B_ rfl) (B_ rfl) ?_
     exact ⟨_, [y104, (34 : Int32), y109, (34 : Int32)], rfl, by omega, V112, Or.inr rfl, (own_allS p_y104.1 (own_allS (by decide) (own_allS p_y109.1 (own_allS (by decide) own_all0)))), own_gl4 p_y104 p_y109, fun q => own_gn4 p_y104 p_y109⟩
    ·
     refine g_icmpY (pc' := 182) W0.here hx (hb hby dc335) rfl (feq hc149_101).2 ?_
     refine g_iloadN (pc' := 183) W0.here hx (hb hby dc357) rfl rfl ?_
     refine g_iconst (5 : Int32) (pc' := 184) W0.here hx (hb hby dc358) rfl rfl ?_
     by_cases hc184_113 : xs = (5 : Int32)
     ·
      refine g_icmpN (pc' := 187) W0.here hx (hb hby dc359) rfl (teq hc184_113).2 ?_
      refine g_iconst (4 : Int32) (pc' := 188) W0.here hx (hb hby dc360) rfl rfl ?_
      refine w_newarr (pc' := 190) (cap := 4) W0 hx (M_ hw w_5) (hb hby dc361) (by decide) (Nat.le_refl _) (B_ rfl) (B_ rfl) (B_ rfl) rfl rfl fun T114 h114 b114 g114 W114 K114 V114 => ?_
      have z_K114 : h0.size ≤ h114.size := K114.1
      have lt_b114 : b114 < h114.size := W114.lt (List.mem_cons_self ..)
      have V114 : Ary Z h114 b114 .char [(.int 0), (.int 0), (.int 0), (.int 0)] := V114
      refine g_dup (pc' := 191) W114.here hx (hb hby dc362) rfl rfl ?_
      refine g_iconst (0 : Int32) (pc' := 192) W114.here hx (hb hby dc363) rfl rfl ?_
      refine g_bipush (34 : Int32) (pc' := 194) W114.here hx (hb hby dc364) rfl rfl ?_
      refine w_castore (pc' := 195) (x' := (34 : Int32)) W114 hx V114 (by decide) (Nat.lt_of_lt_of_le (Nat.lt_succ_self _) (B_ rfl)) (List.mem_of_getElem? (i := 0) rfl) (by decide) (hb hby dc365) rfl fun T115 h115 W115 K115 V115 => ?_
      have z_K115 : h114.size ≤ h115.size := K115.1
      have V115 : Ary Z h115 b114 .char [(.int 34), (.int 0), (.int 0), (.int 0)] := V115
      refine g_dup (pc' := 196) W115.here hx (hb hby dc366) rfl rfl ?_
      refine g_iconst (1 : Int32) (pc' := 197) W115.here hx (hb hby dc367) rfl rfl ?_
      refine g_iload (pc' := 199) W115.here hx (hb hby dc368) rfl rfl ?_
      refine w_callS (pc' := 202) (st := [(.int 1), (.ref b114), (.ref b114)]) (y := n_15) W115 hx [(.int b1v)] (M_ hw w_164) (M_ hw w_165) (M_ hw w_2) (M_ hw w_166) (by decide) (c_inner l Z a0 hw hE b1v h115 W115.old) all0 (by rw [hml]; rfl) (lenOf pd_10 rfl) rfl (hb hby dc369) (B_ rfl) (B_ rfl) (B_ rfl) (B_ rfl) rfl fun v116 T116 h116 W116 K116 Q116 => ?_
      have z_K116 : h115.size ≤ h116.size := K116.1
      obtain ⟨y117, rfl, p_y117⟩ := Q116
      have c118 := (V115.keep K116 nin0)
      refine w_castore (pc' := 203) (x' := y117) W116 hx c118 (by decide) (Nat.lt_of_lt_of_le (Nat.lt_succ_self _) (B_ rfl)) (List.mem_of_getElem? (i := 0) rfl) (own_nchar (own_c16 p_y117.1)) (hb hby dc370) rfl fun T119 h119 W119 K119 V119 => ?_
      have z_K119 : h116.size ≤ h119.size := K119.1
      have V119 : Ary Z h119 b114 .char [(.int 34), (.int y117), (.int 0), (.int 0)] := V119
      refine g_dup (pc' := 204) W119.here hx (hb hby dc371) rfl rfl ?_
      refine g_iconst (2 : Int32) (pc' := 205) W119.here hx (hb hby dc372) rfl rfl ?_
      refine g_bipush (34 : Int32) (pc' := 207) W119.here hx (hb hby dc373) rfl rfl ?_
      refine w_castore (pc' := 208) (x' := (34 : Int32)) W119 hx V119 (by decide) (Nat.lt_of_lt_of_le (Nat.lt_succ_self _) (B_ rfl)) (List.mem_of_getElem? (i := 0) rfl) (by decide) (hb hby dc374) rfl fun T120 h120 W120 K120 V120 => ?_
      have z_K120 : h119.size ≤ h120.size := K120.1
      have V120 : Ary Z h120 b114 .char [(.int 34), (.int y117), (.int 34), (.int 0)] := V120
      refine g_dup (pc' := 209) W120.here hx (hb hby dc375) rfl rfl ?_
      refine g_iconst (3 : Int32) (pc' := 210) W120.here hx (hb hby dc376) rfl rfl ?_
      refine g_iload (pc' := 212) W120.here hx (hb hby dc377) rfl rfl ?_
      refine w_callS (pc' := 215) (st := [(.int 3), (.ref b114), (.ref b114)]) (y := n_14) W120 hx [(.int b3v)] (M_ hw w_194) (M_ hw w_195) (M_ hw w_2) (M_ hw w_196) (by decide) (c_plain l Z a0 hw hE b3v h120 W120.old) all0 (by rw [hml]; rfl) (lenOf pd_10 rfl) rfl (hb hby dc378) (B_ rfl) (B_ rfl) (B_ rfl) (B_ rfl) rfl fun v121 T121 h121 W121 K121 Q121 => ?_
      have z_K121 : h120.size ≤ h121.size := K121.1
      obtain ⟨y122, rfl, p_y122⟩ := Q121
      have c123 := (V120.keep K121 nin0)
      refine w_castore (pc' := 216) (x' := y122) W121 hx c123 (by decide) (Nat.lt_of_lt_of_le (Nat.lt_succ_self _) (B_ rfl)) (List.mem_of_getElem? (i := 0) rfl) (own_nchar (own_c16 p_y122.1)) (hb hby dc379) rfl fun T124 h124 W124 K124 V124 => ?_
      have z_K124 : h121.size ≤ h124.size := K124.1
      have V124 : Ary Z h124 b114 .char [(.int 34), (.int y117), (.int 34), (.int y122)] := V124
      refine w_retA W124 hx hh hlk hret rfl rfl (hb hby dc380) (B_ rfl) (B_ rfl) ?_
      exact ⟨_, [(34 : Int32), y117, (34 : Int32), y122], rfl, by omega, V124, Or.inr rfl, (own_allS (by decide) (own_allS p_y117.1 (own_allS (by decide) (own_allS p_y122.1 own_all0)))), own_gl5 p_y117 p_y122, fun q => own_gn5 p_y117 p_y122⟩
     ·
      refine g_icmpY (pc' := 217) W0.here hx (hb hby dc359) rfl (feq hc184_113).2 ?_
      refine g_iloadN (pc' := 218) W0.here hx (hb hby dc381) rfl rfl ?_
      refine g_bipush (6 : Int32) (pc' := 220) W0.here hx (hb hby dc382) rfl rfl ?_
      by_cases hc220_125 : xs = (6 : Int32)
      ·
       refine g_icmpN (pc' := 223) W0.here hx (hb hby dc383) rfl (teq hc220_125).2 ?_
       refine g_iconst (4 : Int32) (pc' := 224) W0.here hx (hb hby dc384) rfl rfl ?_
       refine w_newarr (pc' := 226) (cap := 4) W0 hx (M_ hw w_5) (hb hby dc385) (by decide) (Nat.le_refl _) (B_ rfl) (B_ rfl) (B_ rfl) rfl rfl fun T126 h126 b126 g126 W126 K126 V126 => ?_
       have z_K126 : h0.size ≤ h126.size := K126.1
       have lt_b126 : b126 < h126.size := W126.lt (List.mem_cons_self ..)
       have V126 : Ary Z h126 b126 .char [(.int 0), (.int 0), (.int 0), (.int 0)] := V126
       refine g_dup (pc' := 227) W126.here hx (hb hby dc386) rfl rfl ?_
       refine g_iconst (0 : Int32) (pc' := 228) W126.here hx (hb hby dc387) rfl rfl ?_
       refine g_bipush (34 : Int32) (pc' := 230) W126.here hx (hb hby dc388) rfl rfl ?_
       refine w_castore (pc' := 231) (x' := (34 : Int32)) W126 hx V126 (by decide) (Nat.lt_of_lt_of_le (Nat.lt_succ_self _) (B_ rfl)) (List.mem_of_getElem? (i := 0) rfl) (by decide) (hb hby dc389) rfl fun T127 h127 W127 K127 V127 => ?_
       have z_K127 : h126.size ≤ h127.size := K127.1
       have V127 : Ary Z h127 b126 .char [(.int 34), (.int 0), (.int 0), (.int 0)] := V127
       refine g_dup (pc' := 232) W127.here hx (hb hby dc390) rfl rfl ?_
       refine g_iconst (1 : Int32) (pc' := 233) W127.here hx (hb hby dc391) rfl rfl ?_
       refine g_bipush (34 : Int32) (pc' := 235) W127.here hx (hb hby dc392) rfl rfl ?_
       refine w_castore (pc' := 236) (x' := (34 : Int32)) W127 hx V127 (by decide) (Nat.lt_of_lt_of_le (Nat.lt_succ_self _) (B_ rfl)) (List.mem_of_getElem? (i := 0) rfl) (by decide) (hb hby dc393) rfl fun T128 h128 W128 K128 V128 => ?_
       have z_K128 : h127.size ≤ h128.size := K128.1
       have V128 : Ary Z h128 b126 .char [(.int 34), (.int 34), (.int 0), (.int 0)] := V128
       refine g_dup (pc' := 237) W128.here hx (hb hby dc394) rfl rfl ?_
       refine g_iconst (2 : Int32) (pc' := 238) W128.here hx (hb hby dc395) rfl rfl ?_
       refine g_iload (pc' := 240) W128.here hx (hb hby dc396) rfl rfl ?_
       refine w_callS (pc' := 243) (st := [(.int 2), (.ref b126), (.ref b126)]) (y := n_14) W128 hx [(.int b2v)] (M_ hw w_194) (M_ hw w_195) (M_ hw w_2) (M_ hw w_196) (by decide) (c_plain l Z a0 hw hE b2v h128 W128.old) all0 (by rw [hml]; rfl) (lenOf pd_10 rfl) rfl (hb hby dc397) (B_ rfl) (B_ rfl) (B_ rfl) (B_ rfl) rfl fun v129 T129 h129 W129 K129 Q129 => ?_
       have z_K129 : h128.size ≤ h129.size := K129.1
       obtain ⟨y130, rfl, p_y130⟩ := Q129
       have c131 := (V128.keep K129 nin0)
       refine w_castore (pc' := 244) (x' := y130) W129 hx c131 (by decide) (Nat.lt_of_lt_of_le (Nat.lt_succ_self _) (B_ rfl)) (List.mem_of_getElem? (i := 0) rfl) (own_nchar (own_c16 p_y130.1)) (hb hby dc398) rfl fun T132 h132 W132 K132 V132 => ?_
       have z_K132 : h129.size ≤ h132.size := K132.1
       have V132 : Ary Z h132 b126 .char [(.int 34), (.int 34), (.int y130), (.int 0)] := V132
       refine g_dup (pc' := 245) W132.here hx (hb hby dc399) rfl rfl ?_
       refine g_iconst (3 : Int32) (pc' := 246) W132.here hx (hb hby dc400) rfl rfl ?_
       refine g_iload (pc' := 248) W132.here hx (hb hby dc401) rfl rfl ?_
       refine w_callS (pc' := 251) (st := [(.int 3), (.ref b126), (.ref b126)]) (y := n_14) W132 hx [(.int b3v)] (M_ hw w_194) (M_ hw w_195) (M_ hw w_2) (M_ hw w_196) (by decide) (c_plain l Z a0 hw hE b3v h132 W132.old) all0 (by rw [hml]; rfl) (lenOf pd_10 rfl) rfl (hb hby dc402) (B_ rfl) (B_ rfl) (B_ rfl) (B_ rfl) rfl fun v133 T133 h133 W133 K133 Q133 => ?_
       have z_K133 : h132.size ≤ h133.size := K133.1
       obtain ⟨y134, rfl, p_y134⟩ := Q133
       have c135 := (V132.keep K133 nin0)
       refine w_castore (pc' := 252) (x' := y134) W133 hx c135 (by decide) (Nat.lt_of_lt_of_le (Nat.lt_succ_self _) (B_ rfl)) (List.mem_of_getElem? (i := 0) rfl) (own_nchar (own_c16 p_y134.1)) (hb hby dc403) rfl fun T136 h136 W136 K136 V136 => ?_
       have z_K136 : h133.size ≤ h136.size := K136.1
       have V136 : Ary Z h136 b126 .char [(.int 34), (.int 34), (.int y130), (.int y134)] := V136
       refine w_retA W136 hx hh hlk hret rfl rfl (hb hby dc404) (B_ rfl) (B_ rfl) ?_
       exact ⟨_, [(34 : Int32), (34 : Int32), y130, y134], rfl, by omega, V136, Or.inr rfl, (own_allS (by decide) (own_allS (by decide) (own_allS p_y130.1 (own_allS p_y134.1 own_all0)))), own_gl6 p_y130 p_y134, fun q => own_gn6 p_y130 p_y134⟩
      ·
       refine g_icmpY (pc' := 253) W0.here hx (hb hby dc383) rfl (feq hc220_125).2 ?_
       refine g_iloadN (pc' := 254) W0.here hx (hb hby dc405) rfl rfl ?_
       refine g_bipush (7 : Int32) (pc' := 256) W0.here hx (hb hby dc406) rfl rfl ?_
       by_cases hc256_137 : xs = (7 : Int32)
       ·
        refine g_icmpN (pc' := 259) W0.here hx (hb hby dc407) rfl (teq hc256_137).2 ?_
        refine g_iloadN (pc' := 260) W0.here hx (hb hby dc408) rfl rfl ?_
        by_cases hc260_138 : xz = (0 : Int32)
        ·
         refine g_ifY (pc' := 296) W0.here hx (hb hby dc409) rfl (teq hc260_138).1 ?_
         refine g_iconst (0 : Int32) (pc' := 297) W0.here hx (hb hby dc410) rfl rfl ?_
         refine w_newarr (pc' := 299) (cap := 0) W0 hx (M_ hw w_5) (hb hby dc411) (by decide) (Nat.le_refl _) (B_ rfl) (B_ rfl) (B_ rfl) rfl rfl fun T139 h139 b139 g139 W139 K139 V139 => ?_
         have z_K139 : h0.size ≤ h139.size := K139.1
         have lt_b139 : b139 < h139.size := W139.lt (List.mem_cons_self ..)
         have V139 : Ary Z h139 b139 .char [] := V139
         refine w_retA W139 hx hh hlk hret rfl rfl (hb hby dc412) (B_ rfl) (B_ rfl) ?_
         exact ⟨_, [], rfl, by omega, V139, Or.inl rfl, own_all0, own_gl0 , fun q => own_gn0 ⟩
        ·
         refine g_ifN (pc' := 263) W0.here hx (hb hby dc409) rfl (feq hc260_138).1 ?_
         refine g_iconst (4 : Int32) (pc' := 264) W0.here hx (hb hby dc413) rfl rfl ?_
         refine w_newarr (pc' := 266) (cap := 4) W0 hx (M_ hw w_5) (hb hby dc414) (by decide) (Nat.le_refl _) (B_ rfl) (B_ rfl) (B_ rfl) rfl rfl fun T140 h140 b140 g140 W140 K140 V140 => ?_
         have z_K140 : h0.size ≤ h140.size := K140.1
         have lt_b140 : b140 < h140.size := W140.lt (List.mem_cons_self ..)
         have V140 : Ary Z h140 b140 .char [(.int 0), (.int 0), (.int 0), (.int 0)] := V140
         refine g_dup (pc' := 267) W140.here hx (hb hby dc415) rfl rfl ?_
         refine g_iconst (0 : Int32) (pc' := 268) W140.here hx (hb hby dc416) rfl rfl ?_
         refine g_bipush (34 : Int32) (pc' := 270) W140.here hx (hb hby dc417) rfl rfl ?_
         refine w_castore (pc' := 271) (x' := (34 : Int32)) W140 hx V140 (by decide) (Nat.lt_of_lt_of_le (Nat.lt_succ_self _) (B_ rfl)) (List.mem_of_getElem? (i := 0) rfl) (by decide) (hb hby dc418) rfl fun T141 h141 W141 K141 V141 => ?_
         have z_K141 : h140.size ≤ h141.size := K141.1
         have V141 : Ary Z h141 b140 .char [(.int 34), (.int 0), (.int 0), (.int 0)] := V141
         refine g_dup (pc' := 272) W141.here hx (hb hby dc419) rfl rfl ?_
         refine g_iconst (1 : Int32) (pc' := 273) W141.here hx (hb hby dc420) rfl rfl ?_
         refine g_iload (pc' := 275) W141.here hx (hb hby dc421) rfl rfl ?_
         refine w_callS (pc' := 278) (st := [(.int 1), (.ref b140), (.ref b140)]) (y := n_16) W141 hx [(.int b1v)] (M_ hw w_223) (M_ hw w_224) (M_ hw w_2) (M_ hw w_225) (by decide) (c_open l Z a0 hw hE b1v h141 W141.old) all0 (by rw [hml]; rfl) (lenOf pd_10 rfl) rfl (hb hby dc422) (B_ rfl) (B_ rfl) (B_ rfl) (B_ rfl) rfl fun v142 T142 h142 W142 K142 Q142 => ?_
         have z_K142 : h141.size ≤ h142.size := K142.1
         obtain ⟨y143, rfl, p_y143⟩ := Q142
         have c144 := (V141.keep K142 nin0)
         refine w_castore (pc' := 279) (x' := y143) W142 hx c144 (by decide) (Nat.lt_of_lt_of_le (Nat.lt_succ_self _) (B_ rfl)) (List.mem_of_getElem? (i := 0) rfl) (own_nchar (own_c16 p_y143.1)) (hb hby dc423) rfl fun T145 h145 W145 K145 V145 => ?_
         have z_K145 : h142.size ≤ h145.size := K145.1
         have V145 : Ary Z h145 b140 .char [(.int 34), (.int y143), (.int 0), (.int 0)] := V145
         refine g_dup (pc' := 280) W145.here hx (hb hby dc424) rfl rfl ?_
         refine g_iconst (2 : Int32) (pc' := 281) W145.here hx (hb hby dc425) rfl rfl ?_
         refine g_iload (pc' := 283) W145.here hx (hb hby dc426) rfl rfl ?_
         refine w_callS (pc' := 286) (st := [(.int 2), (.ref b140), (.ref b140)]) (y := n_16) W145 hx [(.int b2v)] (M_ hw w_223) (M_ hw w_224) (M_ hw w_2) (M_ hw w_225) (by decide) (c_open l Z a0 hw hE b2v h145 W145.old) all0 (by rw [hml]; rfl) (lenOf pd_10 rfl) rfl (hb hby dc427) (B_ rfl) (B_ rfl) (B_ rfl) (B_ rfl) rfl fun v146 T146 h146 W146 K146 Q146 => ?_
         have z_K146 : h145.size ≤ h146.size := K146.1
         obtain ⟨y147, rfl, p_y147⟩ := Q146
         have c148 := (V145.keep K146 nin0)
         refine w_castore (pc' := 287) (x' := y147) W146 hx c148 (by decide) (Nat.lt_of_lt_of_le (Nat.lt_succ_self _) (B_ rfl)) (List.mem_of_getElem? (i := 0) rfl) (own_nchar (own_c16 p_y147.1)) (hb hby dc428) rfl fun T149 h149 W149 K149 V149 => ?_
         have z_K149 : h146.size ≤ h149.size := K149.1
         have V149 : Ary Z h149 b140 .char [(.int 34), (.int y143), (.int y147), (.int 0)] := V149
         refine g_dup (pc' := 288) W149.here hx (hb hby dc429) rfl rfl ?_
         refine g_iconst (3 : Int32) (pc' := 289) W149.here hx (hb hby dc430) rfl rfl ?_
         refine g_iload (pc' := 291) W149.here hx (hb hby dc431) rfl rfl ?_
         refine w_callS (pc' := 294) (st := [(.int 3), (.ref b140), (.ref b140)]) (y := n_16) W149 hx [(.int b3v)] (M_ hw w_223) (M_ hw w_224) (M_ hw w_2) (M_ hw w_225) (by decide) (c_open l Z a0 hw hE b3v h149 W149.old) all0 (by rw [hml]; rfl) (lenOf pd_10 rfl) rfl (hb hby dc432) (B_ rfl) (B_ rfl) (B_ rfl) (B_ rfl) rfl fun v150 T150 h150 W150 K150 Q150 => ?_
         have z_K150 : h149.size ≤ h150.size := K150.1
         obtain ⟨y151, rfl, p_y151⟩ := Q150
         have c152 := (V149.keep K150 nin0)
         refine w_castore (pc' := 295) (x' := y151) W150 hx c152 (by decide) (Nat.lt_of_lt_of_le (Nat.lt_succ_self _) (B_ rfl)) (List.mem_of_getElem? (i := 0) rfl) (own_nchar (own_c16 p_y151.1)) (hb hby dc433) rfl fun T153 h153 W153 K153 V153 => ?_
         have z_K153 : h150.size ≤ h153.size := K153.1
         have V153 : Ary Z h153 b140 .char [(.int 34), (.int y143), (.int y147), (.int y151)] := V153
         refine w_retA W153 hx hh hlk hret rfl rfl (hb hby dc434) (B_ rfl) (B_ rfl) ?_
         exact ⟨_, [(34 : Int32), y143, y147, y151], rfl, by omega, V153, Or.inr rfl, (own_allS (by decide) (own_allS p_y143.1 (own_allS p_y147.1 (own_allS p_y151.1 own_all0)))), own_gl7 p_y143 p_y147 p_y151, fun q => absurd q hc260_138⟩
       ·
        refine g_icmpY (pc' := 296) W0.here hx (hb hby dc407) rfl (feq hc256_137).2 ?_
        refine g_iconst (0 : Int32) (pc' := 297) W0.here hx (hb hby dc410) rfl rfl ?_
        refine w_newarr (pc' := 299) (cap := 0) W0 hx (M_ hw w_5) (hb hby dc411) (by decide) (Nat.le_refl _) (B_ rfl) (B_ rfl) (B_ rfl) rfl rfl fun T154 h154 b154 g154 W154 K154 V154 => ?_
        have z_K154 : h0.size ≤ h154.size := K154.1
        have lt_b154 : b154 < h154.size := W154.lt (List.mem_cons_self ..)
        have V154 : Ary Z h154 b154 .char [] := V154
        refine w_retA W154 hx hh hlk hret rfl rfl (hb hby dc412) (B_ rfl) (B_ rfl) ?_
        exact ⟨_, [], rfl, by omega, V154, Or.inl rfl, own_all0, own_gl0 , fun q => own_gn0 ⟩
section OwnZ
variable {p : Program} {l : Launch} {e : Env} {R : Room} {s : State} {m : MethodId} {args : Array Value} {below : List Frame} {meth : Method} {c : Code} {T : State} {Z : State} {a0 : Array Value} {h : Heap} {EL : List (String × Nat)} {own : String} {cells slots : Nat} {ws nw : List Addr} {P : Outcome → State → Prop} {pc pc' : Nat} {Ls : Array Slot} {st : List Value}
theorem Wk.zle (W : Wk p l e R s m args below meth c Z EL own ws nw T h cells slots) {x : Nat} (q : x ∈ nw) : Z.heap.size ≤ x := by obtain ⟨_, _, _, _, -, -, -, -, -, -, -, -, -, -, -, -, n⟩ := W; exact (n x q).2.1
end OwnZ
theorem own_neobj {Z : State} {h : Heap} {a b : Nat} {C : String} {ty : FieldType} {vs : List Value} {a0 : Array Value} {k : Nat} (F : Exa Z h a C) (wi : (Cond.instantiable C k).before a0 Z = true) (G : Ary Z h b ty vs) : a ≠ b := by
  obtain ⟨cl, A, -⟩ := G
  exact Jvm.RoadKit.ne_arr F wi A
theorem own_neary {Z : State} {h : Heap} {a b : Nat} {ty ty' : FieldType} {vs vs' : List Value} (F : Ary Z h a ty vs) (G : Ary Z h b ty' vs') (hn : ty ≠ ty') : a ≠ b := fun q => by
  subst q
  obtain ⟨c1, A, -⟩ := F
  obtain ⟨c2, B, -⟩ := G
  cases A.1.symm.trans B.1
  obtain ⟨-, k1, j1, q1, j2⟩ := A.2.1
  obtain ⟨-, k2, i1, q2, i2⟩ := B.2.1
  cases j1.symm.trans i1
  rw [j2] at i2
  cases i2
  exact hn rfl
theorem own_z0 {n : Nat} (hn : n < 2 ^ 31) (q : n.toInt32 = (0 : Int32)) : n = 0 := by
  rcases Nat.eq_zero_or_pos n with h | h
  · exact h
  · exact absurd q (own_pos0 h hn)
theorem own_add32 (a b : Nat) : a.toInt32 + b.toInt32 = (a + b).toInt32 := by
  show Int32.ofNat a + Int32.ofNat b = Int32.ofNat (a + b)
  rw [Int32.ofNat_add]
theorem own_sub32 {a b : Nat} (h : b ≤ a) (ha : a < 2 ^ 31) : a.toInt32 - b.toInt32 = (a - b).toInt32 := by
  apply Int32.toInt_inj.mp
  have q := c_isub a.toInt32 b.toInt32
  have r := rng32 (a.toInt32 - b.toInt32)
  rw [own_toInt ha, own_toInt (by omega)] at q
  rw [own_toInt (by omega)]
  omega
theorem own_aba {a b : Nat} (h : b ≤ a) : b.toInt32 + (a - b).toInt32 = a.toInt32 := by rw [own_add32, show b + (a - b) = a by omega]
theorem own_le2 {a b : Int32} (h : ¬ a < b) (h2 : ¬ b < a) : a = b := by
  rw [Int32.lt_iff_toInt_lt] at h h2
  apply Int32.toInt_inj.mp; omega
theorem own_corb {cs : List Int32} {bg en : Nat} (hse : bg ≤ en) (hel : en ≤ cs.length) (hcl : cs.length ≤ 14) : (List.replicate (en - bg) (Value.int 0)).take (0 : Int32).toNatClampNeg ++ ((cs.map latB).drop bg.toInt32.toNatClampNeg).take (en - bg).toInt32.toNatClampNeg ++ (List.replicate (en - bg) (Value.int 0)).drop ((0 : Int32).toNatClampNeg + (en - bg).toInt32.toNatClampNeg) = ((cs.drop bg).take (en - bg)).map latB := by
  rw [i32_nat (n := bg) (by omega), i32_nat (n := en - bg) (by omega), show (0 : Int32).toNatClampNeg = 0 from rfl]
  simp [List.map_take, List.map_drop]
theorem own_whole {cs : List Int32} {bg en : Nat} (h1 : bg = 0) (h2 : en = cs.length) : (cs.drop bg).take (en - bg) = cs := by
  subst h1; subst h2; simp
theorem own_piece0 {cs : List Int32} {bg en : Nat} (h : en - bg = 0) : (cs.drop bg).take (en - bg) = [] := by rw [h]; rfl
theorem own_plat {cs : List Int32} {bg n : Nat} (h : ∀ c ∈ cs, 0 ≤ c.toInt ∧ c.toInt ≤ 255) : ∀ c ∈ (cs.drop bg).take n, 0 ≤ c.toInt ∧ c.toInt ≤ 255 := fun c q => h c (List.mem_of_mem_drop (List.mem_of_mem_take q))
set_option maxRecDepth 65536 in
set_option maxHeartbeats 40000000 in
theorem c_cft (l : Launch) (Z : State) (a0 : Array Value) (hw : ∀ d ∈ tables_1, d.before a0 Z = true) (hE : EW Z a0 consts_1) (j kk n : Int32) (fm : Value) (h0 : Heap) (O : Ext Z.heap h0) (hfm : fm.isRef = true) (hj : ¬ j < 0) (hjk : ¬ kk < j) (hkn : ¬ n < kk) :
    Con l Z consts_1 n_18 jdk_41_method_12_code 4 (Option.some Jvm.ClassFile.FieldType.int) ({ frames := 0, cells := 0, slots := 0, locals := 0 } : Room) #[(.int j), (.int kk), (.int n), fm] h0 [] (pureQ (some (.int j)) h0) := by
 refine Con.of (a0 := a0) #[.val (.int j), .val (.int kk), .val (.int n), .val fm] (plainFor_of_name pn_2) hE O all0 (fun m => by rcases ref_cases hfm with rfl | ⟨_, rfl⟩ <;> rfl) ?_
 intro p e s m below meth c T0 hx hby hml hnm hret hlk hh W0
 refine g_iloadN (pc' := 1) W0.here hx (hb hby dc435) rfl rfl ?_
 refine g_ifN (pc' := 4) W0.here hx (hb hby dc436) rfl (flt (show ¬ (j < (0 : Int32)) from hj)).1 ?_
 refine g_iloadN (pc' := 5) W0.here hx (hb hby dc437) rfl rfl ?_
 refine g_iloadN (pc' := 6) W0.here hx (hb hby dc438) rfl rfl ?_
 refine g_icmpN (pc' := 9) W0.here hx (hb hby dc439) rfl (flt (show ¬ (kk < j) from hjk)).2.2.1 ?_
 refine g_iloadN (pc' := 10) W0.here hx (hb hby dc440) rfl rfl ?_
 refine g_iloadN (pc' := 11) W0.here hx (hb hby dc441) rfl rfl ?_
 refine g_icmpY (pc' := 22) W0.here hx (hb hby dc442) rfl (flt (show ¬ (n < kk) from hkn)).2.2.2 ?_
 refine g_iloadN (pc' := 23) W0.here hx (hb hby dc443) rfl rfl ?_
 refine w_retI W0 hx hh hlk hret (hb hby dc444) (B_ rfl) (B_ rfl) ?_
 exact ⟨rfl, rfl⟩
set_option maxRecDepth 65536 in
set_option maxHeartbeats 40000000 in
theorem c_cbe (l : Launch) (Z : State) (a0 : Array Value) (hw : ∀ d ∈ tables_1, d.before a0 Z = true) (hE : EW Z a0 consts_1) (cc : Int32) (fm : Value) (j kk n : Int32) (h0 : Heap) (O : Ext Z.heap h0) (G : SEnv Z cc fm) (hj : ¬ j < 0) (hjk : ¬ kk < j) (hkn : ¬ n < kk) :
    Con l Z consts_1 n_19 jdk_42_method_158_code 3 (Option.none : Option Jvm.ClassFile.FieldType) ({ frames := 1, cells := 0, slots := 0, locals := 15 } : Room) #[(.int j), (.int kk), (.int n)] h0 [] (pureQ none h0) := by
 refine Con.of (a0 := a0) #[.val (.int j), .val (.int kk), .val (.int n)] (plainFor_of_name pn_1) hE O all0 (fun m => by first | (simp [entryFrame, mkF, argsToLocals, Value.category]; done) | rfl) ?_
 intro p e s m below meth c T0 hx hby hml hnm hret hlk hh W0
 refine g_iloadN (pc' := 1) W0.here hx (hb hby dc445) rfl rfl ?_
 refine g_iloadN (pc' := 2) W0.here hx (hb hby dc446) rfl rfl ?_
 refine g_iloadN (pc' := 3) W0.here hx (hb hby dc447) rfl rfl ?_
 refine w_getS (pc' := 6) W0 hx (M_ hw w_86) Via.refl G.2.2.1 (hb hby dc448) rfl fun T155 W155 => ?_
 refine w_callSp (pc' := 9) (st := []) (y := n_18) W155 hx [(.int j), (.int kk), (.int n), fm] (M_ hw w_88) (M_ hw w_89) (M_ hw w_87) (M_ hw w_90) (by decide) (c_cft l Z a0 hw hE j kk n fm h0 W155.old G.2.2.2 hj hjk hkn) (by rw [hml]; rfl) (lenOf pd_11 rfl) rfl (hb hby dc449) (B_ rfl) (B_ rfl) rfl rfl (B_ rfl) (B_ rfl) rfl fun T156 W156 => ?_
 refine g_pop (pc' := 10) W156.here hx (hb hby dc450) rfl rfl ?_
 refine w_retV W156 hx hh hlk hret (hb hby dc451) (B_ rfl) (B_ rfl) ?_
 exact ⟨rfl, rfl⟩
set_option maxRecDepth 65536 in
set_option maxHeartbeats 40000000 in
theorem c_chkLen (l : Launch) (Z : State) (a0 : Array Value) (hw : ∀ d ∈ tables_1, d.before a0 Z = true) (hE : EW Z a0 consts_1) (j kk : Int32) (h0 : Heap) (O : Ext Z.heap h0) (hjk : ¬ kk < j) :
    Con l Z consts_1 n_20 jdk_65_method_131_code 2 (Option.none : Option Jvm.ClassFile.FieldType) ({ frames := 0, cells := 0, slots := 0, locals := 0 } : Room) #[(.int j), (.int kk)] h0 [] (pureQ none h0) := by
 refine Con.of (a0 := a0) #[.val (.int j), .val (.int kk)] (plainFor_of_name pn_5) hE O all0 (fun m => by first | (simp [entryFrame, mkF, argsToLocals, Value.category]; done) | rfl) ?_
 intro p e s m below meth c T0 hx hby hml hnm hret hlk hh W0
 refine g_iloadN (pc' := 1) W0.here hx (hb hby dc452) rfl rfl ?_
 refine g_iloadN (pc' := 2) W0.here hx (hb hby dc453) rfl rfl ?_
 refine g_icmpY (pc' := 37) W0.here hx (hb hby dc454) rfl (flt (show ¬ (kk < j) from hjk)).2.1 ?_
 refine w_retV W0 hx hh hlk hret (hb hby dc455) (B_ rfl) (B_ rfl) ?_
 exact ⟨rfl, rfl⟩
set_option maxRecDepth 65536 in
set_option maxHeartbeats 40000000 in
theorem c_minI (l : Launch) (Z : State) (a0 : Array Value) (hw : ∀ d ∈ tables_1, d.before a0 Z = true) (hE : EW Z a0 consts_1) (ya yb : Int32) (h0 : Heap) (O : Ext Z.heap h0) (hnn : ¬ ya < yb) :
    Con l Z consts_1 n_21 jdk_29_method_69_code 2 (Option.some Jvm.ClassFile.FieldType.int) ({ frames := 0, cells := 0, slots := 0, locals := 0 } : Room) #[(.int ya), (.int yb)] h0 [] (pureQ (some (.int yb)) h0) := by
 refine Con.of (a0 := a0) #[.val (.int ya), .val (.int yb)] (Jvm.Free.JP.mathPlain rfl (by decide +kernel)) hE O all0 (fun m => by first | (simp [entryFrame, mkF, argsToLocals, Value.category]; done) | rfl) ?_
 intro p e s m below meth c T0 hx hby hml hnm hret hlk hh W0
 refine g_iloadN (pc' := 1) W0.here hx (hb hby dc456) rfl rfl ?_
 refine g_iloadN (pc' := 2) W0.here hx (hb hby dc457) rfl rfl ?_
 by_cases hc2_157 : yb < ya
 ·
  refine g_icmpY (pc' := 9) W0.here hx (hb hby dc458) rfl (tlt hc2_157).2.2.1 ?_
  refine g_iloadN (pc' := 10) W0.here hx (hb hby dc459) rfl rfl ?_
  refine w_retI W0 hx hh hlk hret (hb hby dc460) (B_ rfl) (B_ rfl) ?_
  exact ⟨rfl, rfl⟩
 ·
  refine g_icmpN (pc' := 5) W0.here hx (hb hby dc458) rfl (flt hc2_157).2.2.1 ?_
  refine g_iloadN (pc' := 6) W0.here hx (hb hby dc461) rfl rfl ?_
  refine g_goto (pc' := 10) W0.here hx (hb hby dc462) rfl ?_
  refine w_retI W0 hx hh hlk hret (hb hby dc460) (B_ rfl) (B_ rfl) ?_
  exact ⟨congrArg (fun z => some (Value.int z)) (own_le2 hnn hc2_157), rfl⟩
set_option maxRecDepth 65536 in
set_option maxHeartbeats 40000000 in
theorem c_corb (l : Launch) (Z : State) (a0 : Array Value) (hw : ∀ d ∈ tables_1, d.before a0 Z = true) (hE : EW Z a0 consts_1) (b : Nat) (cs : List Int32) (bg en : Nat) (h0 : Heap) (O : Ext Z.heap h0) (VB : Ary Z h0 b .byte (cs.map latB)) (hse : bg ≤ en) (hel : en ≤ cs.length) (hcl : cs.length ≤ 14)  :
    Con l Z consts_1 n_22 jdk_65_method_133_code 5 (Option.some (Jvm.ClassFile.FieldType.array Jvm.ClassFile.FieldType.byte)) ({ frames := 1, cells := 1, slots := 14, locals := 40 } : Room) #[(.ref b), (.int bg.toInt32), (.int en.toInt32)] h0 [] (fun v h => ∃ ba : Nat, v = some (.ref ba) ∧ h0.size ≤ ba ∧ Ary Z h ba .byte (((cs.drop bg).take (en - bg)).map latB)) := by
 refine Con.of (a0 := a0) #[.val (.ref b), .val (.int bg.toInt32), .val (.int en.toInt32), .unset, .unset] (plainFor_of_name pn_5) hE O all0 (fun m => by first | (simp [entryFrame, mkF, argsToLocals, Value.category]; done) | rfl) ?_
 intro p e s m below meth c T0 hx hby hml hnm hret hlk hh W0
 have lt_b : b < h0.size := VB.lt
 refine g_iloadN (pc' := 1) W0.here hx (hb hby dc463) rfl rfl ?_
 refine g_iloadN (pc' := 2) W0.here hx (hb hby dc464) rfl rfl ?_
 refine w_callSp (pc' := 5) (st := []) (y := n_20) W0 hx [(.int bg.toInt32), (.int en.toInt32)] (M_ hw w_210) (M_ hw w_211) (M_ hw w_205) (M_ hw w_212) (by decide) (c_chkLen l Z a0 hw hE bg.toInt32 en.toInt32 h0 W0.old (own_nltn hse (by omega))) (by rw [hml]; rfl) (lenOf pd_6 rfl) rfl (hb hby dc465) (B_ rfl) (B_ rfl) rfl rfl (B_ rfl) (B_ rfl) rfl fun T158 W158 => ?_
 refine g_iloadN (pc' := 6) W158.here hx (hb hby dc466) rfl rfl ?_
 refine g_iloadN (pc' := 7) W158.here hx (hb hby dc467) rfl rfl ?_
 refine g_isub (pc' := 8) W158.here hx (hb hby dc468) rfl ?_
 refine g_name (w := .int (en - bg).toInt32) (congrArg Value.int (own_sub32 hse (by omega)).symm) ?_
 refine g_istoreN (pc' := 9) (Ls' := #[.val (.ref b), .val (.int bg.toInt32), .val (.int en.toInt32), .val (.int (en - bg).toInt32), .unset]) W158.here hx (hb hby dc469) rfl rfl ?_
 refine g_iloadN (pc' := 10) W158.here hx (hb hby dc470) rfl rfl ?_
 refine w_newarr (pc' := 12) (cap := 14) W158 hx (M_ hw w_26) (hb hby dc471) (own_nneg (by omega)) (by rw [i32_nat (by omega)]; omega) (B_ rfl) (B_ rfl) (B_ rfl) rfl rfl fun T159 h159 b159 g159 W159 K159 V159 => ?_
 have z_K159 : h0.size ≤ h159.size := K159.1
 have ne_b_b159 : b ≠ b159 := by omega
 have lt_b159 : b159 < h159.size := W159.lt (List.mem_cons_self ..)
 have V160 : Ary Z h159 b159 .byte (List.replicate (en - bg) (.int 0)) := by have q := V159; rw [i32_nat (by omega)] at q; exact q
 refine g_astore (pc' := 14) (Ls' := #[.val (.ref b), .val (.int bg.toInt32), .val (.int en.toInt32), .val (.int (en - bg).toInt32), .val (.ref b159)]) W159.here hx (hb hby dc472) rfl rfl rfl ?_
 refine g_aloadN (pc' := 15) W159.here hx (hb hby dc473) rfl rfl rfl ?_
 refine g_iloadN (pc' := 16) W159.here hx (hb hby dc474) rfl rfl ?_
 refine g_aload (pc' := 18) W159.here hx (hb hby dc475) rfl rfl rfl ?_
 refine g_iconst (0 : Int32) (pc' := 19) W159.here hx (hb hby dc476) rfl rfl ?_
 refine g_aloadN (pc' := 20) W159.here hx (hb hby dc477) rfl rfl rfl ?_
 have c161 := (VB.keep K159 nin0)
 refine w_len (pc' := 21) W159 hx c161 (hb hby dc478) rfl ?_
 refine g_name (w := .int cs.length.toInt32) (congrArg Value.int (by rw [List.length_map])) ?_
 refine g_iloadN (pc' := 22) W159.here hx (hb hby dc479) rfl rfl ?_
 refine g_isub (pc' := 23) W159.here hx (hb hby dc480) rfl ?_
 refine g_name (w := .int (cs.length - bg).toInt32) (congrArg Value.int (own_sub32 (by omega) (by omega)).symm) ?_
 refine g_iloadN (pc' := 24) W159.here hx (hb hby dc481) rfl rfl ?_
 refine w_callSp (pc' := 27) (st := [(.int 0), (.ref b159), (.int bg.toInt32), (.ref b)]) (y := n_21) W159 hx [(.int (cs.length - bg).toInt32), (.int (en - bg).toInt32)] (M_ hw w_213) (M_ hw w_214) (M_ hw w_121) (M_ hw w_215) (by decide) (c_minI l Z a0 hw hE (cs.length - bg).toInt32 (en - bg).toInt32 h159 W159.old (own_nltn (by omega) (by omega))) (by rw [hml]; rfl) (lenOf pd_12 rfl) rfl (hb hby dc482) (B_ rfl) (B_ rfl) rfl rfl (B_ rfl) (B_ rfl) rfl fun T162 W162 => ?_
 refine w_arrcopy (pc' := 30) (st := []) W162 hx (M_ hw w_216) (M_ hw w_219) (M_ hw w_217) (M_ hw w_218) c161 V160 (List.mem_of_getElem? (i := 0) rfl) (own_nneg (by omega)) (by decide) (own_nneg (by omega)) (by rw [i32_nat (by omega), i32_nat (by omega), List.length_map]; omega) (by rw [i32_nat (by omega), List.length_replicate, show (0 : Int32).toNatClampNeg = 0 from rfl]; omega) (by rw [hml]; rfl) (hb hby dc483) (B_ rfl) (B_ rfl) rfl fun T163 h163 W163 K163 V163 => ?_
 have z_K163 : h159.size ≤ h163.size := K163.1
 have V164 : Ary Z h163 b159 .byte (((cs.drop bg).take (en - bg)).map latB) := by rw [← own_corb hse hel hcl]; exact V163
 refine g_aload (pc' := 32) W163.here hx (hb hby dc484) rfl rfl rfl ?_
 refine w_retA W163 hx hh hlk hret rfl rfl (hb hby dc485) (B_ rfl) (B_ rfl) ?_
 exact ⟨_, rfl, by omega, V164⟩
set_option maxRecDepth 65536 in
set_option maxHeartbeats 40000000 in
theorem c_cor (l : Launch) (Z : State) (a0 : Array Value) (hw : ∀ d ∈ tables_1, d.before a0 Z = true) (hE : EW Z a0 consts_1) (b : Nat) (cs : List Int32) (bg en : Nat) (h0 : Heap) (O : Ext Z.heap h0) (VB : Ary Z h0 b .byte (cs.map latB)) (hse : bg ≤ en) (hel : en ≤ cs.length) (hcl : cs.length ≤ 14) (hnot : ¬ (bg = 0 ∧ en = cs.length))  :
    Con l Z consts_1 n_23 jdk_65_method_132_code 3 (Option.some (Jvm.ClassFile.FieldType.array Jvm.ClassFile.FieldType.byte)) ({ frames := 2, cells := 1, slots := 14, locals := 56 } : Room) #[(.ref b), (.int bg.toInt32), (.int en.toInt32)] h0 [] (fun v h => ∃ ba : Nat, v = some (.ref ba) ∧ h0.size ≤ ba ∧ Ary Z h ba .byte (((cs.drop bg).take (en - bg)).map latB)) := by
 refine Con.of (a0 := a0) #[.val (.ref b), .val (.int bg.toInt32), .val (.int en.toInt32)] (plainFor_of_name pn_5) hE O all0 (fun m => by first | (simp [entryFrame, mkF, argsToLocals, Value.category]; done) | rfl) ?_
 intro p e s m below meth c T0 hx hby hml hnm hret hlk hh W0
 have lt_b : b < h0.size := VB.lt
 refine g_iloadN (pc' := 1) W0.here hx (hb hby dc486) rfl rfl ?_
 by_cases hc1_165 : bg.toInt32 = (0 : Int32)
 ·
  refine g_ifN (pc' := 4) W0.here hx (hb hby dc487) rfl (teq hc1_165).2 ?_
  refine g_iloadN (pc' := 5) W0.here hx (hb hby dc488) rfl rfl ?_
  refine g_aloadN (pc' := 6) W0.here hx (hb hby dc489) rfl rfl rfl ?_
  refine w_len (pc' := 7) W0 hx VB (hb hby dc490) rfl ?_
  refine g_name (w := .int cs.length.toInt32) (congrArg Value.int (by rw [List.length_map])) ?_
  refine g_icmpN (pc' := 10) W0.here hx (hb hby dc491) rfl (feq (show ¬ (en.toInt32 = cs.length.toInt32) from (fun q => hnot ⟨own_z0 (by omega) hc1_165, (own_n32 (by omega) (by omega)).mp q⟩))).1 ?_
  refine g_aloadN (pc' := 11) W0.here hx (hb hby dc492) rfl rfl rfl ?_
  refine g_iloadN (pc' := 12) W0.here hx (hb hby dc493) rfl rfl ?_
  refine g_iloadN (pc' := 13) W0.here hx (hb hby dc494) rfl rfl ?_
  refine w_callS (pc' := 16) (st := []) (y := n_22) W0 hx [(.ref b), (.int bg.toInt32), (.int en.toInt32)] (M_ hw w_207) (M_ hw w_208) (M_ hw w_205) (M_ hw w_209) (by decide) (c_corb l Z a0 hw hE b cs bg en h0 W0.old VB hse hel hcl) all0 (by rw [hml]; rfl) (lenOf pd_13 rfl) rfl (hb hby dc495) (B_ rfl) (B_ rfl) (B_ rfl) (B_ rfl) rfl fun v166 T166 h166 W166 K166 Q166 => ?_
  have z_K166 : h0.size ≤ h166.size := K166.1
  obtain ⟨ba167, rfl, gz167, V167⟩ := Q166
  have ne_b_ba167 : b ≠ ba167 := by omega
  have lt_ba167 : ba167 < h166.size := V167.lt
  refine w_retA W166 hx hh hlk hret rfl rfl (hb hby dc496) (B_ rfl) (B_ rfl) ?_
  exact ⟨_, rfl, by omega, V167⟩
 ·
  refine g_ifY (pc' := 10) W0.here hx (hb hby dc487) rfl (feq hc1_165).2 ?_
  refine g_aloadN (pc' := 11) W0.here hx (hb hby dc492) rfl rfl rfl ?_
  refine g_iloadN (pc' := 12) W0.here hx (hb hby dc493) rfl rfl ?_
  refine g_iloadN (pc' := 13) W0.here hx (hb hby dc494) rfl rfl ?_
  refine w_callS (pc' := 16) (st := []) (y := n_22) W0 hx [(.ref b), (.int bg.toInt32), (.int en.toInt32)] (M_ hw w_207) (M_ hw w_208) (M_ hw w_205) (M_ hw w_209) (by decide) (c_corb l Z a0 hw hE b cs bg en h0 W0.old VB hse hel hcl) all0 (by rw [hml]; rfl) (lenOf pd_13 rfl) rfl (hb hby dc495) (B_ rfl) (B_ rfl) (B_ rfl) (B_ rfl) rfl fun v168 T168 h168 W168 K168 Q168 => ?_
  have z_K168 : h0.size ≤ h168.size := K168.1
  obtain ⟨ba169, rfl, gz169, V169⟩ := Q168
  have ne_b_ba169 : b ≠ ba169 := by omega
  have lt_ba169 : ba169 < h168.size := V169.lt
  refine w_retA W168 hx hh hlk hret rfl rfl (hb hby dc496) (B_ rfl) (B_ rfl) ?_
  exact ⟨_, rfl, by omega, V169⟩
set_option maxRecDepth 65536 in
set_option maxHeartbeats 40000000 in
theorem c_sinitBB (l : Launch) (Z : State) (a0 : Array Value) (hw : ∀ d ∈ tables_1, d.before a0 Z = true) (hE : EW Z a0 consts_1) (o bb : Nat) (cs : List Int32) (h0 : Heap) (O : Ext Z.heap h0) (hz : Z.heap.size ≤ o) (E0 : Exa Z h0 o "java/lang/String") (u1 u2 : Value) (F1 : Fld Z h0 o "java/lang/String" "coder" "B" u1) (F2 : Fld Z h0 o "java/lang/String" "value" "[B" u2) (VB : Ary Z h0 bb .byte (cs.map latB)) (hch : ∀ c ∈ cs, 0 ≤ c.toInt ∧ c.toInt ≤ 255) (hob : o ≠ bb) :
    Con l Z consts_1 n_24 jdk_42_method_151_code 3 (Option.none : Option Jvm.ClassFile.FieldType) ({ frames := 1, cells := 0, slots := 0, locals := 12 } : Room) #[(.ref o), (.ref bb), (.int 0)] h0 [o] (fun v h => v = none ∧ SL Z h o bb cs) := by
 refine Con.of (a0 := a0) #[.val (.ref o), .val (.ref bb), .val (.int 0)] (plainFor_of_name pn_1) hE O (allS ⟨hz, E0.lt⟩ all0) (fun m => by first | (simp [entryFrame, mkF, argsToLocals, Value.category]; done) | rfl) ?_
 intro p e s m below meth c T0 hx hby hml hnm hret hlk hh W0
 refine g_aloadN (pc' := 1) W0.here hx (hb hby dc497) rfl rfl rfl ?_
 refine w_initO (pc' := 4) W0 hx (M_ hw w_22) (M_ hw w_23) (M_ hw w_24) (by rw [hml]; rfl) (hb hby dc498) (B_ rfl) (B_ rfl) rfl fun T170 W170 => ?_
 refine g_aloadN (pc' := 5) W170.here hx (hb hby dc499) rfl rfl rfl ?_
 refine g_aloadN (pc' := 6) W170.here hx (hb hby dc500) rfl rfl rfl ?_
 refine w_put (pc' := 9) W170 hx (M_ hw w_31) Via.refl F2 E0 (Or.inr ⟨(M_ hw w_27), rfl, hnm⟩) (M_ hw w_13) (ty := (.array .byte)) (by decide) rfl rfl (List.mem_of_getElem? (i := 0) rfl) (hb hby dc501) rfl fun T171 h171 W171 K171 R171 F171 A171 => ?_
 have z_K171 : h0.size ≤ h171.size := K171.1
 have c172 := (F1.other R171 (Or.inr (slot_ne (Or.inr (M_ hw w_28)) (Or.inr (M_ hw w_27)) (by decide) (t := .byte) (t' := (.array .byte)) (by decide) (by decide))))
 refine g_aloadN (pc' := 10) W171.here hx (hb hby dc502) rfl rfl rfl ?_
 refine g_iloadN (pc' := 11) W171.here hx (hb hby dc503) rfl rfl ?_
 refine w_putN (pc' := 14) (v' := (.int 0)) W171 hx (M_ hw w_32) Via.refl c172 A171 (Or.inr ⟨(M_ hw w_28), rfl, hnm⟩) (M_ hw w_13) (ty := .byte) (by decide) rfl rfl (List.mem_of_getElem? (i := 0) rfl) (hb hby dc504) rfl fun T173 h173 W173 K173 R173 F173 A173 => ?_
 have z_K173 : h171.size ≤ h173.size := K173.1
 have c174 := (F171.other R173 (Or.inr (slot_ne (Or.inr (M_ hw w_27)) (Or.inr (M_ hw w_28)) (by decide) (t := (.array .byte)) (t' := .byte) (by decide) (by decide))))
 have c175 := ((VB.keep K171 (ninS (Ne.symm hob) nin0)).keep K173 (ninS (Ne.symm hob) nin0))
 refine w_retV W173 hx hh hlk hret (hb hby dc505) (B_ rfl) (B_ rfl) ?_
 exact ⟨rfl, A173, F173, c174, c175, hch⟩
set_option maxRecDepth 65536 in
set_option maxHeartbeats 40000000 in
theorem c_newStr (l : Launch) (Z : State) (a0 : Array Value) (hw : ∀ d ∈ tables_1, d.before a0 Z = true) (hE : EW Z a0 consts_1) (b : Nat) (cs : List Int32) (bg en : Nat) (h0 : Heap) (O : Ext Z.heap h0) (VB : Ary Z h0 b .byte (cs.map latB)) (hse : bg ≤ en) (hel : en ≤ cs.length) (hcl : cs.length ≤ 14) (hnot : ¬ (bg = 0 ∧ en = cs.length)) (hch : ∀ c ∈ cs, 0 ≤ c.toInt ∧ c.toInt ≤ 255)  :
    Con l Z consts_1 n_25 jdk_43_method_47_code 3 (Option.some (Jvm.ClassFile.FieldType.object "java/lang/String")) ({ frames := 3, cells := 2, slots := 18, locals := 72 } : Room) #[(.ref b), (.int bg.toInt32), (.int (en - bg).toInt32)] h0 [] (fun v h => ∃ (t u : Nat), v = some (.ref t) ∧ SL Z h t u ((cs.drop bg).take (en - bg))) := by
 refine Con.of (a0 := a0) #[.val (.ref b), .val (.int bg.toInt32), .val (.int (en - bg).toInt32)] (plainFor_of_name pn_3) hE O all0 (fun m => by first | (simp [entryFrame, mkF, argsToLocals, Value.category]; done) | rfl) ?_
 intro p e s m below meth c T0 hx hby hml hnm hret hlk hh W0
 have lt_b : b < h0.size := VB.lt
 refine g_iloadN (pc' := 1) W0.here hx (hb hby dc506) rfl rfl ?_
 by_cases hc1_176 : (en - bg).toInt32 = (0 : Int32)
 ·
  refine g_ifN (pc' := 4) W0.here hx (hb hby dc507) rfl (teq hc1_176).2 ?_
  refine w_ldcS (pc' := 6) (vs := []) (z := 0) W0 hx (M_ hw w_201) (own_atoms hw) (List.mem_of_getElem? (i := 1) rfl) ⟨fun _ q => (nomatch q), rfl⟩ (by decide) rfl (hb hby dc508) 0 (B_ rfl) (B_ rfl) (B_ rfl) (B_ rfl) rfl fun T177 h177 sa177 sb177 W177 K177 A177 C177 F177 V177 N177 => ?_
  have z_K177 : h0.size ≤ h177.size := K177.1
  refine w_retA W177 hx hh hlk hret rfl rfl (hb hby dc509) (B_ rfl) (B_ rfl) ?_
  refine ⟨_, _, rfl, A177, C177, F177, ?_, own_plat hch⟩
  rw [own_piece0 (own_z0 (by omega) hc1_176)]; exact V177
 ·
  refine g_ifY (pc' := 7) W0.here hx (hb hby dc507) rfl (feq hc1_176).2 ?_
  refine w_new (pc' := 10) W0 hx (M_ hw w_202) (M_ hw w_13) (M_ hw w_14) (hb hby dc510) (B_ rfl) (B_ rfl) rfl fun T178 h178 b178 g178 W178 K178 A178 D178 => ?_
  have z_K178 : h0.size ≤ h178.size := K178.1
  have ne_b_b178 : b ≠ b178 := by omega
  have lt_b178 : b178 < h178.size := W178.lt (List.mem_cons_self ..)
  have F178_value : Fld Z h178 b178 "java/lang/String" "value" "[B" .null := D178 (Or.inr (M_ hw w_27)) (ty := (.array .byte)) (by decide)
  have F178_coder : Fld Z h178 b178 "java/lang/String" "coder" "B" (.int 0) := D178 (Or.inr (M_ hw w_28)) (ty := .byte) (by decide)
  refine g_dup (pc' := 11) W178.here hx (hb hby dc511) rfl rfl ?_
  refine g_aloadN (pc' := 12) W178.here hx (hb hby dc512) rfl rfl rfl ?_
  refine g_iloadN (pc' := 13) W178.here hx (hb hby dc513) rfl rfl ?_
  refine g_iloadN (pc' := 14) W178.here hx (hb hby dc514) rfl rfl ?_
  refine g_iloadN (pc' := 15) W178.here hx (hb hby dc515) rfl rfl ?_
  refine g_iadd (pc' := 16) W178.here hx (hb hby dc516) rfl ?_
  refine g_name (w := .int en.toInt32) (congrArg Value.int (own_aba hse).symm) ?_
  have c179 := (VB.keep K178 nin0)
  refine w_callS (pc' := 19) (st := [(.ref b178), (.ref b178)]) (y := n_23) W178 hx [(.ref b), (.int bg.toInt32), (.int en.toInt32)] (M_ hw w_203) (M_ hw w_204) (M_ hw w_205) (M_ hw w_206) (by decide) (c_cor l Z a0 hw hE b cs bg en h178 W178.old c179 hse hel hcl hnot) all0 (by rw [hml]; rfl) (lenOf pd_13 rfl) rfl (hb hby dc517) (B_ rfl) (B_ rfl) (B_ rfl) (B_ rfl) rfl fun v180 T180 h180 W180 K180 Q180 => ?_
  have z_K180 : h178.size ≤ h180.size := K180.1
  obtain ⟨ba181, rfl, gz181, V181⟩ := Q180
  have ne_b_ba181 : b ≠ ba181 := by omega
  have ne_b178_ba181 : b178 ≠ ba181 := by omega
  have lt_ba181 : ba181 < h180.size := V181.lt
  refine g_iconst (0 : Int32) (pc' := 20) W180.here hx (hb hby dc518) rfl rfl ?_
  have c182 := (A178.keep K180)
  have c183 := (F178_coder.keep K180 nin0)
  have c184 := (F178_value.keep K180 nin0)
  refine w_special (pc' := 23) (st := [(.ref b178)]) (y := n_24) (a := b178) W180 hx [(.ref ba181), (.int 0)] rfl (M_ hw w_220) (M_ hw w_221) (M_ hw w_14) (M_ hw w_222) (by decide) (c_sinitBB l Z a0 hw hE b178 ba181 ((cs.drop bg).take (en - bg)) h180 W180.old (by have := O.1; omega) c182 _ _ c183 c184 V181 (own_plat hch) ne_b178_ba181) (allS (List.mem_of_getElem? (i := 0) rfl) all0) (by rw [hml]; rfl) (lenOf pd_14 rfl) rfl (hb hby dc519) (B_ rfl) (B_ rfl) (B_ rfl) (B_ rfl) rfl fun v185 T185 h185 W185 K185 Q185 => ?_
  have z_K185 : h180.size ≤ h185.size := K185.1
  obtain ⟨rfl, S186⟩ := Q185
  have ES186 := S186.1
  refine w_retA W185 hx hh hlk hret rfl rfl (hb hby dc520) (B_ rfl) (B_ rfl) ?_
  exact ⟨_, _, rfl, S186⟩
set_option maxRecDepth 65536 in
set_option maxHeartbeats 40000000 in
theorem c_sub2 (l : Launch) (Z : State) (a0 : Array Value) (hw : ∀ d ∈ tables_1, d.before a0 Z = true) (hE : EW Z a0 consts_1) (cc : Int32) (fm : Value) (a b : Nat) (cs : List Int32) (bg en : Nat) (h0 : Heap) (O : Ext Z.heap h0) (G : SEnv Z cc fm) (S0 : SL Z h0 a b cs) (hse : bg ≤ en) (hel : en ≤ cs.length) (hcl : cs.length ≤ 14)  :
    Con l Z consts_1 n_26 jdk_42_method_92_code 5 (Option.some (Jvm.ClassFile.FieldType.object "java/lang/String")) ({ frames := 4, cells := 2, slots := 18, locals := 86 } : Room) #[(.ref a), (.int bg.toInt32), (.int en.toInt32)] h0 [] (fun v h => ∃ (t u : Nat), v = some (.ref t) ∧ SL Z h t u ((cs.drop bg).take (en - bg))) := by
 refine Con.of (a0 := a0) #[.val (.ref a), .val (.int bg.toInt32), .val (.int en.toInt32), .unset, .unset] (plainFor_of_name pn_1) hE O all0 (fun m => by first | (simp [entryFrame, mkF, argsToLocals, Value.category]; done) | rfl) ?_
 intro p e s m below meth c T0 hx hby hml hnm hret hlk hh W0
 obtain ⟨E_a, FC_a, FV_a, V_b, L_a⟩ := id S0
 have ES0 := S0.1
 have lt_a : a < h0.size := S0.lt
 have lt_b : b < h0.size := S0.ltb
 have hlen : cs.length < 2 ^ 31 := by omega
 refine g_aloadN (pc' := 1) W0.here hx (hb hby dc521) rfl rfl rfl ?_
 refine w_virtualp (pc' := 4) (st := []) (y := n_6) (z := n_6) (a := a) W0 hx [] (M_ hw w_77) (M_ hw w_62) (nfS (z := n_6) (M_ hw w_64)) (M_ hw w_64) (M_ hw w_63) (M_ hw w_14) (M_ hw w_65) (by decide) (c_length l Z a0 hw hE cc fm a b cs  h0 W0.old G S0 ) ES0 (by rw [hml]; rfl) (lenOf pd_15 rfl) rfl (hb hby dc522) (B_ rfl) (B_ rfl) rfl rfl (B_ rfl) (B_ rfl) rfl fun T187 W187 => ?_
 refine g_istoreN (pc' := 5) (Ls' := #[.val (.ref a), .val (.int bg.toInt32), .val (.int en.toInt32), .val (.int cs.length.toInt32), .unset]) W187.here hx (hb hby dc523) rfl rfl ?_
 refine g_iloadN (pc' := 6) W187.here hx (hb hby dc524) rfl rfl ?_
 refine g_iloadN (pc' := 7) W187.here hx (hb hby dc525) rfl rfl ?_
 refine g_iloadN (pc' := 8) W187.here hx (hb hby dc526) rfl rfl ?_
 refine w_callSp (pc' := 11) (st := []) (y := n_19) W187 hx [(.int bg.toInt32), (.int en.toInt32), (.int cs.length.toInt32)] (M_ hw w_83) (M_ hw w_84) (M_ hw w_14) (M_ hw w_85) (by decide) (c_cbe l Z a0 hw hE cc fm bg.toInt32 en.toInt32 cs.length.toInt32 h0 W187.old G (own_nneg (by omega)) (own_nltn hse (by omega)) (own_nltn hel (by omega))) (by rw [hml]; rfl) (lenOf pd_16 rfl) rfl (hb hby dc527) (B_ rfl) (B_ rfl) rfl rfl (B_ rfl) (B_ rfl) rfl fun T188 W188 => ?_
 refine g_iloadN (pc' := 12) W188.here hx (hb hby dc528) rfl rfl ?_
 by_cases hc12_189 : bg.toInt32 = (0 : Int32)
 ·
  refine g_ifN (pc' := 15) W188.here hx (hb hby dc529) rfl (teq hc12_189).2 ?_
  refine g_iloadN (pc' := 16) W188.here hx (hb hby dc530) rfl rfl ?_
  refine g_iloadN (pc' := 17) W188.here hx (hb hby dc531) rfl rfl ?_
  by_cases hc17_190 : en.toInt32 = cs.length.toInt32
  ·
   refine g_icmpN (pc' := 20) W188.here hx (hb hby dc532) rfl (teq hc17_190).2 ?_
   refine g_aloadN (pc' := 21) W188.here hx (hb hby dc533) rfl rfl rfl ?_
   refine w_retA W188 hx hh hlk hret rfl rfl (hb hby dc534) (B_ rfl) (B_ rfl) ?_
   refine ⟨a, b, rfl, ?_⟩
   rw [own_whole (own_z0 (by omega) hc12_189) ((own_n32 (by omega) (by omega)).mp hc17_190)]; exact S0
  ·
   refine g_icmpY (pc' := 22) W188.here hx (hb hby dc532) rfl (feq hc17_190).2 ?_
   have hnot : ¬ (bg = 0 ∧ en = cs.length) := fun q => hc17_190 (by rw [q.2])
   refine g_iloadN (pc' := 23) W188.here hx (hb hby dc535) rfl rfl ?_
   refine g_iloadN (pc' := 24) W188.here hx (hb hby dc536) rfl rfl ?_
   refine g_isub (pc' := 25) W188.here hx (hb hby dc537) rfl ?_
   refine g_name (w := .int (en - bg).toInt32) (congrArg Value.int (own_sub32 hse (by omega)).symm) ?_
   refine g_istore (pc' := 27) (Ls' := #[.val (.ref a), .val (.int bg.toInt32), .val (.int en.toInt32), .val (.int cs.length.toInt32), .val (.int (en - bg).toInt32)]) W188.here hx (hb hby dc538) rfl rfl ?_
   refine g_aloadN (pc' := 28) W188.here hx (hb hby dc539) rfl rfl rfl ?_
   refine w_virtualp (pc' := 31) (st := []) (y := n_7) (z := n_7) (a := a) W188 hx [] (M_ hw w_182) (M_ hw w_183) (nfS (z := n_7) (M_ hw w_185)) (M_ hw w_185) (M_ hw w_184) (M_ hw w_14) (M_ hw w_186) (by decide) (c_isLat l Z a0 hw hE cc fm a b cs h0 W188.old G S0) ES0 (by rw [hml]; rfl) (lenOf pd_7 rfl) rfl (hb hby dc540) (B_ rfl) (B_ rfl) rfl rfl (B_ rfl) (B_ rfl) rfl fun T191 W191 => ?_
   refine g_ifN (pc' := 34) W191.here hx (hb hby dc541) rfl (feq (show ¬ ((1 : Int32) = (0 : Int32)) from (by decide))).1 ?_
   refine g_aloadN (pc' := 35) W191.here hx (hb hby dc542) rfl rfl rfl ?_
   refine w_get (pc' := 38) W191 hx (M_ hw w_31) Via.refl FV_a (hb hby dc543) rfl fun T192 W192 => ?_
   refine g_iloadN (pc' := 39) W192.here hx (hb hby dc544) rfl rfl ?_
   refine g_iload (pc' := 41) W192.here hx (hb hby dc545) rfl rfl ?_
   refine w_callS (pc' := 44) (st := []) (y := n_25) W192 hx [(.ref b), (.int bg.toInt32), (.int (en - bg).toInt32)] (M_ hw w_198) (M_ hw w_199) (M_ hw w_162) (M_ hw w_200) (by decide) (c_newStr l Z a0 hw hE b cs bg en h0 W192.old V_b hse hel hcl hnot L_a) all0 (by rw [hml]; rfl) (lenOf pd_17 rfl) rfl (hb hby dc546) (B_ rfl) (B_ rfl) (B_ rfl) (B_ rfl) rfl fun v193 T193 h193 W193 K193 Q193 => ?_
   have z_K193 : h0.size ≤ h193.size := K193.1
   obtain ⟨t194, u194, rfl, S194⟩ := Q193
   have ES194 := S194.1
   have lt_t194 : t194 < h193.size := S194.lt
   have lt_u194 : u194 < h193.size := S194.ltb
   refine g_goto (pc' := 57) W193.here hx (hb hby dc547) rfl ?_
   refine w_retA W193 hx hh hlk hret rfl rfl (hb hby dc548) (B_ rfl) (B_ rfl) ?_
   exact ⟨_, _, rfl, S194⟩
 ·
  refine g_ifY (pc' := 22) W188.here hx (hb hby dc529) rfl (feq hc12_189).2 ?_
  have hnot : ¬ (bg = 0 ∧ en = cs.length) := fun q => hc12_189 (by rw [q.1]; rfl)
  refine g_iloadN (pc' := 23) W188.here hx (hb hby dc535) rfl rfl ?_
  refine g_iloadN (pc' := 24) W188.here hx (hb hby dc536) rfl rfl ?_
  refine g_isub (pc' := 25) W188.here hx (hb hby dc537) rfl ?_
  refine g_name (w := .int (en - bg).toInt32) (congrArg Value.int (own_sub32 hse (by omega)).symm) ?_
  refine g_istore (pc' := 27) (Ls' := #[.val (.ref a), .val (.int bg.toInt32), .val (.int en.toInt32), .val (.int cs.length.toInt32), .val (.int (en - bg).toInt32)]) W188.here hx (hb hby dc538) rfl rfl ?_
  refine g_aloadN (pc' := 28) W188.here hx (hb hby dc539) rfl rfl rfl ?_
  refine w_virtualp (pc' := 31) (st := []) (y := n_7) (z := n_7) (a := a) W188 hx [] (M_ hw w_182) (M_ hw w_183) (nfS (z := n_7) (M_ hw w_185)) (M_ hw w_185) (M_ hw w_184) (M_ hw w_14) (M_ hw w_186) (by decide) (c_isLat l Z a0 hw hE cc fm a b cs h0 W188.old G S0) ES0 (by rw [hml]; rfl) (lenOf pd_7 rfl) rfl (hb hby dc540) (B_ rfl) (B_ rfl) rfl rfl (B_ rfl) (B_ rfl) rfl fun T195 W195 => ?_
  refine g_ifN (pc' := 34) W195.here hx (hb hby dc541) rfl (feq (show ¬ ((1 : Int32) = (0 : Int32)) from (by decide))).1 ?_
  refine g_aloadN (pc' := 35) W195.here hx (hb hby dc542) rfl rfl rfl ?_
  refine w_get (pc' := 38) W195 hx (M_ hw w_31) Via.refl FV_a (hb hby dc543) rfl fun T196 W196 => ?_
  refine g_iloadN (pc' := 39) W196.here hx (hb hby dc544) rfl rfl ?_
  refine g_iload (pc' := 41) W196.here hx (hb hby dc545) rfl rfl ?_
  refine w_callS (pc' := 44) (st := []) (y := n_25) W196 hx [(.ref b), (.int bg.toInt32), (.int (en - bg).toInt32)] (M_ hw w_198) (M_ hw w_199) (M_ hw w_162) (M_ hw w_200) (by decide) (c_newStr l Z a0 hw hE b cs bg en h0 W196.old V_b hse hel hcl hnot L_a) all0 (by rw [hml]; rfl) (lenOf pd_17 rfl) rfl (hb hby dc546) (B_ rfl) (B_ rfl) (B_ rfl) (B_ rfl) rfl fun v197 T197 h197 W197 K197 Q197 => ?_
  have z_K197 : h0.size ≤ h197.size := K197.1
  obtain ⟨t198, u198, rfl, S198⟩ := Q197
  have ES198 := S198.1
  have lt_t198 : t198 < h197.size := S198.lt
  have lt_u198 : u198 < h197.size := S198.ltb
  refine g_goto (pc' := 57) W197.here hx (hb hby dc547) rfl ?_
  refine w_retA W197 hx hh hlk hret rfl rfl (hb hby dc548) (B_ rfl) (B_ rfl) ?_
  exact ⟨_, _, rfl, S198⟩
set_option maxRecDepth 65536 in
set_option maxHeartbeats 40000000 in
theorem c_sub1 (l : Launch) (Z : State) (a0 : Array Value) (hw : ∀ d ∈ tables_1, d.before a0 Z = true) (hE : EW Z a0 consts_1) (cc : Int32) (fm : Value) (a b : Nat) (cs : List Int32) (bg : Nat) (h0 : Heap) (O : Ext Z.heap h0) (G : SEnv Z cc fm) (S0 : SL Z h0 a b cs) (hel : bg ≤ cs.length) (hcl : cs.length ≤ 14)  :
    Con l Z consts_1 n_27 jdk_42_method_91_code 2 (Option.some (Jvm.ClassFile.FieldType.object "java/lang/String")) ({ frames := 5, cells := 2, slots := 18, locals := 102 } : Room) #[(.ref a), (.int bg.toInt32)] h0 [] (fun v h => ∃ (t u : Nat), v = some (.ref t) ∧ SL Z h t u ((cs.drop bg).take (cs.length - bg))) := by
 refine Con.of (a0 := a0) #[.val (.ref a), .val (.int bg.toInt32)] (plainFor_of_name pn_1) hE O all0 (fun m => by first | (simp [entryFrame, mkF, argsToLocals, Value.category]; done) | rfl) ?_
 intro p e s m below meth c T0 hx hby hml hnm hret hlk hh W0
 obtain ⟨E_a, FC_a, FV_a, V_b, L_a⟩ := id S0
 have ES0 := S0.1
 have lt_a : a < h0.size := S0.lt
 have lt_b : b < h0.size := S0.ltb
 have hlen : cs.length < 2 ^ 31 := by omega
 refine g_aloadN (pc' := 1) W0.here hx (hb hby dc549) rfl rfl rfl ?_
 refine g_iloadN (pc' := 2) W0.here hx (hb hby dc550) rfl rfl ?_
 refine g_aloadN (pc' := 3) W0.here hx (hb hby dc551) rfl rfl rfl ?_
 refine w_virtualp (pc' := 6) (st := [(.int bg.toInt32), (.ref a)]) (y := n_6) (z := n_6) (a := a) W0 hx [] (M_ hw w_77) (M_ hw w_62) (nfS (z := n_6) (M_ hw w_64)) (M_ hw w_64) (M_ hw w_63) (M_ hw w_14) (M_ hw w_65) (by decide) (c_length l Z a0 hw hE cc fm a b cs  h0 W0.old G S0 ) ES0 (by rw [hml]; rfl) (lenOf pd_15 rfl) rfl (hb hby dc552) (B_ rfl) (B_ rfl) rfl rfl (B_ rfl) (B_ rfl) rfl fun T199 W199 => ?_
 refine w_virtual (pc' := 9) (st := []) (y := n_26) (z := n_26) (a := a) W199 hx [(.int bg.toInt32), (.int cs.length.toInt32)] (M_ hw w_78) (M_ hw w_79) (nfS (z := n_26) (M_ hw w_81)) (M_ hw w_81) (M_ hw w_80) (M_ hw w_14) (M_ hw w_82) (by decide) (c_sub2 l Z a0 hw hE cc fm a b cs bg cs.length h0 W199.old G S0 (by omega) (by omega) hcl) ES0 all0 (by rw [hml]; rfl) (lenOf pd_18 rfl) rfl (hb hby dc553) (B_ rfl) (B_ rfl) (B_ rfl) (B_ rfl) rfl fun v200 T200 h200 W200 K200 Q200 => ?_
 have z_K200 : h0.size ≤ h200.size := K200.1
 obtain ⟨t201, u201, rfl, S201⟩ := Q200
 have ES201 := S201.1
 have lt_t201 : t201 < h200.size := S201.lt
 have lt_u201 : u201 < h200.size := S201.ltb
 refine w_retA W200 hx hh hlk hret rfl rfl (hb hby dc554) (B_ rfl) (B_ rfl) ?_
 exact ⟨_, _, rfl, S201⟩
set_option maxRecDepth 65536 in
set_option maxHeartbeats 40000000 in
theorem c_abcinit (l : Launch) (Z : State) (a0 : Array Value) (hw : ∀ d ∈ tables_1, d.before a0 Z = true) (hE : EW Z a0 consts_1) (o : Nat) (h0 : Heap) (O : Ext Z.heap h0)  :
    Con l Z consts_1 n_28 jdk_22_method_1_code 1 (Option.none : Option Jvm.ClassFile.FieldType) ({ frames := 1, cells := 0, slots := 0, locals := 12 } : Room) #[(.ref o)] h0 [] (fun v _ => v = none) := by
 refine Con.of (a0 := a0) #[.val (.ref o)] (plainFor_of_name pn_6) hE O all0 (fun m => by first | (simp [entryFrame, mkF, argsToLocals, Value.category]; done) | rfl) ?_
 intro p e s m below meth c T0 hx hby hml hnm hret hlk hh W0
 refine g_aloadN (pc' := 1) W0.here hx (hb hby dc555) rfl rfl rfl ?_
 refine w_initO (pc' := 4) W0 hx (M_ hw w_55) (M_ hw w_23) (M_ hw w_24) (by rw [hml]; rfl) (hb hby dc556) (B_ rfl) (B_ rfl) rfl fun T202 W202 => ?_
 refine w_retV W202 hx hh hlk hret (hb hby dc557) (B_ rfl) (B_ rfl) ?_
 exact rfl
set_option maxRecDepth 65536 in
set_option maxHeartbeats 40000000 in
theorem c_ablinit (l : Launch) (Z : State) (a0 : Array Value) (hw : ∀ d ∈ tables_1, d.before a0 Z = true) (hE : EW Z a0 consts_1) (o : Nat) (h0 : Heap) (O : Ext Z.heap h0) (hz : Z.heap.size ≤ o) (E0 : Exa Z h0 o "java/util/ArrayList") (FM : Fld Z h0 o "java/util/AbstractList" "modCount" "I" (.int 0)) (FD : Fld Z h0 o "java/util/ArrayList" "elementData" "[Ljava/lang/Object;" .null) (FS : Fld Z h0 o "java/util/ArrayList" "size" "I" (.int 0))  :
    Con l Z consts_1 n_29 jdk_39_method_1_code 1 (Option.none : Option Jvm.ClassFile.FieldType) ({ frames := 2, cells := 0, slots := 0, locals := 24 } : Room) #[(.ref o)] h0 [o] (fun v h => v = none ∧ Exa Z h o "java/util/ArrayList" ∧ Fld Z h o "java/util/AbstractList" "modCount" "I" (.int 0) ∧ Fld Z h o "java/util/ArrayList" "elementData" "[Ljava/lang/Object;" .null ∧ Fld Z h o "java/util/ArrayList" "size" "I" (.int 0)) := by
 refine Con.of (a0 := a0) #[.val (.ref o)] (plainFor_of_name pn_7) hE O (allS ⟨hz, E0.lt⟩ all0) (fun m => by first | (simp [entryFrame, mkF, argsToLocals, Value.category]; done) | rfl) ?_
 intro p e s m below meth c T0 hx hby hml hnm hret hlk hh W0
 refine g_aloadN (pc' := 1) W0.here hx (hb hby dc558) rfl rfl rfl ?_
 refine w_special (pc' := 4) (st := []) (y := n_28) (a := o) W0 hx [] rfl (M_ hw w_49) (M_ hw w_50) (M_ hw w_53) (M_ hw w_54) (by decide) (c_abcinit l Z a0 hw hE o h0 W0.old) all0 (by rw [hml]; rfl) (lenOf pd_19 rfl) rfl (hb hby dc559) (B_ rfl) (B_ rfl) (B_ rfl) (B_ rfl) rfl fun v203 T203 h203 W203 K203 Q203 => ?_
 have z_K203 : h0.size ≤ h203.size := K203.1
 obtain rfl := Q203
 refine g_aloadN (pc' := 5) W203.here hx (hb hby dc560) rfl rfl rfl ?_
 refine g_iconst (0 : Int32) (pc' := 6) W203.here hx (hb hby dc561) rfl rfl ?_
 have c204 := (FM.keep K203 nin0)
 have c205 := (E0.keep K203)
 refine w_put (pc' := 9) W203 hx (M_ hw w_56) Via.refl c204 c205 (Or.inl (M_ hw w_57)) (M_ hw w_38) (ty := .int) (by decide) rfl rfl (List.mem_of_getElem? (i := 0) rfl) (hb hby dc562) rfl fun T206 h206 W206 K206 R206 F206 A206 => ?_
 have c207 := (FD.keep K203 nin0)
 have c208 := (FS.keep K203 nin0)
 have z_K206 : h203.size ≤ h206.size := K206.1
 have c209 := (c207.other R206 (Or.inr (slot_ne (Or.inl (M_ hw w_60)) (Or.inl (M_ hw w_57)) (by decide) (t := (.array (.object "java/lang/Object"))) (t' := .int) (by decide) (by decide))))
 have c210 := (c208.other R206 (Or.inr (slot_ne (Or.inl (M_ hw w_103)) (Or.inl (M_ hw w_57)) (by decide) (t := .int) (t' := .int) (by decide) (by decide))))
 refine w_retV W206 hx hh hlk hret (hb hby dc563) (B_ rfl) (B_ rfl) ?_
 exact ⟨rfl, A206, F206, c209, c210⟩
set_option maxRecDepth 65536 in
set_option maxHeartbeats 40000000 in
theorem c_alinit (l : Launch) (Z : State) (a0 : Array Value) (hw : ∀ d ∈ tables_1, d.before a0 Z = true) (hE : EW Z a0 consts_1) (o oD : Nat) (h0 : Heap) (O : Ext Z.heap h0) (SD : Sta Z Z.heap "java/util/ArrayList" "DEFAULTCAPACITY_EMPTY_ELEMENTDATA" "[Ljava/lang/Object;" (.ref oD)) (VD0 : Ary Z Z.heap oD (.object "java/lang/Object") []) (hz : Z.heap.size ≤ o) (E0 : Exa Z h0 o "java/util/ArrayList") (FM : Fld Z h0 o "java/util/AbstractList" "modCount" "I" (.int 0)) (FD : Fld Z h0 o "java/util/ArrayList" "elementData" "[Ljava/lang/Object;" .null) (FS : Fld Z h0 o "java/util/ArrayList" "size" "I" (.int 0))  :
    Con l Z consts_1 n_30 jdk_38_method_2_code 1 (Option.none : Option Jvm.ClassFile.FieldType) ({ frames := 3, cells := 0, slots := 0, locals := 36 } : Room) #[(.ref o)] h0 [o] (fun v h => v = none ∧ Exa Z h o "java/util/ArrayList" ∧ Fld Z h o "java/util/AbstractList" "modCount" "I" (.int 0) ∧ Fld Z h o "java/util/ArrayList" "elementData" "[Ljava/lang/Object;" (.ref oD) ∧ Fld Z h o "java/util/ArrayList" "size" "I" (.int 0)) := by
 refine Con.of (a0 := a0) #[.val (.ref o)] (plainFor_of_name pn_8) hE O (allS ⟨hz, E0.lt⟩ all0) (fun m => by first | (simp [entryFrame, mkF, argsToLocals, Value.category]; done) | rfl) ?_
 intro p e s m below meth c T0 hx hby hml hnm hret hlk hh W0
 have VDh := VD0.ext O
 refine g_aloadN (pc' := 1) W0.here hx (hb hby dc564) rfl rfl rfl ?_
 refine w_special (pc' := 4) (st := []) (y := n_29) (a := o) W0 hx [] rfl (M_ hw w_43) (M_ hw w_44) (M_ hw w_47) (M_ hw w_48) (by decide) (c_ablinit l Z a0 hw hE o h0 W0.old (by have := O.1; omega) E0 FM FD FS) (allS (List.mem_of_getElem? (i := 0) rfl) all0) (by rw [hml]; rfl) (lenOf pd_19 rfl) rfl (hb hby dc565) (B_ rfl) (B_ rfl) (B_ rfl) (B_ rfl) rfl fun v211 T211 h211 W211 K211 Q211 => ?_
 have z_K211 : h0.size ≤ h211.size := K211.1
 obtain ⟨rfl, E212, FM212, FD212, FS212⟩ := Q211
 refine g_aloadN (pc' := 5) W211.here hx (hb hby dc566) rfl rfl rfl ?_
 refine w_getS (pc' := 8) W211 hx (M_ hw w_58) Via.refl SD (hb hby dc567) rfl fun T213 W213 => ?_
 refine w_put (pc' := 11) W213 hx (M_ hw w_59) Via.refl FD212 E212 (Or.inl (M_ hw w_60)) (M_ hw w_38) (ty := (.array (.object "java/lang/Object"))) (by decide) rfl rfl (List.mem_of_getElem? (i := 0) rfl) (hb hby dc568) rfl fun T214 h214 W214 K214 R214 F214 A214 => ?_
 have z_K214 : h211.size ≤ h214.size := K214.1
 have c215 := (FM212.other R214 (Or.inr (slot_ne (Or.inl (M_ hw w_57)) (Or.inl (M_ hw w_60)) (by decide) (t := .int) (t' := (.array (.object "java/lang/Object"))) (by decide) (by decide))))
 have c216 := (FS212.other R214 (Or.inr (slot_ne (Or.inl (M_ hw w_103)) (Or.inl (M_ hw w_60)) (by decide) (t := .int) (t' := (.array (.object "java/lang/Object"))) (by decide) (by decide))))
 refine w_retV W214 hx hh hlk hret (hb hby dc569) (B_ rfl) (B_ rfl) ?_
 exact ⟨rfl, A214, c215, F214, c216⟩
set_option maxRecDepth 65536 in
set_option maxHeartbeats 40000000 in
theorem c_max (l : Launch) (Z : State) (a0 : Array Value) (hw : ∀ d ∈ tables_1, d.before a0 Z = true) (hE : EW Z a0 consts_1)  (h0 : Heap) (O : Ext Z.heap h0)  :
    Con l Z consts_1 n_31 jdk_29_method_65_code 2 (Option.some Jvm.ClassFile.FieldType.int) ({ frames := 0, cells := 0, slots := 0, locals := 0 } : Room) #[(.int 10), (.int 1)] h0 [] (pureQ (some (.int 10)) h0) := by
 refine Con.of (a0 := a0) #[.val (.int 10), .val (.int 1)] (Jvm.Free.JP.mathPlain rfl (by decide +kernel)) hE O all0 (fun m => by first | (simp [entryFrame, mkF, argsToLocals, Value.category]; done) | rfl) ?_
 intro p e s m below meth c T0 hx hby hml hnm hret hlk hh W0
 refine g_iloadN (pc' := 1) W0.here hx (hb hby dc570) rfl rfl ?_
 refine g_iloadN (pc' := 2) W0.here hx (hb hby dc571) rfl rfl ?_
 refine g_icmpN (pc' := 5) W0.here hx (hb hby dc572) rfl (flt (show ¬ ((10 : Int32) < (1 : Int32)) from (by decide))).1 ?_
 refine g_iloadN (pc' := 6) W0.here hx (hb hby dc573) rfl rfl ?_
 refine g_goto (pc' := 10) W0.here hx (hb hby dc574) rfl ?_
 refine w_retI W0 hx hh hlk hret (hb hby dc575) (B_ rfl) (B_ rfl) ?_
 exact ⟨rfl, rfl⟩
set_option maxRecDepth 65536 in
set_option maxHeartbeats 40000000 in
theorem c_growI (l : Launch) (Z : State) (a0 : Array Value) (hw : ∀ d ∈ tables_1, d.before a0 Z = true) (hE : EW Z a0 consts_1) (o oD : Nat) (h0 : Heap) (O : Ext Z.heap h0) (SD : Sta Z Z.heap "java/util/ArrayList" "DEFAULTCAPACITY_EMPTY_ELEMENTDATA" "[Ljava/lang/Object;" (.ref oD)) (VD0 : Ary Z Z.heap oD (.object "java/lang/Object") []) (hz : Z.heap.size ≤ o) (E0 : Exa Z h0 o "java/util/ArrayList") (FM : Fld Z h0 o "java/util/AbstractList" "modCount" "I" (.int 1)) (FD : Fld Z h0 o "java/util/ArrayList" "elementData" "[Ljava/lang/Object;" (.ref oD)) (FS : Fld Z h0 o "java/util/ArrayList" "size" "I" (.int 0))  :
    ConF l Z consts_1 n_32 jdk_38_method_6_code 4 (Option.some (Jvm.ClassFile.FieldType.array (Jvm.ClassFile.FieldType.object "java/lang/Object"))) ({ frames := 1, cells := 1, slots := 10, locals := 14 } : Room) #[(.ref o), (.int 1)] h0 [o] (fun N v h => ∃ d : Nat, N = [d] ∧ v = some (.ref d) ∧ Exa Z h o "java/util/ArrayList" ∧ Fld Z h o "java/util/AbstractList" "modCount" "I" (.int 1) ∧ Fld Z h o "java/util/ArrayList" "elementData" "[Ljava/lang/Object;" (.ref d) ∧ Fld Z h o "java/util/ArrayList" "size" "I" (.int 0) ∧ AryR Z h d "java/lang/Object" [.null, .null, .null, .null, .null, .null, .null, .null, .null, .null]) := by
 refine ConF.of (a0 := a0) #[.val (.ref o), .val (.int 1), .unset, .unset] (plainFor_of_name pn_8) hE O (allS ⟨hz, E0.lt⟩ all0) (fun m => by first | (simp [entryFrame, mkF, argsToLocals, Value.category]; done) | rfl) ?_
 intro p e s m below meth c T0 hx hby hml hnm hret hlk hh W0
 have lt_o : o < h0.size := E0.lt
 have VDh := VD0.ext O
 have ne_o_oD : o ≠ oD := by have q : oD < Z.heap.size := VD0.lt; omega
 refine g_aloadN (pc' := 1) W0.here hx (hb hby dc576) rfl rfl rfl ?_
 refine w_get (pc' := 4) W0 hx (M_ hw w_59) Via.refl FD (hb hby dc577) rfl fun T217 W217 => ?_
 refine w_len (pc' := 5) W217 hx VDh (hb hby dc578) rfl ?_
 refine g_name (w := .int (0 : Int32)) rfl ?_
 refine g_istoreN (pc' := 6) (Ls' := #[.val (.ref o), .val (.int 1), .val (.int 0), .unset]) W217.here hx (hb hby dc579) rfl rfl ?_
 refine g_iloadN (pc' := 7) W217.here hx (hb hby dc580) rfl rfl ?_
 refine g_ifN (pc' := 10) W217.here hx (hb hby dc581) rfl (flt (show ¬ ((0 : Int32) < (0 : Int32)) from (by decide))).2.2.1 ?_
 refine g_aloadN (pc' := 11) W217.here hx (hb hby dc582) rfl rfl rfl ?_
 refine w_get (pc' := 14) W217 hx (M_ hw w_59) Via.refl FD (hb hby dc583) rfl fun T218 W218 => ?_
 refine w_getS (pc' := 17) W218 hx (M_ hw w_58) Via.refl SD (hb hby dc584) rfl fun T219 W219 => ?_
 refine w_acmp (pc' := 45) W219 hx rfl rfl true (hb hby dc585) (decide_eq_true rfl) (by decide) (by decide) ?_
 refine g_aloadN (pc' := 46) W219.here hx (hb hby dc586) rfl rfl rfl ?_
 refine g_bipush (10 : Int32) (pc' := 48) W219.here hx (hb hby dc587) rfl rfl ?_
 refine g_iloadN (pc' := 49) W219.here hx (hb hby dc588) rfl rfl ?_
 refine w_callSp (pc' := 52) (st := [(.ref o)]) (y := n_31) W219 hx [(.int 10), (.int 1)] (M_ hw w_119) (M_ hw w_120) (M_ hw w_121) (M_ hw w_122) (by decide) (c_max l Z a0 hw hE h0 W219.old) (by rw [hml]; rfl) (lenOf pd_12 rfl) rfl (hb hby dc589) (B_ rfl) (B_ rfl) rfl rfl (B_ rfl) (B_ rfl) rfl fun T220 W220 => ?_
 refine w_anewarr (pc' := 55) (cap := 10) W220 hx (M_ hw w_123) (M_ hw w_124) (hb hby dc590) (by decide) (Nat.le_refl _) (B_ rfl) (B_ rfl) (B_ rfl) rfl fun T221 h221 b221 g221 W221 K221 V221 => ?_
 have z_K221 : h0.size ≤ h221.size := K221.1
 have ne_o_b221 : o ≠ b221 := by omega
 have lt_b221 : b221 < h221.size := W221.lt (List.mem_cons_self ..)
 have V221 : AryR Z h221 b221 "java/lang/Object" [.null, .null, .null, .null, .null, .null, .null, .null, .null, .null] := V221
 refine g_dupX1 (pc' := 56) W221.here hx (hb hby dc591) rfl rfl rfl ?_
 have c222 := (FD.keep K221 nin0)
 have c223 := (E0.keep K221)
 refine w_put (pc' := 59) W221 hx (M_ hw w_59) Via.refl c222 c223 (Or.inl (M_ hw w_60)) (M_ hw w_38) (ty := (.array (.object "java/lang/Object"))) (by decide) rfl rfl (List.mem_of_getElem? (i := 0) rfl) (hb hby dc592) rfl fun T224 h224 W224 K224 R224 F224 A224 => ?_
 have c225 := (FM.keep K221 nin0)
 have c226 := (FS.keep K221 nin0)
 have z_K224 : h221.size ≤ h224.size := K224.1
 have c227 := (c225.other R224 (Or.inr (slot_ne (Or.inl (M_ hw w_57)) (Or.inl (M_ hw w_60)) (by decide) (t := .int) (t' := (.array (.object "java/lang/Object"))) (by decide) (by decide))))
 have c228 := (c226.other R224 (Or.inr (slot_ne (Or.inl (M_ hw w_103)) (Or.inl (M_ hw w_60)) (by decide) (t := .int) (t' := (.array (.object "java/lang/Object"))) (by decide) (by decide))))
 have c229 := (V221.keep K224 (ninS (Ne.symm ne_o_b221) nin0))
 refine w_retAF W224 hx hh hlk hret rfl rfl (hb hby dc593) (B_ rfl) (B_ rfl) [b221] (allS (List.mem_of_getElem? (i := 0) rfl) all0) ?_
 exact ⟨_, rfl, rfl, A224, c227, F224, c228, c229⟩
set_option maxRecDepth 65536 in
set_option maxHeartbeats 40000000 in
theorem c_grow0 (l : Launch) (Z : State) (a0 : Array Value) (hw : ∀ d ∈ tables_1, d.before a0 Z = true) (hE : EW Z a0 consts_1) (o oD : Nat) (h0 : Heap) (O : Ext Z.heap h0) (SD : Sta Z Z.heap "java/util/ArrayList" "DEFAULTCAPACITY_EMPTY_ELEMENTDATA" "[Ljava/lang/Object;" (.ref oD)) (VD0 : Ary Z Z.heap oD (.object "java/lang/Object") []) (hz : Z.heap.size ≤ o) (E0 : Exa Z h0 o "java/util/ArrayList") (FM : Fld Z h0 o "java/util/AbstractList" "modCount" "I" (.int 1)) (FD : Fld Z h0 o "java/util/ArrayList" "elementData" "[Ljava/lang/Object;" (.ref oD)) (FS : Fld Z h0 o "java/util/ArrayList" "size" "I" (.int 0))  :
    ConF l Z consts_1 n_33 jdk_38_method_7_code 1 (Option.some (Jvm.ClassFile.FieldType.array (Jvm.ClassFile.FieldType.object "java/lang/Object"))) ({ frames := 2, cells := 1, slots := 10, locals := 29 } : Room) #[(.ref o)] h0 [o] (fun N v h => ∃ d : Nat, N = [d] ∧ v = some (.ref d) ∧ Exa Z h o "java/util/ArrayList" ∧ Fld Z h o "java/util/AbstractList" "modCount" "I" (.int 1) ∧ Fld Z h o "java/util/ArrayList" "elementData" "[Ljava/lang/Object;" (.ref d) ∧ Fld Z h o "java/util/ArrayList" "size" "I" (.int 0) ∧ AryR Z h d "java/lang/Object" [.null, .null, .null, .null, .null, .null, .null, .null, .null, .null]) := by
 refine ConF.of (a0 := a0) #[.val (.ref o)] (plainFor_of_name pn_8) hE O (allS ⟨hz, E0.lt⟩ all0) (fun m => by first | (simp [entryFrame, mkF, argsToLocals, Value.category]; done) | rfl) ?_
 intro p e s m below meth c T0 hx hby hml hnm hret hlk hh W0
 have lt_o : o < h0.size := E0.lt
 have VDh := VD0.ext O
 have ne_o_oD : o ≠ oD := by have q : oD < Z.heap.size := VD0.lt; omega
 refine g_aloadN (pc' := 1) W0.here hx (hb hby dc594) rfl rfl rfl ?_
 refine g_aloadN (pc' := 2) W0.here hx (hb hby dc595) rfl rfl rfl ?_
 refine w_get (pc' := 5) W0 hx (M_ hw w_102) Via.refl FS (hb hby dc596) rfl fun T230 W230 => ?_
 refine g_iconst (1 : Int32) (pc' := 6) W230.here hx (hb hby dc597) rfl rfl ?_
 refine g_iadd (pc' := 7) W230.here hx (hb hby dc598) rfl ?_
 refine g_name (w := .int (1 : Int32)) (congrArg Value.int (by decide)) ?_
 refine w_privateF (pc' := 10) (st := []) (y := n_32) (a := o) W230 hx [(.int 1)] (M_ hw w_114) (M_ hw w_116) (M_ hw w_117) (M_ hw w_115) (M_ hw w_39) (M_ hw w_118) (by decide) (c_growI l Z a0 hw hE o oD h0 W230.old SD VD0 hz E0 FM FD FS) E0 (allS (List.mem_of_getElem? (i := 0) rfl) all0) (by rw [hml]; rfl) (lenOf pd_20 rfl) rfl (hb hby dc599) (B_ rfl) (B_ rfl) (B_ rfl) (B_ rfl) rfl fun N231 v231 T231 h231 W231 K231 G231 Q231 => ?_
 have z_K231 : h0.size ≤ h231.size := K231.1
 obtain ⟨d232, rfl, rfl, E233, FM233, FD233, FS233, VD233⟩ := Q231
 have gz234 := (G231 d232 (List.mem_cons_self ..)).1
 have lt_d232 := (G231 d232 (List.mem_cons_self ..)).2
 have ne_o_d232 : o ≠ d232 := by omega
 refine w_retAF W231 hx hh hlk hret rfl rfl (hb hby dc600) (B_ rfl) (B_ rfl) [d232] (allS (List.mem_of_getElem? (i := 0) rfl) all0) ?_
 exact ⟨_, rfl, rfl, E233, FM233, FD233, FS233, VD233⟩
set_option maxRecDepth 65536 in
set_option maxHeartbeats 40000000 in
theorem c_add3_0 (l : Launch) (Z : State) (a0 : Array Value) (hw : ∀ d ∈ tables_1, d.before a0 Z = true) (hE : EW Z a0 consts_1) (o oD xa : Nat) (h0 : Heap) (O : Ext Z.heap h0) (SD : Sta Z Z.heap "java/util/ArrayList" "DEFAULTCAPACITY_EMPTY_ELEMENTDATA" "[Ljava/lang/Object;" (.ref oD)) (VD0 : Ary Z Z.heap oD (.object "java/lang/Object") []) (hz : Z.heap.size ≤ o) (E0 : Exa Z h0 o "java/util/ArrayList") (FM : Fld Z h0 o "java/util/AbstractList" "modCount" "I" (.int 1)) (FD : Fld Z h0 o "java/util/ArrayList" "elementData" "[Ljava/lang/Object;" (.ref oD)) (FS : Fld Z h0 o "java/util/ArrayList" "size" "I" (.int 0)) (EX : Exa Z h0 xa "java/lang/String")  :
    ConF l Z consts_1 n_34 jdk_38_method_24_code 4 (Option.none : Option Jvm.ClassFile.FieldType) ({ frames := 3, cells := 1, slots := 10, locals := 41 } : Room) #[(.ref o), (.ref xa), (.ref oD), (.int 0)] h0 [o] (fun N v h => ∃ d : Nat, N = [d] ∧ v = none ∧ Exa Z h o "java/util/ArrayList" ∧ Fld Z h o "java/util/AbstractList" "modCount" "I" (.int 1) ∧ Fld Z h o "java/util/ArrayList" "elementData" "[Ljava/lang/Object;" (.ref d) ∧ Fld Z h o "java/util/ArrayList" "size" "I" (.int 1) ∧ AryR Z h d "java/lang/Object" [(.ref xa), .null, .null, .null, .null, .null, .null, .null, .null, .null]) := by
 refine ConF.of (a0 := a0) #[.val (.ref o), .val (.ref xa), .val (.ref oD), .val (.int 0)] (plainFor_of_name pn_8) hE O (allS ⟨hz, E0.lt⟩ all0) (fun m => by first | (simp [entryFrame, mkF, argsToLocals, Value.category]; done) | rfl) ?_
 intro p e s m below meth c T0 hx hby hml hnm hret hlk hh W0
 have lt_o : o < h0.size := E0.lt
 have VDh := VD0.ext O
 have ne_o_oD : o ≠ oD := by have q : oD < Z.heap.size := VD0.lt; omega
 refine g_iloadN (pc' := 1) W0.here hx (hb hby dc601) rfl rfl ?_
 refine g_aloadN (pc' := 2) W0.here hx (hb hby dc602) rfl rfl rfl ?_
 refine w_len (pc' := 3) W0 hx VDh (hb hby dc603) rfl ?_
 refine g_name (w := .int (0 : Int32)) rfl ?_
 refine g_icmpN (pc' := 6) W0.here hx (hb hby dc604) rfl (teq (show (0 : Int32) = (0 : Int32) from (by decide))).2 ?_
 refine g_aloadN (pc' := 7) W0.here hx (hb hby dc605) rfl rfl rfl ?_
 refine w_privateF (pc' := 10) (st := []) (y := n_33) (a := o) W0 hx [] (M_ hw w_109) (M_ hw w_111) (M_ hw w_112) (M_ hw w_110) (M_ hw w_39) (M_ hw w_113) (by decide) (c_grow0 l Z a0 hw hE o oD h0 W0.old SD VD0 hz E0 FM FD FS) E0 (allS (List.mem_of_getElem? (i := 0) rfl) all0) (by rw [hml]; rfl) (lenOf pd_21 rfl) rfl (hb hby dc606) (B_ rfl) (B_ rfl) (B_ rfl) (B_ rfl) rfl fun N235 v235 T235 h235 W235 K235 G235 Q235 => ?_
 have z_K235 : h0.size ≤ h235.size := K235.1
 obtain ⟨d236, rfl, rfl, E237, FM237, FD237, FS237, VD237⟩ := Q235
 have gz238 := (G235 d236 (List.mem_cons_self ..)).1
 have lt_d236 := (G235 d236 (List.mem_cons_self ..)).2
 have ne_o_d236 : o ≠ d236 := by omega
 refine g_astoreN (pc' := 11) (Ls' := #[.val (.ref o), .val (.ref xa), .val (.ref d236), .val (.int 0)]) W235.here hx (hb hby dc607) rfl rfl rfl ?_
 refine g_aloadN (pc' := 12) W235.here hx (hb hby dc608) rfl rfl rfl ?_
 refine g_iloadN (pc' := 13) W235.here hx (hb hby dc609) rfl rfl ?_
 refine g_aloadN (pc' := 14) W235.here hx (hb hby dc610) rfl rfl rfl ?_
 have c240 := (EX.keep K235)
 refine w_aastore (pc' := 15) W235 hx VD237 (Ins.of_exa c240 (M_ hw w_125)) (by decide) (Nat.lt_of_lt_of_le (Nat.lt_succ_self _) (B_ rfl)) (List.mem_of_getElem? (i := 1) rfl) (hb hby dc611) rfl fun T239 h239 W239 K239 V239 => ?_
 have z_K239 : h235.size ≤ h239.size := K239.1
 have V239 : AryR Z h239 d236 "java/lang/Object" [(.ref xa), .null, .null, .null, .null, .null, .null, .null, .null, .null] := V239
 refine g_aloadN (pc' := 16) W239.here hx (hb hby dc612) rfl rfl rfl ?_
 refine g_iloadN (pc' := 17) W239.here hx (hb hby dc613) rfl rfl ?_
 refine g_iconst (1 : Int32) (pc' := 18) W239.here hx (hb hby dc614) rfl rfl ?_
 refine g_iadd (pc' := 19) W239.here hx (hb hby dc615) rfl ?_
 refine g_name (w := .int (1 : Int32)) (congrArg Value.int (by decide)) ?_
 have c241 := (FS237.keep K239 (ninS ne_o_d236 nin0))
 have c242 := (E237.keep K239)
 refine w_put (pc' := 22) W239 hx (M_ hw w_102) Via.refl c241 c242 (Or.inl (M_ hw w_103)) (M_ hw w_38) (ty := .int) (by decide) rfl rfl (List.mem_of_getElem? (i := 0) rfl) (hb hby dc616) rfl fun T243 h243 W243 K243 R243 F243 A243 => ?_
 have c244 := (FM237.keep K239 (ninS ne_o_d236 nin0))
 have c245 := (FD237.keep K239 (ninS ne_o_d236 nin0))
 have z_K243 : h239.size ≤ h243.size := K243.1
 have c246 := (c244.other R243 (Or.inr (slot_ne (Or.inl (M_ hw w_57)) (Or.inl (M_ hw w_103)) (by decide) (t := .int) (t' := .int) (by decide) (by decide))))
 have c247 := (c245.other R243 (Or.inr (slot_ne (Or.inl (M_ hw w_60)) (Or.inl (M_ hw w_103)) (by decide) (t := (.array (.object "java/lang/Object"))) (t' := .int) (by decide) (by decide))))
 have c248 := (V239.keep K243 (ninS (Ne.symm ne_o_d236) nin0))
 refine w_retVF W243 hx hh hlk hret (hb hby dc617) (B_ rfl) (B_ rfl) [d236] (allS (List.mem_of_getElem? (i := 0) rfl) all0) ?_
 exact ⟨_, rfl, rfl, A243, c246, c247, F243, c248⟩
set_option maxRecDepth 65536 in
set_option maxHeartbeats 40000000 in
theorem c_add_0 (l : Launch) (Z : State) (a0 : Array Value) (hw : ∀ d ∈ tables_1, d.before a0 Z = true) (hE : EW Z a0 consts_1) (o oD xa : Nat) (h0 : Heap) (O : Ext Z.heap h0) (SD : Sta Z Z.heap "java/util/ArrayList" "DEFAULTCAPACITY_EMPTY_ELEMENTDATA" "[Ljava/lang/Object;" (.ref oD)) (VD0 : Ary Z Z.heap oD (.object "java/lang/Object") []) (hz : Z.heap.size ≤ o) (E0 : Exa Z h0 o "java/util/ArrayList") (FM : Fld Z h0 o "java/util/AbstractList" "modCount" "I" (.int 0)) (FD : Fld Z h0 o "java/util/ArrayList" "elementData" "[Ljava/lang/Object;" (.ref oD)) (FS : Fld Z h0 o "java/util/ArrayList" "size" "I" (.int 0)) (EX : Exa Z h0 xa "java/lang/String")  :
    ConF l Z consts_1 n_35 jdk_38_method_25_code 2 (Option.some Jvm.ClassFile.FieldType.boolean) ({ frames := 4, cells := 1, slots := 10, locals := 56 } : Room) #[(.ref o), (.ref xa)] h0 [o] (fun N v h => ∃ d : Nat, N = [d] ∧ v = some (.int 1) ∧ Exa Z h o "java/util/ArrayList" ∧ Fld Z h o "java/util/AbstractList" "modCount" "I" (.int 1) ∧ Fld Z h o "java/util/ArrayList" "elementData" "[Ljava/lang/Object;" (.ref d) ∧ Fld Z h o "java/util/ArrayList" "size" "I" (.int 1) ∧ AryR Z h d "java/lang/Object" [(.ref xa), .null, .null, .null, .null, .null, .null, .null, .null, .null]) := by
 refine ConF.of (a0 := a0) #[.val (.ref o), .val (.ref xa)] (plainFor_of_name pn_8) hE O (allS ⟨hz, E0.lt⟩ all0) (fun m => by first | (simp [entryFrame, mkF, argsToLocals, Value.category]; done) | rfl) ?_
 intro p e s m below meth c T0 hx hby hml hnm hret hlk hh W0
 have lt_o : o < h0.size := E0.lt
 have VDh := VD0.ext O
 have ne_o_oD : o ≠ oD := by have q : oD < Z.heap.size := VD0.lt; omega
 refine g_aloadN (pc' := 1) W0.here hx (hb hby dc618) rfl rfl rfl ?_
 refine g_dup (pc' := 2) W0.here hx (hb hby dc619) rfl rfl ?_
 refine w_get (pc' := 5) W0 hx (M_ hw w_100) (Via.of (M_ hw w_101)) FM (hb hby dc620) rfl fun T249 W249 => ?_
 refine g_iconst (1 : Int32) (pc' := 6) W249.here hx (hb hby dc621) rfl rfl ?_
 refine g_iadd (pc' := 7) W249.here hx (hb hby dc622) rfl ?_
 refine g_name (w := .int (1 : Int32)) (congrArg Value.int (by decide)) ?_
 refine w_put (pc' := 10) W249 hx (M_ hw w_100) (Via.of (M_ hw w_101)) FM E0 (Or.inl (M_ hw w_57)) (M_ hw w_38) (ty := .int) (by decide) rfl rfl (List.mem_of_getElem? (i := 0) rfl) (hb hby dc623) rfl fun T250 h250 W250 K250 R250 F250 A250 => ?_
 have z_K250 : h0.size ≤ h250.size := K250.1
 have c251 := (FD.other R250 (Or.inr (slot_ne (Or.inl (M_ hw w_60)) (Or.inl (M_ hw w_57)) (by decide) (t := (.array (.object "java/lang/Object"))) (t' := .int) (by decide) (by decide))))
 have c252 := (FS.other R250 (Or.inr (slot_ne (Or.inl (M_ hw w_103)) (Or.inl (M_ hw w_57)) (by decide) (t := .int) (t' := .int) (by decide) (by decide))))
 refine g_aloadN (pc' := 11) W250.here hx (hb hby dc624) rfl rfl rfl ?_
 refine g_aloadN (pc' := 12) W250.here hx (hb hby dc625) rfl rfl rfl ?_
 refine g_aloadN (pc' := 13) W250.here hx (hb hby dc626) rfl rfl rfl ?_
 refine w_get (pc' := 16) W250 hx (M_ hw w_59) Via.refl c251 (hb hby dc627) rfl fun T253 W253 => ?_
 refine g_aloadN (pc' := 17) W253.here hx (hb hby dc628) rfl rfl rfl ?_
 refine w_get (pc' := 20) W253 hx (M_ hw w_102) Via.refl c252 (hb hby dc629) rfl fun T254 W254 => ?_
 have c255 := (EX.keep K250)
 refine w_privateF (pc' := 23) (st := []) (y := n_34) (a := o) W254 hx [(.ref xa), (.ref oD), (.int 0)] (M_ hw w_104) (M_ hw w_106) (M_ hw w_107) (M_ hw w_105) (M_ hw w_39) (M_ hw w_108) (by decide) (c_add3_0 l Z a0 hw hE o oD xa h250 W254.old SD VD0 hz A250 F250 c251 c252 c255) A250 (allS (List.mem_of_getElem? (i := 0) rfl) all0) (by rw [hml]; rfl) (lenOf pd_22 rfl) rfl (hb hby dc630) (B_ rfl) (B_ rfl) (B_ rfl) (B_ rfl) rfl fun N256 v256 T256 h256 W256 K256 G256 Q256 => ?_
 have z_K256 : h250.size ≤ h256.size := K256.1
 obtain ⟨d257, rfl, rfl, E258, FM258, FD258, FS258, VD258⟩ := Q256
 have gz259 := (G256 d257 (List.mem_cons_self ..)).1
 have lt_d257 := (G256 d257 (List.mem_cons_self ..)).2
 have ne_o_d257 : o ≠ d257 := by omega
 refine g_iconst (1 : Int32) (pc' := 24) W256.here hx (hb hby dc631) rfl rfl ?_
 refine w_retNF (t := .boolean) W256 hx hh hlk hret (by simp) (hb hby dc632) (B_ rfl) (B_ rfl) [d257] (allS (List.mem_of_getElem? (i := 0) rfl) all0) ?_
 exact ⟨_, rfl, rfl, E258, FM258, FD258, FS258, VD258⟩
set_option maxRecDepth 65536 in
set_option maxHeartbeats 40000000 in
theorem c_add3_1 (l : Launch) (Z : State) (a0 : Array Value) (hw : ∀ d ∈ tables_1, d.before a0 Z = true) (hE : EW Z a0 consts_1) (o d xa t0 : Nat) (h0 : Heap) (O : Ext Z.heap h0) (hz : Z.heap.size ≤ o) (E0 : Exa Z h0 o "java/util/ArrayList") (FM : Fld Z h0 o "java/util/AbstractList" "modCount" "I" (.int 2)) (FD : Fld Z h0 o "java/util/ArrayList" "elementData" "[Ljava/lang/Object;" (.ref d)) (FS : Fld Z h0 o "java/util/ArrayList" "size" "I" (.int 1)) (hzd : Z.heap.size ≤ d) (VD : AryR Z h0 d "java/lang/Object" [(.ref t0), .null, .null, .null, .null, .null, .null, .null, .null, .null]) (hod : o ≠ d) (EX : Exa Z h0 xa "java/lang/String")  :
    Con l Z consts_1 n_34 jdk_38_method_24_code 4 (Option.none : Option Jvm.ClassFile.FieldType) ({ frames := 0, cells := 0, slots := 0, locals := 0 } : Room) #[(.ref o), (.ref xa), (.ref d), (.int 1)] h0 [o, d] (fun v h => v = none ∧ Exa Z h o "java/util/ArrayList" ∧ Fld Z h o "java/util/AbstractList" "modCount" "I" (.int 2) ∧ Fld Z h o "java/util/ArrayList" "elementData" "[Ljava/lang/Object;" (.ref d) ∧ Fld Z h o "java/util/ArrayList" "size" "I" (.int 2) ∧ AryR Z h d "java/lang/Object" [(.ref t0), (.ref xa), .null, .null, .null, .null, .null, .null, .null, .null]) := by
 refine Con.of (a0 := a0) #[.val (.ref o), .val (.ref xa), .val (.ref d), .val (.int 1)] (plainFor_of_name pn_8) hE O (allS ⟨hz, E0.lt⟩ (allS ⟨hzd, VD.lt⟩ all0)) (fun m => by first | (simp [entryFrame, mkF, argsToLocals, Value.category]; done) | rfl) ?_
 intro p e s m below meth c T0 hx hby hml hnm hret hlk hh W0
 refine g_iloadN (pc' := 1) W0.here hx (hb hby dc601) rfl rfl ?_
 refine g_aloadN (pc' := 2) W0.here hx (hb hby dc602) rfl rfl rfl ?_
 refine w_len (pc' := 3) W0 hx (AryR.ary VD) (hb hby dc603) rfl ?_
 refine g_name (w := .int (10 : Int32)) rfl ?_
 refine g_icmpY (pc' := 11) W0.here hx (hb hby dc604) rfl (feq (show ¬ ((1 : Int32) = (10 : Int32)) from (by decide))).2 ?_
 refine g_aloadN (pc' := 12) W0.here hx (hb hby dc608) rfl rfl rfl ?_
 refine g_iloadN (pc' := 13) W0.here hx (hb hby dc609) rfl rfl ?_
 refine g_aloadN (pc' := 14) W0.here hx (hb hby dc610) rfl rfl rfl ?_
 refine w_aastore (pc' := 15) W0 hx VD (Ins.of_exa EX (M_ hw w_125)) (by decide) (Nat.lt_of_lt_of_le (Nat.lt_succ_self _) (B_ rfl)) (List.mem_of_getElem? (i := 1) rfl) (hb hby dc611) rfl fun T260 h260 W260 K260 V260 => ?_
 have z_K260 : h0.size ≤ h260.size := K260.1
 have V260 : AryR Z h260 d "java/lang/Object" [(.ref t0), (.ref xa), .null, .null, .null, .null, .null, .null, .null, .null] := V260
 refine g_aloadN (pc' := 16) W260.here hx (hb hby dc612) rfl rfl rfl ?_
 refine g_iloadN (pc' := 17) W260.here hx (hb hby dc613) rfl rfl ?_
 refine g_iconst (1 : Int32) (pc' := 18) W260.here hx (hb hby dc614) rfl rfl ?_
 refine g_iadd (pc' := 19) W260.here hx (hb hby dc615) rfl ?_
 refine g_name (w := .int (2 : Int32)) (congrArg Value.int (by decide)) ?_
 have c261 := (FS.keep K260 (ninS hod nin0))
 have c262 := (E0.keep K260)
 refine w_put (pc' := 22) W260 hx (M_ hw w_102) Via.refl c261 c262 (Or.inl (M_ hw w_103)) (M_ hw w_38) (ty := .int) (by decide) rfl rfl (List.mem_of_getElem? (i := 0) rfl) (hb hby dc616) rfl fun T263 h263 W263 K263 R263 F263 A263 => ?_
 have c264 := (FM.keep K260 (ninS hod nin0))
 have c265 := (FD.keep K260 (ninS hod nin0))
 have z_K263 : h260.size ≤ h263.size := K263.1
 have c266 := (c264.other R263 (Or.inr (slot_ne (Or.inl (M_ hw w_57)) (Or.inl (M_ hw w_103)) (by decide) (t := .int) (t' := .int) (by decide) (by decide))))
 have c267 := (c265.other R263 (Or.inr (slot_ne (Or.inl (M_ hw w_60)) (Or.inl (M_ hw w_103)) (by decide) (t := (.array (.object "java/lang/Object"))) (t' := .int) (by decide) (by decide))))
 have c268 := (V260.keep K263 (ninS (Ne.symm hod) nin0))
 refine w_retV W263 hx hh hlk hret (hb hby dc617) (B_ rfl) (B_ rfl) ?_
 exact ⟨rfl, A263, c266, c267, F263, c268⟩
set_option maxRecDepth 65536 in
set_option maxHeartbeats 40000000 in
theorem c_add_1 (l : Launch) (Z : State) (a0 : Array Value) (hw : ∀ d ∈ tables_1, d.before a0 Z = true) (hE : EW Z a0 consts_1) (o d xa t0 : Nat) (h0 : Heap) (O : Ext Z.heap h0) (hz : Z.heap.size ≤ o) (E0 : Exa Z h0 o "java/util/ArrayList") (FM : Fld Z h0 o "java/util/AbstractList" "modCount" "I" (.int 1)) (FD : Fld Z h0 o "java/util/ArrayList" "elementData" "[Ljava/lang/Object;" (.ref d)) (FS : Fld Z h0 o "java/util/ArrayList" "size" "I" (.int 1)) (hzd : Z.heap.size ≤ d) (VD : AryR Z h0 d "java/lang/Object" [(.ref t0), .null, .null, .null, .null, .null, .null, .null, .null, .null]) (hod : o ≠ d) (EX : Exa Z h0 xa "java/lang/String")  :
    Con l Z consts_1 n_35 jdk_38_method_25_code 2 (Option.some Jvm.ClassFile.FieldType.boolean) ({ frames := 1, cells := 0, slots := 0, locals := 15 } : Room) #[(.ref o), (.ref xa)] h0 [o, d] (fun v h => v = some (.int 1) ∧ Exa Z h o "java/util/ArrayList" ∧ Fld Z h o "java/util/AbstractList" "modCount" "I" (.int 2) ∧ Fld Z h o "java/util/ArrayList" "elementData" "[Ljava/lang/Object;" (.ref d) ∧ Fld Z h o "java/util/ArrayList" "size" "I" (.int 2) ∧ AryR Z h d "java/lang/Object" [(.ref t0), (.ref xa), .null, .null, .null, .null, .null, .null, .null, .null]) := by
 refine Con.of (a0 := a0) #[.val (.ref o), .val (.ref xa)] (plainFor_of_name pn_8) hE O (allS ⟨hz, E0.lt⟩ (allS ⟨hzd, VD.lt⟩ all0)) (fun m => by first | (simp [entryFrame, mkF, argsToLocals, Value.category]; done) | rfl) ?_
 intro p e s m below meth c T0 hx hby hml hnm hret hlk hh W0
 refine g_aloadN (pc' := 1) W0.here hx (hb hby dc618) rfl rfl rfl ?_
 refine g_dup (pc' := 2) W0.here hx (hb hby dc619) rfl rfl ?_
 refine w_get (pc' := 5) W0 hx (M_ hw w_100) (Via.of (M_ hw w_101)) FM (hb hby dc620) rfl fun T269 W269 => ?_
 refine g_iconst (1 : Int32) (pc' := 6) W269.here hx (hb hby dc621) rfl rfl ?_
 refine g_iadd (pc' := 7) W269.here hx (hb hby dc622) rfl ?_
 refine g_name (w := .int (2 : Int32)) (congrArg Value.int (by decide)) ?_
 refine w_put (pc' := 10) W269 hx (M_ hw w_100) (Via.of (M_ hw w_101)) FM E0 (Or.inl (M_ hw w_57)) (M_ hw w_38) (ty := .int) (by decide) rfl rfl (List.mem_of_getElem? (i := 0) rfl) (hb hby dc623) rfl fun T270 h270 W270 K270 R270 F270 A270 => ?_
 have z_K270 : h0.size ≤ h270.size := K270.1
 have c271 := (FD.other R270 (Or.inr (slot_ne (Or.inl (M_ hw w_60)) (Or.inl (M_ hw w_57)) (by decide) (t := (.array (.object "java/lang/Object"))) (t' := .int) (by decide) (by decide))))
 have c272 := (FS.other R270 (Or.inr (slot_ne (Or.inl (M_ hw w_103)) (Or.inl (M_ hw w_57)) (by decide) (t := .int) (t' := .int) (by decide) (by decide))))
 refine g_aloadN (pc' := 11) W270.here hx (hb hby dc624) rfl rfl rfl ?_
 refine g_aloadN (pc' := 12) W270.here hx (hb hby dc625) rfl rfl rfl ?_
 refine g_aloadN (pc' := 13) W270.here hx (hb hby dc626) rfl rfl rfl ?_
 refine w_get (pc' := 16) W270 hx (M_ hw w_59) Via.refl c271 (hb hby dc627) rfl fun T273 W273 => ?_
 refine g_aloadN (pc' := 17) W273.here hx (hb hby dc628) rfl rfl rfl ?_
 refine w_get (pc' := 20) W273 hx (M_ hw w_102) Via.refl c272 (hb hby dc629) rfl fun T274 W274 => ?_
 have c275 := (VD.keep K270 (ninS (Ne.symm hod) nin0))
 have c276 := (EX.keep K270)
 refine w_private (pc' := 23) (st := []) (y := n_34) (a := o) W274 hx [(.ref xa), (.ref d), (.int 1)] (M_ hw w_104) (M_ hw w_106) (M_ hw w_107) (M_ hw w_105) (M_ hw w_39) (M_ hw w_108) (by decide) (c_add3_1 l Z a0 hw hE o d xa t0 h270 W274.old hz A270 F270 c271 c272 hzd c275 hod c276) A270 (allS (List.mem_of_getElem? (i := 0) rfl) (allS (List.mem_of_getElem? (i := 1) rfl) all0)) (by rw [hml]; rfl) (lenOf pd_22 rfl) rfl (hb hby dc630) (B_ rfl) (B_ rfl) (B_ rfl) (B_ rfl) rfl fun v277 T277 h277 W277 K277 Q277 => ?_
 have z_K277 : h270.size ≤ h277.size := K277.1
 obtain ⟨rfl, E278, FM278, FD278, FS278, VD278⟩ := Q277
 refine g_iconst (1 : Int32) (pc' := 24) W277.here hx (hb hby dc631) rfl rfl ?_
 refine w_retN (t := .boolean) W277 hx hh hlk hret (by simp) (hb hby dc632) (B_ rfl) (B_ rfl) ?_
 exact ⟨rfl, E278, FM278, FD278, FS278, VD278⟩
set_option maxRecDepth 65536 in
set_option maxHeartbeats 40000000 in
theorem c_add3_2 (l : Launch) (Z : State) (a0 : Array Value) (hw : ∀ d ∈ tables_1, d.before a0 Z = true) (hE : EW Z a0 consts_1) (o d xa t0 t1 : Nat) (h0 : Heap) (O : Ext Z.heap h0) (hz : Z.heap.size ≤ o) (E0 : Exa Z h0 o "java/util/ArrayList") (FM : Fld Z h0 o "java/util/AbstractList" "modCount" "I" (.int 3)) (FD : Fld Z h0 o "java/util/ArrayList" "elementData" "[Ljava/lang/Object;" (.ref d)) (FS : Fld Z h0 o "java/util/ArrayList" "size" "I" (.int 2)) (hzd : Z.heap.size ≤ d) (VD : AryR Z h0 d "java/lang/Object" [(.ref t0), (.ref t1), .null, .null, .null, .null, .null, .null, .null, .null]) (hod : o ≠ d) (EX : Exa Z h0 xa "java/lang/String")  :
    Con l Z consts_1 n_34 jdk_38_method_24_code 4 (Option.none : Option Jvm.ClassFile.FieldType) ({ frames := 0, cells := 0, slots := 0, locals := 0 } : Room) #[(.ref o), (.ref xa), (.ref d), (.int 2)] h0 [o, d] (fun v h => v = none ∧ Exa Z h o "java/util/ArrayList" ∧ Fld Z h o "java/util/AbstractList" "modCount" "I" (.int 3) ∧ Fld Z h o "java/util/ArrayList" "elementData" "[Ljava/lang/Object;" (.ref d) ∧ Fld Z h o "java/util/ArrayList" "size" "I" (.int 3) ∧ AryR Z h d "java/lang/Object" [(.ref t0), (.ref t1), (.ref xa), .null, .null, .null, .null, .null, .null, .null]) := by
 refine Con.of (a0 := a0) #[.val (.ref o), .val (.ref xa), .val (.ref d), .val (.int 2)] (plainFor_of_name pn_8) hE O (allS ⟨hz, E0.lt⟩ (allS ⟨hzd, VD.lt⟩ all0)) (fun m => by first | (simp [entryFrame, mkF, argsToLocals, Value.category]; done) | rfl) ?_
 intro p e s m below meth c T0 hx hby hml hnm hret hlk hh W0
 refine g_iloadN (pc' := 1) W0.here hx (hb hby dc601) rfl rfl ?_
 refine g_aloadN (pc' := 2) W0.here hx (hb hby dc602) rfl rfl rfl ?_
 refine w_len (pc' := 3) W0 hx (AryR.ary VD) (hb hby dc603) rfl ?_
 refine g_name (w := .int (10 : Int32)) rfl ?_
 refine g_icmpY (pc' := 11) W0.here hx (hb hby dc604) rfl (feq (show ¬ ((2 : Int32) = (10 : Int32)) from (by decide))).2 ?_
 refine g_aloadN (pc' := 12) W0.here hx (hb hby dc608) rfl rfl rfl ?_
 refine g_iloadN (pc' := 13) W0.here hx (hb hby dc609) rfl rfl ?_
 refine g_aloadN (pc' := 14) W0.here hx (hb hby dc610) rfl rfl rfl ?_
 refine w_aastore (pc' := 15) W0 hx VD (Ins.of_exa EX (M_ hw w_125)) (by decide) (Nat.lt_of_lt_of_le (Nat.lt_succ_self _) (B_ rfl)) (List.mem_of_getElem? (i := 1) rfl) (hb hby dc611) rfl fun T279 h279 W279 K279 V279 => ?_
 have z_K279 : h0.size ≤ h279.size := K279.1
 have V279 : AryR Z h279 d "java/lang/Object" [(.ref t0), (.ref t1), (.ref xa), .null, .null, .null, .null, .null, .null, .null] := V279
 refine g_aloadN (pc' := 16) W279.here hx (hb hby dc612) rfl rfl rfl ?_
 refine g_iloadN (pc' := 17) W279.here hx (hb hby dc613) rfl rfl ?_
 refine g_iconst (1 : Int32) (pc' := 18) W279.here hx (hb hby dc614) rfl rfl ?_
 refine g_iadd (pc' := 19) W279.here hx (hb hby dc615) rfl ?_
 refine g_name (w := .int (3 : Int32)) (congrArg Value.int (by decide)) ?_
 have c280 := (FS.keep K279 (ninS hod nin0))
 have c281 := (E0.keep K279)
 refine w_put (pc' := 22) W279 hx (M_ hw w_102) Via.refl c280 c281 (Or.inl (M_ hw w_103)) (M_ hw w_38) (ty := .int) (by decide) rfl rfl (List.mem_of_getElem? (i := 0) rfl) (hb hby dc616) rfl fun T282 h282 W282 K282 R282 F282 A282 => ?_
 have c283 := (FM.keep K279 (ninS hod nin0))
 have c284 := (FD.keep K279 (ninS hod nin0))
 have z_K282 : h279.size ≤ h282.size := K282.1
 have c285 := (c283.other R282 (Or.inr (slot_ne (Or.inl (M_ hw w_57)) (Or.inl (M_ hw w_103)) (by decide) (t := .int) (t' := .int) (by decide) (by decide))))
 have c286 := (c284.other R282 (Or.inr (slot_ne (Or.inl (M_ hw w_60)) (Or.inl (M_ hw w_103)) (by decide) (t := (.array (.object "java/lang/Object"))) (t' := .int) (by decide) (by decide))))
 have c287 := (V279.keep K282 (ninS (Ne.symm hod) nin0))
 refine w_retV W282 hx hh hlk hret (hb hby dc617) (B_ rfl) (B_ rfl) ?_
 exact ⟨rfl, A282, c285, c286, F282, c287⟩
set_option maxRecDepth 65536 in
set_option maxHeartbeats 40000000 in
theorem c_add_2 (l : Launch) (Z : State) (a0 : Array Value) (hw : ∀ d ∈ tables_1, d.before a0 Z = true) (hE : EW Z a0 consts_1) (o d xa t0 t1 : Nat) (h0 : Heap) (O : Ext Z.heap h0) (hz : Z.heap.size ≤ o) (E0 : Exa Z h0 o "java/util/ArrayList") (FM : Fld Z h0 o "java/util/AbstractList" "modCount" "I" (.int 2)) (FD : Fld Z h0 o "java/util/ArrayList" "elementData" "[Ljava/lang/Object;" (.ref d)) (FS : Fld Z h0 o "java/util/ArrayList" "size" "I" (.int 2)) (hzd : Z.heap.size ≤ d) (VD : AryR Z h0 d "java/lang/Object" [(.ref t0), (.ref t1), .null, .null, .null, .null, .null, .null, .null, .null]) (hod : o ≠ d) (EX : Exa Z h0 xa "java/lang/String")  :
    Con l Z consts_1 n_35 jdk_38_method_25_code 2 (Option.some Jvm.ClassFile.FieldType.boolean) ({ frames := 1, cells := 0, slots := 0, locals := 15 } : Room) #[(.ref o), (.ref xa)] h0 [o, d] (fun v h => v = some (.int 1) ∧ Exa Z h o "java/util/ArrayList" ∧ Fld Z h o "java/util/AbstractList" "modCount" "I" (.int 3) ∧ Fld Z h o "java/util/ArrayList" "elementData" "[Ljava/lang/Object;" (.ref d) ∧ Fld Z h o "java/util/ArrayList" "size" "I" (.int 3) ∧ AryR Z h d "java/lang/Object" [(.ref t0), (.ref t1), (.ref xa), .null, .null, .null, .null, .null, .null, .null]) := by
 refine Con.of (a0 := a0) #[.val (.ref o), .val (.ref xa)] (plainFor_of_name pn_8) hE O (allS ⟨hz, E0.lt⟩ (allS ⟨hzd, VD.lt⟩ all0)) (fun m => by first | (simp [entryFrame, mkF, argsToLocals, Value.category]; done) | rfl) ?_
 intro p e s m below meth c T0 hx hby hml hnm hret hlk hh W0
 refine g_aloadN (pc' := 1) W0.here hx (hb hby dc618) rfl rfl rfl ?_
 refine g_dup (pc' := 2) W0.here hx (hb hby dc619) rfl rfl ?_
 refine w_get (pc' := 5) W0 hx (M_ hw w_100) (Via.of (M_ hw w_101)) FM (hb hby dc620) rfl fun T288 W288 => ?_
 refine g_iconst (1 : Int32) (pc' := 6) W288.here hx (hb hby dc621) rfl rfl ?_
 refine g_iadd (pc' := 7) W288.here hx (hb hby dc622) rfl ?_
 refine g_name (w := .int (3 : Int32)) (congrArg Value.int (by decide)) ?_
 refine w_put (pc' := 10) W288 hx (M_ hw w_100) (Via.of (M_ hw w_101)) FM E0 (Or.inl (M_ hw w_57)) (M_ hw w_38) (ty := .int) (by decide) rfl rfl (List.mem_of_getElem? (i := 0) rfl) (hb hby dc623) rfl fun T289 h289 W289 K289 R289 F289 A289 => ?_
 have z_K289 : h0.size ≤ h289.size := K289.1
 have c290 := (FD.other R289 (Or.inr (slot_ne (Or.inl (M_ hw w_60)) (Or.inl (M_ hw w_57)) (by decide) (t := (.array (.object "java/lang/Object"))) (t' := .int) (by decide) (by decide))))
 have c291 := (FS.other R289 (Or.inr (slot_ne (Or.inl (M_ hw w_103)) (Or.inl (M_ hw w_57)) (by decide) (t := .int) (t' := .int) (by decide) (by decide))))
 refine g_aloadN (pc' := 11) W289.here hx (hb hby dc624) rfl rfl rfl ?_
 refine g_aloadN (pc' := 12) W289.here hx (hb hby dc625) rfl rfl rfl ?_
 refine g_aloadN (pc' := 13) W289.here hx (hb hby dc626) rfl rfl rfl ?_
 refine w_get (pc' := 16) W289 hx (M_ hw w_59) Via.refl c290 (hb hby dc627) rfl fun T292 W292 => ?_
 refine g_aloadN (pc' := 17) W292.here hx (hb hby dc628) rfl rfl rfl ?_
 refine w_get (pc' := 20) W292 hx (M_ hw w_102) Via.refl c291 (hb hby dc629) rfl fun T293 W293 => ?_
 have c294 := (VD.keep K289 (ninS (Ne.symm hod) nin0))
 have c295 := (EX.keep K289)
 refine w_private (pc' := 23) (st := []) (y := n_34) (a := o) W293 hx [(.ref xa), (.ref d), (.int 2)] (M_ hw w_104) (M_ hw w_106) (M_ hw w_107) (M_ hw w_105) (M_ hw w_39) (M_ hw w_108) (by decide) (c_add3_2 l Z a0 hw hE o d xa t0 t1 h289 W293.old hz A289 F289 c290 c291 hzd c294 hod c295) A289 (allS (List.mem_of_getElem? (i := 0) rfl) (allS (List.mem_of_getElem? (i := 1) rfl) all0)) (by rw [hml]; rfl) (lenOf pd_22 rfl) rfl (hb hby dc630) (B_ rfl) (B_ rfl) (B_ rfl) (B_ rfl) rfl fun v296 T296 h296 W296 K296 Q296 => ?_
 have z_K296 : h289.size ≤ h296.size := K296.1
 obtain ⟨rfl, E297, FM297, FD297, FS297, VD297⟩ := Q296
 refine g_iconst (1 : Int32) (pc' := 24) W296.here hx (hb hby dc631) rfl rfl ?_
 refine w_retN (t := .boolean) W296 hx hh hlk hret (by simp) (hb hby dc632) (B_ rfl) (B_ rfl) ?_
 exact ⟨rfl, E297, FM297, FD297, FS297, VD297⟩
set_option maxRecDepth 65536 in
set_option maxHeartbeats 40000000 in
theorem c_size (l : Launch) (Z : State) (a0 : Array Value) (hw : ∀ d ∈ tables_1, d.before a0 Z = true) (hE : EW Z a0 consts_1) (o : Nat) (u : Int32) (h0 : Heap) (O : Ext Z.heap h0) (F1 : Fld Z h0 o "java/util/ArrayList" "size" "I" (.int u)) :
    Con l Z consts_1 n_36 jdk_38_method_8_code 1 (Option.some Jvm.ClassFile.FieldType.int) ({ frames := 0, cells := 0, slots := 0, locals := 0 } : Room) #[(.ref o)] h0 [] (pureQ (some (.int u)) h0) := by
 refine Con.of (a0 := a0) #[.val (.ref o)] (plainFor_of_name pn_8) hE O all0 (fun m => by first | (simp [entryFrame, mkF, argsToLocals, Value.category]; done) | rfl) ?_
 intro p e s m below meth c T0 hx hby hml hnm hret hlk hh W0
 refine g_aloadN (pc' := 1) W0.here hx (hb hby dc633) rfl rfl rfl ?_
 refine w_get (pc' := 4) W0 hx (M_ hw w_102) Via.refl F1 (hb hby dc634) rfl fun T298 W298 => ?_
 refine w_retI W298 hx hh hlk hret (hb hby dc635) (B_ rfl) (B_ rfl) ?_
 exact ⟨rfl, rfl⟩
set_option maxRecDepth 65536 in
set_option maxHeartbeats 40000000 in
theorem c_elData (l : Launch) (Z : State) (a0 : Array Value) (hw : ∀ d ∈ tables_1, d.before a0 Z = true) (hE : EW Z a0 consts_1) (o d tx : Nat) (j : Int32) (vs : List Value) (h0 : Heap) (O : Ext Z.heap h0) (FD : Fld Z h0 o "java/util/ArrayList" "elementData" "[Ljava/lang/Object;" (.ref d)) (VD : AryR Z h0 d "java/lang/Object" vs) (hj : ¬ j < 0) (hv : vs[j.toNatClampNeg]? = some (.ref tx))  :
    Con l Z consts_1 n_37 jdk_38_method_18_code 2 (Option.some (Jvm.ClassFile.FieldType.object "java/lang/Object")) ({ frames := 0, cells := 0, slots := 0, locals := 0 } : Room) #[(.ref o), (.int j)] h0 [] (pureQ (some (.ref tx)) h0) := by
 refine Con.of (a0 := a0) #[.val (.ref o), .val (.int j)] (plainFor_of_name pn_8) hE O all0 (fun m => by first | (simp [entryFrame, mkF, argsToLocals, Value.category]; done) | rfl) ?_
 intro p e s m below meth c T0 hx hby hml hnm hret hlk hh W0
 refine g_aloadN (pc' := 1) W0.here hx (hb hby dc636) rfl rfl rfl ?_
 refine w_get (pc' := 4) W0 hx (M_ hw w_59) Via.refl FD (hb hby dc637) rfl fun T299 W299 => ?_
 refine g_iloadN (pc' := 5) W299.here hx (hb hby dc638) rfl rfl ?_
 refine w_aaload (pc' := 6) (v := (.ref tx)) W299 hx (AryR.ary VD) rfl hj hv (hb hby dc639) rfl ?_
 refine w_retA W299 hx hh hlk hret rfl rfl (hb hby dc640) (B_ rfl) (B_ rfl) ?_
 exact ⟨rfl, rfl⟩
set_option maxRecDepth 65536 in
set_option maxHeartbeats 40000000 in
theorem c_ochk (l : Launch) (Z : State) (a0 : Array Value) (hw : ∀ d ∈ tables_1, d.before a0 Z = true) (hE : EW Z a0 consts_1) (j n : Int32) (h0 : Heap) (O : Ext Z.heap h0) (hj : ¬ j < 0) (hjn : j < n) :
    Con l Z consts_1 n_38 jdk_31_method_17_code 2 (Option.some Jvm.ClassFile.FieldType.int) ({ frames := 1, cells := 0, slots := 0, locals := 14 } : Room) #[(.int j), (.int n)] h0 [] (pureQ (some (.int j)) h0) := by
 refine Con.of (a0 := a0) #[.val (.int j), .val (.int n)] (plainFor_of_name pn_9) hE O all0 (fun m => by first | (simp [entryFrame, mkF, argsToLocals, Value.category]; done) | rfl) ?_
 intro p e s m below meth c T0 hx hby hml hnm hret hlk hh W0
 refine g_iloadN (pc' := 1) W0.here hx (hb hby dc641) rfl rfl ?_
 refine g_iloadN (pc' := 2) W0.here hx (hb hby dc642) rfl rfl ?_
 refine g_aconstNull (pc' := 3) W0.here hx (hb hby dc643) rfl ?_
 refine w_callSp (pc' := 6) (st := []) (y := n_8) W0 hx [(.int j), (.int n), .null] (M_ hw w_146) (M_ hw w_147) (M_ hw w_87) (M_ hw w_148) (by decide) (c_chk3 l Z a0 hw hE j n .null h0 W0.old rfl hj hjn) (by rw [hml]; rfl) (lenOf pd_5 rfl) rfl (hb hby dc644) (B_ rfl) (B_ rfl) rfl rfl (B_ rfl) (B_ rfl) rfl fun T300 W300 => ?_
 refine w_retI W300 hx hh hlk hret (hb hby dc645) (B_ rfl) (B_ rfl) ?_
 exact ⟨rfl, rfl⟩
set_option maxRecDepth 65536 in
set_option maxHeartbeats 40000000 in
theorem c_get (l : Launch) (Z : State) (a0 : Array Value) (hw : ∀ d ∈ tables_1, d.before a0 Z = true) (hE : EW Z a0 consts_1) (o d tx : Nat) (j n : Int32) (vs : List Value) (h0 : Heap) (O : Ext Z.heap h0) (FD : Fld Z h0 o "java/util/ArrayList" "elementData" "[Ljava/lang/Object;" (.ref d)) (VD : AryR Z h0 d "java/lang/Object" vs) (hj : ¬ j < 0) (hv : vs[j.toNatClampNeg]? = some (.ref tx)) (E0 : Exa Z h0 o "java/util/ArrayList") (FS : Fld Z h0 o "java/util/ArrayList" "size" "I" (.int n)) (hjn : j < n)  :
    Con l Z consts_1 n_39 jdk_38_method_20_code 2 (Option.some (Jvm.ClassFile.FieldType.object "java/lang/Object")) ({ frames := 2, cells := 0, slots := 0, locals := 27 } : Room) #[(.ref o), (.int j)] h0 [] (pureQ (some (.ref tx)) h0) := by
 refine Con.of (a0 := a0) #[.val (.ref o), .val (.int j)] (plainFor_of_name pn_8) hE O all0 (fun m => by first | (simp [entryFrame, mkF, argsToLocals, Value.category]; done) | rfl) ?_
 intro p e s m below meth c T0 hx hby hml hnm hret hlk hh W0
 refine g_iloadN (pc' := 1) W0.here hx (hb hby dc646) rfl rfl ?_
 refine g_aloadN (pc' := 2) W0.here hx (hb hby dc647) rfl rfl rfl ?_
 refine w_get (pc' := 5) W0 hx (M_ hw w_102) Via.refl FS (hb hby dc648) rfl fun T301 W301 => ?_
 refine w_callSp (pc' := 8) (st := []) (y := n_38) W301 hx [(.int j), (.int n)] (M_ hw w_142) (M_ hw w_143) (M_ hw w_144) (M_ hw w_145) (by decide) (c_ochk l Z a0 hw hE j n h0 W301.old hj hjn) (by rw [hml]; rfl) (lenOf pd_12 rfl) rfl (hb hby dc649) (B_ rfl) (B_ rfl) rfl rfl (B_ rfl) (B_ rfl) rfl fun T302 W302 => ?_
 refine g_pop (pc' := 9) W302.here hx (hb hby dc650) rfl rfl ?_
 refine g_aloadN (pc' := 10) W302.here hx (hb hby dc651) rfl rfl rfl ?_
 refine g_iloadN (pc' := 11) W302.here hx (hb hby dc652) rfl rfl ?_
 refine w_virtualp (pc' := 14) (st := []) (y := n_37) (z := n_37) (a := o) W302 hx [(.int j)] (M_ hw w_149) (M_ hw w_150) (nfS (z := n_37) (M_ hw w_152)) (M_ hw w_152) (M_ hw w_151) (M_ hw w_39) (M_ hw w_153) (by decide) (c_elData l Z a0 hw hE o d tx j vs h0 W302.old FD VD hj hv) E0 (by rw [hml]; rfl) (lenOf pd_23 rfl) rfl (hb hby dc653) (B_ rfl) (B_ rfl) rfl rfl (B_ rfl) (B_ rfl) rfl fun T303 W303 => ?_
 refine w_retA W303 hx hh hlk hret rfl rfl (hb hby dc654) (B_ rfl) (B_ rfl) ?_
 exact ⟨rfl, rfl⟩
def bi (q : Bool) : Int32 := bif q then 1 else 0
theorem own_dropc {cs : List Int32} {i : Nat} {ci : Int32} (h : cs[i]? = some ci) : cs.drop i = ci :: cs.drop (i + 1) := by
  obtain ⟨hi, rfl⟩ := List.getElem?_eq_some_iff.mp h
  exact List.drop_eq_getElem_cons hi
theorem own_snocd {cs : List Int32} {i sj : Nat} {ci : Int32} (hs : sj ≤ i) (h : cs[i]? = some ci) : (cs.drop sj).take (i - sj) ++ [ci] = (cs.drop sj).take (i + 1 - sj) := by
  rw [show i + 1 - sj = i - sj + 1 by omega, List.take_add_one, List.getElem?_drop, show sj + (i - sj) = i by omega, h]; rfl
theorem own_s1 (q : Bool) (cur t : List Int32) (c : Int32) : spl q true cur (c :: t) = spl q false (cur ++ [c]) t := by simp [spl, stq]
theorem own_s2 {cur t : List Int32} {c : Int32} (h : c = 92) : spl true false cur (c :: t) = spl true true (cur ++ [c]) t := by simp [spl, stq, h]
theorem own_s3a {cur t : List Int32} {c : Int32} (h : c = 34) : spl false false cur (c :: t) = spl true false (cur ++ [c]) t := by simp [spl, stq, h]
theorem own_s3b {cur t : List Int32} {c : Int32} (h : c = 34) : spl true false cur (c :: t) = spl false false (cur ++ [c]) t := by simp [spl, stq, h]
theorem own_s4a {cur t : List Int32} {c : Int32} (h1 : ¬ c = 34) (h2 : ¬ c = 44) : spl false false cur (c :: t) = spl false false (cur ++ [c]) t := by simp [spl, stq, h1, h2]
theorem own_s4b {cur t : List Int32} {c : Int32} (h1 : ¬ c = 92) (h2 : ¬ c = 34) : spl true false cur (c :: t) = spl true false (cur ++ [c]) t := by simp [spl, stq, h1, h2]
theorem own_s5 {cur t : List Int32} {c : Int32} (h : c = 44) : spl false false cur (c :: t) = cur :: spl false false [] t := by simp [spl, stq, h]
theorem own_splne : ∀ (t : List Int32) (q r : Bool) (cur : List Int32), spl q r cur t ≠ []
  | [], _, _, _ => by simp [spl]
  | c :: t, q, r, cur => by
    rw [spl]
    split
    · simp
    · exact own_splne t _ _ _
theorem own_spl2 {e0 e1 : List Int32} (h0 : goodN e0) (h1 : goodL e1) : spl false false [] (e0 ++ 44 :: e1) = [e0, e1] := by rw [h0, h1]
theorem own_spl3 {e0 e1 e2 : List Int32} (h0 : goodN e0) (h1 : goodN e1) (h2 : goodL e2) : spl false false [] (e0 ++ 44 :: (e1 ++ 44 :: e2)) = [e0, e1, e2] := by rw [h0, h1, h2]
theorem own_len4 {es : List Int32} (h : es.length = 4) : ∃ a b c d, es = [a, b, c, d] := by
  match es, h with
  | [a, b, c, d], _ => exact ⟨a, b, c, d, rfl⟩
set_option maxRecDepth 65536 in
set_option maxHeartbeats 40000000 in
theorem c_elems1 (l : Launch) (Z : State) (a0 : Array Value) (hw : ∀ d ∈ tables_1, d.before a0 Z = true) (hE : EW Z a0 consts_1) (cc : Int32) (fm : Value) (a b : Nat) (cs : List Int32) (oD : Nat) (f0 : List Int32) (h0 : Heap) (O : Ext Z.heap h0) (G : SEnv Z cc fm) (SD : Sta Z Z.heap "java/util/ArrayList" "DEFAULTCAPACITY_EMPTY_ELEMENTDATA" "[Ljava/lang/Object;" (.ref oD)) (VD0 : Ary Z Z.heap oD (.object "java/lang/Object") []) (S0 : SL Z h0 a b cs) (hcl : cs.length ≤ 14) (HS : spl false false [] cs = [f0]) :
    Con l Z consts_1 n_40 prog_3_method_2_code 7 (Option.some (Jvm.ClassFile.FieldType.object "java/util/List")) ({ frames := 6, cells := 4, slots := 31, locals := 116 } : Room) #[(.ref a)] h0 [] (fun v h => ∃ (al d t0 u0 : Nat), v = some (.ref al) ∧ Exa Z h al "java/util/ArrayList" ∧ Fld Z h al "java/util/ArrayList" "elementData" "[Ljava/lang/Object;" (.ref d) ∧ Fld Z h al "java/util/ArrayList" "size" "I" (.int 1) ∧ AryR Z h d "java/lang/Object" [(.ref t0), .null, .null, .null, .null, .null, .null, .null, .null, .null] ∧ SL Z h t0 u0 f0) := by
 refine Con.of (a0 := a0) #[.val (.ref a), .unset, .unset, .unset, .unset, .unset, .unset] (plainFor_of_name pn_10) hE O all0 (fun m => by first | (simp [entryFrame, mkF, argsToLocals, Value.category]; done) | rfl) ?_
 intro p e s m below meth c T0 hx hby hml hnm hret hlk hh W0
 have VDh := VD0.ext O
 have ES0 := S0.1
 have lt_a : a < h0.size := S0.lt
 have lt_b : b < h0.size := S0.ltb
 have hlen : cs.length < 2 ^ 31 := by omega
 refine w_new (pc' := 3) W0 hx (M_ hw w_37) (M_ hw w_38) (M_ hw w_39) (hb hby dc655) (B_ rfl) (B_ rfl) rfl fun T304 h304 b304 g304 W304 K304 A304 D304 => ?_
 have z_K304 : h0.size ≤ h304.size := K304.1
 have ne_a_b304 : a ≠ b304 := by omega
 have ne_b_b304 : b ≠ b304 := by omega
 have lt_b304 : b304 < h304.size := W304.lt (List.mem_cons_self ..)
 have F304_modCount : Fld Z h304 b304 "java/util/AbstractList" "modCount" "I" (.int 0) := D304 (Or.inl (M_ hw w_57)) (ty := .int) (by decide)
 have F304_elementData : Fld Z h304 b304 "java/util/ArrayList" "elementData" "[Ljava/lang/Object;" .null := D304 (Or.inl (M_ hw w_60)) (ty := (.array (.object "java/lang/Object"))) (by decide)
 have F304_size : Fld Z h304 b304 "java/util/ArrayList" "size" "I" (.int 0) := D304 (Or.inl (M_ hw w_103)) (ty := .int) (by decide)
 refine g_dup (pc' := 4) W304.here hx (hb hby dc656) rfl rfl ?_
 refine w_special (pc' := 7) (st := [(.ref b304)]) (y := n_30) (a := b304) W304 hx [] rfl (M_ hw w_40) (M_ hw w_41) (M_ hw w_39) (M_ hw w_42) (by decide) (c_alinit l Z a0 hw hE b304 oD h304 W304.old SD VD0 (by have := O.1; omega) A304 F304_modCount F304_elementData F304_size) (allS (List.mem_of_getElem? (i := 0) rfl) all0) (by rw [hml]; rfl) (lenOf pd_19 rfl) rfl (hb hby dc657) (B_ rfl) (B_ rfl) (B_ rfl) (B_ rfl) rfl fun v305 T305 h305 W305 K305 Q305 => ?_
 have z_K305 : h304.size ≤ h305.size := K305.1
 obtain ⟨rfl, E306, FM306, FD306, FS306⟩ := Q305
 refine g_astoreN (pc' := 8) (Ls' := #[.val (.ref a), .val (.ref b304), .unset, .unset, .unset, .unset, .unset]) W305.here hx (hb hby dc658) rfl rfl rfl ?_
 refine g_iconst (0 : Int32) (pc' := 9) W305.here hx (hb hby dc659) rfl rfl ?_
 refine g_istoreN (pc' := 10) (Ls' := #[.val (.ref a), .val (.ref b304), .val (.int 0), .unset, .unset, .unset, .unset]) W305.here hx (hb hby dc660) rfl rfl ?_
 refine g_iconst (0 : Int32) (pc' := 11) W305.here hx (hb hby dc661) rfl rfl ?_
 refine g_istoreN (pc' := 12) (Ls' := #[.val (.ref a), .val (.ref b304), .val (.int 0), .val (.int 0), .unset, .unset, .unset]) W305.here hx (hb hby dc662) rfl rfl ?_
 refine g_iconst (0 : Int32) (pc' := 13) W305.here hx (hb hby dc663) rfl rfl ?_
 refine g_istore (pc' := 15) (Ls' := #[.val (.ref a), .val (.ref b304), .val (.int 0), .val (.int 0), .val (.int 0), .unset, .unset]) W305.here hx (hb hby dc664) rfl rfl ?_
 refine g_iconst (0 : Int32) (pc' := 16) W305.here hx (hb hby dc665) rfl rfl ?_
 refine g_istore (pc' := 18) (Ls' := #[.val (.ref a), .val (.ref b304), .val (.int 0), .val (.int 0), .val (.int 0), .val (.int 0), .unset]) W305.here hx (hb hby dc666) rfl rfl ?_
 have LV0 : ∀ (k i : Nat), i + k = cs.length → ∀ (TL : State) (hL : Heap) (bq be : Bool) (sj : Nat) (o6 : Slot), One o6 → Wk p l e ({ frames := 6, cells := 4, slots := 31, locals := 116 } : Room) s m #[(.ref a)] below meth c Z consts_1 "com/example/despatch/despatch/http/HeaderList" [] [b304] TL hL 1 3 → Exa Z hL b304 "java/util/ArrayList" → Fld Z hL b304 "java/util/AbstractList" "modCount" "I" (.int 0) → Fld Z hL b304 "java/util/ArrayList" "elementData" "[Ljava/lang/Object;" (.ref oD) → Fld Z hL b304 "java/util/ArrayList" "size" "I" (.int 0) → SL Z hL a b cs → sj ≤ i → spl bq be ((cs.drop sj).take (i - sj)) (cs.drop i) = [f0] → Gets p.tables e below (Post s Z consts_1 ({ frames := 6, cells := 4, slots := 31, locals := 116 } : Room) h0 [] (fun v h => ∃ (al d t0 u0 : Nat), v = some (.ref al) ∧ Exa Z h al "java/util/ArrayList" ∧ Fld Z h al "java/util/ArrayList" "elementData" "[Ljava/lang/Object;" (.ref d) ∧ Fld Z h al "java/util/ArrayList" "size" "I" (.int 1) ∧ AryR Z h d "java/lang/Object" [(.ref t0), .null, .null, .null, .null, .null, .null, .null, .null, .null] ∧ SL Z h t0 u0 f0)) TL (mkF m 18 #[.val (.ref a), .val (.ref b304), .val (.int (bi bq)), .val (.int (bi be)), .val (.int sj.toInt32), .val (.int i.toInt32), o6] []) := by
  intro k
  induction k with
  | zero =>
   intro i hi TL hL bq be sj o6  ho6 WL E_ FM_ FD_ FS_ S0_   hst HI
   have lt_b304 : b304 < hL.size := E_.lt
   have hzal : Z.heap.size ≤ b304 := WL.zle (List.mem_of_getElem? (i := 0) rfl)
   have ES0_ := S0_.1
   have lt_a : a < hL.size := S0_.lt
   have lt_b : b < hL.size := S0_.ltb
   have nq307 : b304 ≠ a := Jvm.RoadKit.ne_exa E_ S0_.1 (by decide)
   have nq308 : b304 ≠ b := own_neobj E_ (M_ hw w_38) S0_.2.2.2.1
   have ei : i = cs.length := by omega
   rw [show cs.drop i = [] from List.drop_of_length_le (by omega), ei] at HI
   have HE : (cs.drop sj).take (cs.length - sj) = f0 := by simpa [spl] using HI
   refine g_iload (pc' := 20) WL.here hx (hb hby dc667) rfl rfl ?_
   refine g_aloadN (pc' := 21) WL.here hx (hb hby dc668) rfl rfl rfl ?_
   refine w_virtualp (pc' := 24) (st := [(.int i.toInt32)]) (y := n_6) (z := n_6) (a := a) WL hx [] (M_ hw w_61) (M_ hw w_62) (nfS (z := n_6) (M_ hw w_64)) (M_ hw w_64) (M_ hw w_63) (M_ hw w_14) (M_ hw w_65) (by decide) (c_length l Z a0 hw hE cc fm a b cs  hL WL.old G S0_ ) ES0_ (by rw [hml]; rfl) (lenOf pd_15 rfl) rfl (hb hby dc669) (B_ rfl) (B_ rfl) rfl rfl (B_ rfl) (B_ rfl) rfl fun T309 W309 => ?_
   refine g_icmpY (pc' := 118) W309.here hx (hb hby dc670) rfl (flt (show ¬ (i.toInt32 < cs.length.toInt32) from (own_nltn (by omega) (by omega)))).2.1 ?_
   refine g_aloadN (pc' := 119) W309.here hx (hb hby dc671) rfl rfl rfl ?_
   refine g_aloadN (pc' := 120) W309.here hx (hb hby dc672) rfl rfl rfl ?_
   refine g_iload (pc' := 122) W309.here hx (hb hby dc673) rfl rfl ?_
   refine w_virtual (pc' := 125) (st := [(.ref b304)]) (y := n_27) (z := n_27) (a := a) W309 hx [(.int sj.toInt32)] (M_ hw w_72) (M_ hw w_73) (nfS (z := n_27) (M_ hw w_75)) (M_ hw w_75) (M_ hw w_74) (M_ hw w_14) (M_ hw w_76) (by decide) (c_sub1 l Z a0 hw hE cc fm a b cs sj hL W309.old G S0_ (by omega) hcl) ES0_ all0 (by rw [hml]; rfl) (lenOf pd_24 rfl) rfl (hb hby dc674) (B_ rfl) (B_ rfl) (B_ rfl) (B_ rfl) rfl fun v310 T310 h310 W310 K310 Q310 => ?_
   have z_K310 : hL.size ≤ h310.size := K310.1
   obtain ⟨t_311, u_311, rfl, SX311⟩ := Q310
   have SY311 : SL Z h310 t_311 u_311 f0 := by rw [← HE]; exact SX311
   have ESY311 := SY311.1
   have lt_t_311 : t_311 < h310.size := SY311.lt
   have lt_u_311 : u_311 < h310.size := SY311.ltb
   have c312 := (E_.keep K310)
   have nq313 : b304 ≠ t_311 := Jvm.RoadKit.ne_exa c312 SY311.1 (by decide)
   have nq314 : b304 ≠ u_311 := own_neobj c312 (M_ hw w_38) SY311.2.2.2.1
   have c315 := (FM_.keep K310 nin0)
   have c316 := (FD_.keep K310 nin0)
   have c317 := (FS_.keep K310 nin0)
   refine w_ifaceF (pc' := 130) (st := []) (y := n_41) (z := n_35) (a := b304) W310 hx [(.ref t_311)] (M_ hw w_91) (M_ hw w_92) (M_ hw w_93) (M_ hw w_94) (M_ hw w_95) (M_ hw w_96) (M_ hw w_97) (M_ hw w_98) (M_ hw w_39) (M_ hw w_99) (by decide) (c_add_0 l Z a0 hw hE b304 oD t_311 h310 W310.old SD VD0 hzal c312 c315 c316 c317 ESY311) c312 (allS (List.mem_of_getElem? (i := 0) rfl) all0) (by rw [hml]; rfl) (lenOf pd_25 rfl) rfl (hb hby dc675) (B_ rfl) (B_ rfl) (B_ rfl) (B_ rfl) rfl fun N318 v318 T318 h318 W318 K318 G318 Q318 => ?_
   have z_K318 : h310.size ≤ h318.size := K318.1
   obtain ⟨d319, rfl, rfl, E320, FM320, FD320, FS320, VD320⟩ := Q318
   have gz321 := (G318 d319 (List.mem_cons_self ..)).1
   have lt_d319 := (G318 d319 (List.mem_cons_self ..)).2
   have ne_b304_d319 : b304 ≠ d319 := by omega
   have ne_a_d319 : a ≠ d319 := by omega
   have ne_b_d319 : b ≠ d319 := by omega
   have ne_t_311_d319 : t_311 ≠ d319 := by omega
   have ne_u_311_d319 : u_311 ≠ d319 := by omega
   refine g_pop (pc' := 131) W318.here hx (hb hby dc676) rfl rfl ?_
   refine g_aloadN (pc' := 132) W318.here hx (hb hby dc677) rfl rfl rfl ?_
   have c322 := (SY311.keep K318 (ninS (Ne.symm nq313) nin0) (ninS (Ne.symm nq314) nin0))
   refine w_retA W318 hx hh hlk hret rfl rfl (hb hby dc678) (B_ rfl) (B_ rfl) ?_
   exact ⟨_, d319, t_311, u_311, rfl, E320, FD320, FS320, VD320, c322⟩
  | succ k ih =>
   intro i hi TL hL bq be sj o6  ho6 WL E_ FM_ FD_ FS_ S0_   hst HI
   have lt_b304 : b304 < hL.size := E_.lt
   have hzal : Z.heap.size ≤ b304 := WL.zle (List.mem_of_getElem? (i := 0) rfl)
   have ES0_ := S0_.1
   have lt_a : a < hL.size := S0_.lt
   have lt_b : b < hL.size := S0_.ltb
   have nq323 : b304 ≠ a := Jvm.RoadKit.ne_exa E_ S0_.1 (by decide)
   have nq324 : b304 ≠ b := own_neobj E_ (M_ hw w_38) S0_.2.2.2.1
   have hi2 : i < cs.length := by omega
   obtain ⟨ci, hci⟩ : ∃ z, cs[i]? = some z := ⟨_, List.getElem?_eq_getElem hi2⟩
   cases bq
   ·
    cases be
    ·
     show Gets p.tables e below (Post s Z consts_1 ({ frames := 6, cells := 4, slots := 31, locals := 116 } : Room) h0 [] (fun v h => ∃ (al d t0 u0 : Nat), v = some (.ref al) ∧ Exa Z h al "java/util/ArrayList" ∧ Fld Z h al "java/util/ArrayList" "elementData" "[Ljava/lang/Object;" (.ref d) ∧ Fld Z h al "java/util/ArrayList" "size" "I" (.int 1) ∧ AryR Z h d "java/lang/Object" [(.ref t0), .null, .null, .null, .null, .null, .null, .null, .null, .null] ∧ SL Z h t0 u0 f0)) TL (mkF m 18 #[.val (.ref a), .val (.ref b304), .val (.int 0), .val (.int 0), .val (.int sj.toInt32), .val (.int i.toInt32), o6] [])
     refine g_iload (pc' := 20) WL.here hx (hb hby dc667) rfl rfl ?_
     refine g_aloadN (pc' := 21) WL.here hx (hb hby dc668) rfl rfl rfl ?_
     refine w_virtualp (pc' := 24) (st := [(.int i.toInt32)]) (y := n_6) (z := n_6) (a := a) WL hx [] (M_ hw w_61) (M_ hw w_62) (nfS (z := n_6) (M_ hw w_64)) (M_ hw w_64) (M_ hw w_63) (M_ hw w_14) (M_ hw w_65) (by decide) (c_length l Z a0 hw hE cc fm a b cs  hL WL.old G S0_ ) ES0_ (by rw [hml]; rfl) (lenOf pd_15 rfl) rfl (hb hby dc669) (B_ rfl) (B_ rfl) rfl rfl (B_ rfl) (B_ rfl) rfl fun T325 W325 => ?_
     refine g_icmpN (pc' := 27) W325.here hx (hb hby dc670) rfl (tlt (show i.toInt32 < cs.length.toInt32 from (own_ltn hi2 hlen))).2.1 ?_
     refine g_aloadN (pc' := 28) W325.here hx (hb hby dc679) rfl rfl rfl ?_
     refine g_iload (pc' := 30) W325.here hx (hb hby dc680) rfl rfl ?_
     refine w_virtualp (pc' := 33) (st := []) (y := n_11) (z := n_11) (a := a) W325 hx [(.int i.toInt32)] (M_ hw w_177) (M_ hw w_178) (nfS (z := n_11) (M_ hw w_180)) (M_ hw w_180) (M_ hw w_179) (M_ hw w_14) (M_ hw w_181) (by decide) (c_charAt l Z a0 hw hE cc fm a b cs i.toInt32 ci hL W325.old G S0_ (own_nneg (by omega)) (own_ltn hi2 hlen) (by rw [i32_nat (by omega)]; exact hci)) ES0_ (by rw [hml]; rfl) (lenOf pd_10 rfl) rfl (hb hby dc681) (B_ rfl) (B_ rfl) rfl rfl (B_ rfl) (B_ rfl) rfl fun T326 W326 => ?_
     refine g_istore (pc' := 35) (Ls' := #[.val (.ref a), .val (.ref b304), .val (.int 0), .val (.int 0), .val (.int sj.toInt32), .val (.int i.toInt32), .val (.int ci)]) W326.here hx (hb hby dc682) (XS.store1 (o := o6) rfl ho6 rfl) rfl ?_
     refine g_iloadN (pc' := 36) W326.here hx (hb hby dc683) rfl rfl ?_
     refine g_ifY (pc' := 44) W326.here hx (hb hby dc684) rfl (teq (show (0 : Int32) = (0 : Int32) from (by decide))).1 ?_
     refine g_iloadN (pc' := 45) W326.here hx (hb hby dc685) rfl rfl ?_
     refine g_ifY (pc' := 60) W326.here hx (hb hby dc686) rfl (teq (show (0 : Int32) = (0 : Int32) from (by decide))).1 ?_
     refine g_iload (pc' := 62) W326.here hx (hb hby dc687) rfl rfl ?_
     refine g_bipush (34 : Int32) (pc' := 64) W326.here hx (hb hby dc688) rfl rfl ?_
     by_cases hc64_327 : ci = (34 : Int32)
     ·
      refine g_icmpN (pc' := 67) W326.here hx (hb hby dc689) rfl (teq hc64_327).2 ?_
      refine g_iloadN (pc' := 68) W326.here hx (hb hby dc690) rfl rfl ?_
      refine g_ifN (pc' := 71) W326.here hx (hb hby dc691) rfl (teq (show (0 : Int32) = (0 : Int32) from (by decide))).2 ?_
      refine g_iconst (1 : Int32) (pc' := 72) W326.here hx (hb hby dc692) rfl rfl ?_
      refine g_goto (pc' := 76) W326.here hx (hb hby dc693) rfl ?_
      refine g_istoreN (pc' := 77) (Ls' := #[.val (.ref a), .val (.ref b304), .val (.int 1), .val (.int 0), .val (.int sj.toInt32), .val (.int i.toInt32), .val (.int ci)]) W326.here hx (hb hby dc694) rfl rfl ?_
      refine g_goto (pc' := 112) W326.here hx (hb hby dc695) rfl ?_
      refine g_iincV (i + 1).toInt32 (pc' := 115) (Ls' := #[.val (.ref a), .val (.ref b304), .val (.int 1), .val (.int 0), .val (.int sj.toInt32), .val (.int (i + 1).toInt32), .val (.int ci)]) W326.here hx (hb hby dc696) (own_succ i) rfl rfl rfl ?_
      refine g_goto (pc' := 18) W326.here hx (hb hby dc697) rfl ?_
      exact ih (i + 1) (by omega) _ _ true false sj _  (One.val rfl) W326 E_ FM_ FD_ FS_ S0_   (by omega) (by rw [own_dropc hci, own_s3a hc64_327, own_snocd hst hci] at HI; exact HI)
     ·
      refine g_icmpY (pc' := 80) W326.here hx (hb hby dc689) rfl (feq hc64_327).2 ?_
      refine g_iload (pc' := 82) W326.here hx (hb hby dc698) rfl rfl ?_
      refine g_bipush (44 : Int32) (pc' := 84) W326.here hx (hb hby dc699) rfl rfl ?_
      by_cases hc84_328 : ci = (44 : Int32)
      ·
       refine g_icmpN (pc' := 87) W326.here hx (hb hby dc700) rfl (teq hc84_328).2 ?_
       refine g_iloadN (pc' := 88) W326.here hx (hb hby dc701) rfl rfl ?_
       refine g_ifN (pc' := 91) W326.here hx (hb hby dc702) rfl (teq (show (0 : Int32) = (0 : Int32) from (by decide))).2 ?_
       rw [own_dropc hci, own_s5 hc84_328] at HI
       exact absurd (List.cons.inj HI).2 (own_splne _ _ _ _)
      ·
       refine g_icmpY (pc' := 112) W326.here hx (hb hby dc700) rfl (feq hc84_328).2 ?_
       refine g_iincV (i + 1).toInt32 (pc' := 115) (Ls' := #[.val (.ref a), .val (.ref b304), .val (.int 0), .val (.int 0), .val (.int sj.toInt32), .val (.int (i + 1).toInt32), .val (.int ci)]) W326.here hx (hb hby dc696) (own_succ i) rfl rfl rfl ?_
       refine g_goto (pc' := 18) W326.here hx (hb hby dc697) rfl ?_
       exact ih (i + 1) (by omega) _ _ false false sj _  (One.val rfl) W326 E_ FM_ FD_ FS_ S0_   (by omega) (by rw [own_dropc hci, own_s4a hc64_327 hc84_328, own_snocd hst hci] at HI; exact HI)
    ·
     show Gets p.tables e below (Post s Z consts_1 ({ frames := 6, cells := 4, slots := 31, locals := 116 } : Room) h0 [] (fun v h => ∃ (al d t0 u0 : Nat), v = some (.ref al) ∧ Exa Z h al "java/util/ArrayList" ∧ Fld Z h al "java/util/ArrayList" "elementData" "[Ljava/lang/Object;" (.ref d) ∧ Fld Z h al "java/util/ArrayList" "size" "I" (.int 1) ∧ AryR Z h d "java/lang/Object" [(.ref t0), .null, .null, .null, .null, .null, .null, .null, .null, .null] ∧ SL Z h t0 u0 f0)) TL (mkF m 18 #[.val (.ref a), .val (.ref b304), .val (.int 0), .val (.int 1), .val (.int sj.toInt32), .val (.int i.toInt32), o6] [])
     refine g_iload (pc' := 20) WL.here hx (hb hby dc667) rfl rfl ?_
     refine g_aloadN (pc' := 21) WL.here hx (hb hby dc668) rfl rfl rfl ?_
     refine w_virtualp (pc' := 24) (st := [(.int i.toInt32)]) (y := n_6) (z := n_6) (a := a) WL hx [] (M_ hw w_61) (M_ hw w_62) (nfS (z := n_6) (M_ hw w_64)) (M_ hw w_64) (M_ hw w_63) (M_ hw w_14) (M_ hw w_65) (by decide) (c_length l Z a0 hw hE cc fm a b cs  hL WL.old G S0_ ) ES0_ (by rw [hml]; rfl) (lenOf pd_15 rfl) rfl (hb hby dc669) (B_ rfl) (B_ rfl) rfl rfl (B_ rfl) (B_ rfl) rfl fun T329 W329 => ?_
     refine g_icmpN (pc' := 27) W329.here hx (hb hby dc670) rfl (tlt (show i.toInt32 < cs.length.toInt32 from (own_ltn hi2 hlen))).2.1 ?_
     refine g_aloadN (pc' := 28) W329.here hx (hb hby dc679) rfl rfl rfl ?_
     refine g_iload (pc' := 30) W329.here hx (hb hby dc680) rfl rfl ?_
     refine w_virtualp (pc' := 33) (st := []) (y := n_11) (z := n_11) (a := a) W329 hx [(.int i.toInt32)] (M_ hw w_177) (M_ hw w_178) (nfS (z := n_11) (M_ hw w_180)) (M_ hw w_180) (M_ hw w_179) (M_ hw w_14) (M_ hw w_181) (by decide) (c_charAt l Z a0 hw hE cc fm a b cs i.toInt32 ci hL W329.old G S0_ (own_nneg (by omega)) (own_ltn hi2 hlen) (by rw [i32_nat (by omega)]; exact hci)) ES0_ (by rw [hml]; rfl) (lenOf pd_10 rfl) rfl (hb hby dc681) (B_ rfl) (B_ rfl) rfl rfl (B_ rfl) (B_ rfl) rfl fun T330 W330 => ?_
     refine g_istore (pc' := 35) (Ls' := #[.val (.ref a), .val (.ref b304), .val (.int 0), .val (.int 1), .val (.int sj.toInt32), .val (.int i.toInt32), .val (.int ci)]) W330.here hx (hb hby dc682) (XS.store1 (o := o6) rfl ho6 rfl) rfl ?_
     refine g_iloadN (pc' := 36) W330.here hx (hb hby dc683) rfl rfl ?_
     refine g_ifN (pc' := 39) W330.here hx (hb hby dc684) rfl (feq (show ¬ ((1 : Int32) = (0 : Int32)) from (by decide))).1 ?_
     refine g_iconst (0 : Int32) (pc' := 40) W330.here hx (hb hby dc703) rfl rfl ?_
     refine g_istoreN (pc' := 41) (Ls' := #[.val (.ref a), .val (.ref b304), .val (.int 0), .val (.int 0), .val (.int sj.toInt32), .val (.int i.toInt32), .val (.int ci)]) W330.here hx (hb hby dc704) rfl rfl ?_
     refine g_goto (pc' := 112) W330.here hx (hb hby dc705) rfl ?_
     refine g_iincV (i + 1).toInt32 (pc' := 115) (Ls' := #[.val (.ref a), .val (.ref b304), .val (.int 0), .val (.int 0), .val (.int sj.toInt32), .val (.int (i + 1).toInt32), .val (.int ci)]) W330.here hx (hb hby dc696) (own_succ i) rfl rfl rfl ?_
     refine g_goto (pc' := 18) W330.here hx (hb hby dc697) rfl ?_
     exact ih (i + 1) (by omega) _ _ false false sj _  (One.val rfl) W330 E_ FM_ FD_ FS_ S0_   (by omega) (by rw [own_dropc hci, own_s1, own_snocd hst hci] at HI; exact HI)
   ·
    cases be
    ·
     show Gets p.tables e below (Post s Z consts_1 ({ frames := 6, cells := 4, slots := 31, locals := 116 } : Room) h0 [] (fun v h => ∃ (al d t0 u0 : Nat), v = some (.ref al) ∧ Exa Z h al "java/util/ArrayList" ∧ Fld Z h al "java/util/ArrayList" "elementData" "[Ljava/lang/Object;" (.ref d) ∧ Fld Z h al "java/util/ArrayList" "size" "I" (.int 1) ∧ AryR Z h d "java/lang/Object" [(.ref t0), .null, .null, .null, .null, .null, .null, .null, .null, .null] ∧ SL Z h t0 u0 f0)) TL (mkF m 18 #[.val (.ref a), .val (.ref b304), .val (.int 1), .val (.int 0), .val (.int sj.toInt32), .val (.int i.toInt32), o6] [])
     refine g_iload (pc' := 20) WL.here hx (hb hby dc667) rfl rfl ?_
     refine g_aloadN (pc' := 21) WL.here hx (hb hby dc668) rfl rfl rfl ?_
     refine w_virtualp (pc' := 24) (st := [(.int i.toInt32)]) (y := n_6) (z := n_6) (a := a) WL hx [] (M_ hw w_61) (M_ hw w_62) (nfS (z := n_6) (M_ hw w_64)) (M_ hw w_64) (M_ hw w_63) (M_ hw w_14) (M_ hw w_65) (by decide) (c_length l Z a0 hw hE cc fm a b cs  hL WL.old G S0_ ) ES0_ (by rw [hml]; rfl) (lenOf pd_15 rfl) rfl (hb hby dc669) (B_ rfl) (B_ rfl) rfl rfl (B_ rfl) (B_ rfl) rfl fun T331 W331 => ?_
     refine g_icmpN (pc' := 27) W331.here hx (hb hby dc670) rfl (tlt (show i.toInt32 < cs.length.toInt32 from (own_ltn hi2 hlen))).2.1 ?_
     refine g_aloadN (pc' := 28) W331.here hx (hb hby dc679) rfl rfl rfl ?_
     refine g_iload (pc' := 30) W331.here hx (hb hby dc680) rfl rfl ?_
     refine w_virtualp (pc' := 33) (st := []) (y := n_11) (z := n_11) (a := a) W331 hx [(.int i.toInt32)] (M_ hw w_177) (M_ hw w_178) (nfS (z := n_11) (M_ hw w_180)) (M_ hw w_180) (M_ hw w_179) (M_ hw w_14) (M_ hw w_181) (by decide) (c_charAt l Z a0 hw hE cc fm a b cs i.toInt32 ci hL W331.old G S0_ (own_nneg (by omega)) (own_ltn hi2 hlen) (by rw [i32_nat (by omega)]; exact hci)) ES0_ (by rw [hml]; rfl) (lenOf pd_10 rfl) rfl (hb hby dc681) (B_ rfl) (B_ rfl) rfl rfl (B_ rfl) (B_ rfl) rfl fun T332 W332 => ?_
     refine g_istore (pc' := 35) (Ls' := #[.val (.ref a), .val (.ref b304), .val (.int 1), .val (.int 0), .val (.int sj.toInt32), .val (.int i.toInt32), .val (.int ci)]) W332.here hx (hb hby dc682) (XS.store1 (o := o6) rfl ho6 rfl) rfl ?_
     refine g_iloadN (pc' := 36) W332.here hx (hb hby dc683) rfl rfl ?_
     refine g_ifY (pc' := 44) W332.here hx (hb hby dc684) rfl (teq (show (0 : Int32) = (0 : Int32) from (by decide))).1 ?_
     refine g_iloadN (pc' := 45) W332.here hx (hb hby dc685) rfl rfl ?_
     refine g_ifN (pc' := 48) W332.here hx (hb hby dc686) rfl (feq (show ¬ ((1 : Int32) = (0 : Int32)) from (by decide))).1 ?_
     refine g_iload (pc' := 50) W332.here hx (hb hby dc706) rfl rfl ?_
     refine g_bipush (92 : Int32) (pc' := 52) W332.here hx (hb hby dc707) rfl rfl ?_
     by_cases hc52_333 : ci = (92 : Int32)
     ·
      refine g_icmpN (pc' := 55) W332.here hx (hb hby dc708) rfl (teq hc52_333).2 ?_
      refine g_iconst (1 : Int32) (pc' := 56) W332.here hx (hb hby dc709) rfl rfl ?_
      refine g_istoreN (pc' := 57) (Ls' := #[.val (.ref a), .val (.ref b304), .val (.int 1), .val (.int 1), .val (.int sj.toInt32), .val (.int i.toInt32), .val (.int ci)]) W332.here hx (hb hby dc710) rfl rfl ?_
      refine g_goto (pc' := 112) W332.here hx (hb hby dc711) rfl ?_
      refine g_iincV (i + 1).toInt32 (pc' := 115) (Ls' := #[.val (.ref a), .val (.ref b304), .val (.int 1), .val (.int 1), .val (.int sj.toInt32), .val (.int (i + 1).toInt32), .val (.int ci)]) W332.here hx (hb hby dc696) (own_succ i) rfl rfl rfl ?_
      refine g_goto (pc' := 18) W332.here hx (hb hby dc697) rfl ?_
      exact ih (i + 1) (by omega) _ _ true true sj _  (One.val rfl) W332 E_ FM_ FD_ FS_ S0_   (by omega) (by rw [own_dropc hci, own_s2 hc52_333, own_snocd hst hci] at HI; exact HI)
     ·
      refine g_icmpY (pc' := 60) W332.here hx (hb hby dc708) rfl (feq hc52_333).2 ?_
      refine g_iload (pc' := 62) W332.here hx (hb hby dc687) rfl rfl ?_
      refine g_bipush (34 : Int32) (pc' := 64) W332.here hx (hb hby dc688) rfl rfl ?_
      by_cases hc64_334 : ci = (34 : Int32)
      ·
       refine g_icmpN (pc' := 67) W332.here hx (hb hby dc689) rfl (teq hc64_334).2 ?_
       refine g_iloadN (pc' := 68) W332.here hx (hb hby dc690) rfl rfl ?_
       refine g_ifY (pc' := 75) W332.here hx (hb hby dc691) rfl (feq (show ¬ ((1 : Int32) = (0 : Int32)) from (by decide))).2 ?_
       refine g_iconst (0 : Int32) (pc' := 76) W332.here hx (hb hby dc712) rfl rfl ?_
       refine g_istoreN (pc' := 77) (Ls' := #[.val (.ref a), .val (.ref b304), .val (.int 0), .val (.int 0), .val (.int sj.toInt32), .val (.int i.toInt32), .val (.int ci)]) W332.here hx (hb hby dc694) rfl rfl ?_
       refine g_goto (pc' := 112) W332.here hx (hb hby dc695) rfl ?_
       refine g_iincV (i + 1).toInt32 (pc' := 115) (Ls' := #[.val (.ref a), .val (.ref b304), .val (.int 0), .val (.int 0), .val (.int sj.toInt32), .val (.int (i + 1).toInt32), .val (.int ci)]) W332.here hx (hb hby dc696) (own_succ i) rfl rfl rfl ?_
       refine g_goto (pc' := 18) W332.here hx (hb hby dc697) rfl ?_
       exact ih (i + 1) (by omega) _ _ false false sj _  (One.val rfl) W332 E_ FM_ FD_ FS_ S0_   (by omega) (by rw [own_dropc hci, own_s3b hc64_334, own_snocd hst hci] at HI; exact HI)
      ·
       refine g_icmpY (pc' := 80) W332.here hx (hb hby dc689) rfl (feq hc64_334).2 ?_
       refine g_iload (pc' := 82) W332.here hx (hb hby dc698) rfl rfl ?_
       refine g_bipush (44 : Int32) (pc' := 84) W332.here hx (hb hby dc699) rfl rfl ?_
       by_cases hc84_335 : ci = (44 : Int32)
       ·
        refine g_icmpN (pc' := 87) W332.here hx (hb hby dc700) rfl (teq hc84_335).2 ?_
        refine g_iloadN (pc' := 88) W332.here hx (hb hby dc701) rfl rfl ?_
        refine g_ifY (pc' := 112) W332.here hx (hb hby dc702) rfl (feq (show ¬ ((1 : Int32) = (0 : Int32)) from (by decide))).2 ?_
        refine g_iincV (i + 1).toInt32 (pc' := 115) (Ls' := #[.val (.ref a), .val (.ref b304), .val (.int 1), .val (.int 0), .val (.int sj.toInt32), .val (.int (i + 1).toInt32), .val (.int ci)]) W332.here hx (hb hby dc696) (own_succ i) rfl rfl rfl ?_
        refine g_goto (pc' := 18) W332.here hx (hb hby dc697) rfl ?_
        exact ih (i + 1) (by omega) _ _ true false sj _  (One.val rfl) W332 E_ FM_ FD_ FS_ S0_   (by omega) (by rw [own_dropc hci, own_s4b hc52_333 hc64_334, own_snocd hst hci] at HI; exact HI)
       ·
        refine g_icmpY (pc' := 112) W332.here hx (hb hby dc700) rfl (feq hc84_335).2 ?_
        refine g_iincV (i + 1).toInt32 (pc' := 115) (Ls' := #[.val (.ref a), .val (.ref b304), .val (.int 1), .val (.int 0), .val (.int sj.toInt32), .val (.int (i + 1).toInt32), .val (.int ci)]) W332.here hx (hb hby dc696) (own_succ i) rfl rfl rfl ?_
        refine g_goto (pc' := 18) W332.here hx (hb hby dc697) rfl ?_
        exact ih (i + 1) (by omega) _ _ true false sj _  (One.val rfl) W332 E_ FM_ FD_ FS_ S0_   (by omega) (by rw [own_dropc hci, own_s4b hc52_333 hc64_334, own_snocd hst hci] at HI; exact HI)
    ·
     show Gets p.tables e below (Post s Z consts_1 ({ frames := 6, cells := 4, slots := 31, locals := 116 } : Room) h0 [] (fun v h => ∃ (al d t0 u0 : Nat), v = some (.ref al) ∧ Exa Z h al "java/util/ArrayList" ∧ Fld Z h al "java/util/ArrayList" "elementData" "[Ljava/lang/Object;" (.ref d) ∧ Fld Z h al "java/util/ArrayList" "size" "I" (.int 1) ∧ AryR Z h d "java/lang/Object" [(.ref t0), .null, .null, .null, .null, .null, .null, .null, .null, .null] ∧ SL Z h t0 u0 f0)) TL (mkF m 18 #[.val (.ref a), .val (.ref b304), .val (.int 1), .val (.int 1), .val (.int sj.toInt32), .val (.int i.toInt32), o6] [])
     refine g_iload (pc' := 20) WL.here hx (hb hby dc667) rfl rfl ?_
     refine g_aloadN (pc' := 21) WL.here hx (hb hby dc668) rfl rfl rfl ?_
     refine w_virtualp (pc' := 24) (st := [(.int i.toInt32)]) (y := n_6) (z := n_6) (a := a) WL hx [] (M_ hw w_61) (M_ hw w_62) (nfS (z := n_6) (M_ hw w_64)) (M_ hw w_64) (M_ hw w_63) (M_ hw w_14) (M_ hw w_65) (by decide) (c_length l Z a0 hw hE cc fm a b cs  hL WL.old G S0_ ) ES0_ (by rw [hml]; rfl) (lenOf pd_15 rfl) rfl (hb hby dc669) (B_ rfl) (B_ rfl) rfl rfl (B_ rfl) (B_ rfl) rfl fun T336 W336 => ?_
     refine g_icmpN (pc' := 27) W336.here hx (hb hby dc670) rfl (tlt (show i.toInt32 < cs.length.toInt32 from (own_ltn hi2 hlen))).2.1 ?_
     refine g_aloadN (pc' := 28) W336.here hx (hb hby dc679) rfl rfl rfl ?_
     refine g_iload (pc' := 30) W336.here hx (hb hby dc680) rfl rfl ?_
     refine w_virtualp (pc' := 33) (st := []) (y := n_11) (z := n_11) (a := a) W336 hx [(.int i.toInt32)] (M_ hw w_177) (M_ hw w_178) (nfS (z := n_11) (M_ hw w_180)) (M_ hw w_180) (M_ hw w_179) (M_ hw w_14) (M_ hw w_181) (by decide) (c_charAt l Z a0 hw hE cc fm a b cs i.toInt32 ci hL W336.old G S0_ (own_nneg (by omega)) (own_ltn hi2 hlen) (by rw [i32_nat (by omega)]; exact hci)) ES0_ (by rw [hml]; rfl) (lenOf pd_10 rfl) rfl (hb hby dc681) (B_ rfl) (B_ rfl) rfl rfl (B_ rfl) (B_ rfl) rfl fun T337 W337 => ?_
     refine g_istore (pc' := 35) (Ls' := #[.val (.ref a), .val (.ref b304), .val (.int 1), .val (.int 1), .val (.int sj.toInt32), .val (.int i.toInt32), .val (.int ci)]) W337.here hx (hb hby dc682) (XS.store1 (o := o6) rfl ho6 rfl) rfl ?_
     refine g_iloadN (pc' := 36) W337.here hx (hb hby dc683) rfl rfl ?_
     refine g_ifN (pc' := 39) W337.here hx (hb hby dc684) rfl (feq (show ¬ ((1 : Int32) = (0 : Int32)) from (by decide))).1 ?_
     refine g_iconst (0 : Int32) (pc' := 40) W337.here hx (hb hby dc703) rfl rfl ?_
     refine g_istoreN (pc' := 41) (Ls' := #[.val (.ref a), .val (.ref b304), .val (.int 1), .val (.int 0), .val (.int sj.toInt32), .val (.int i.toInt32), .val (.int ci)]) W337.here hx (hb hby dc704) rfl rfl ?_
     refine g_goto (pc' := 112) W337.here hx (hb hby dc705) rfl ?_
     refine g_iincV (i + 1).toInt32 (pc' := 115) (Ls' := #[.val (.ref a), .val (.ref b304), .val (.int 1), .val (.int 0), .val (.int sj.toInt32), .val (.int (i + 1).toInt32), .val (.int ci)]) W337.here hx (hb hby dc696) (own_succ i) rfl rfl rfl ?_
     refine g_goto (pc' := 18) W337.here hx (hb hby dc697) rfl ?_
     exact ih (i + 1) (by omega) _ _ true false sj _  (One.val rfl) W337 E_ FM_ FD_ FS_ S0_   (by omega) (by rw [own_dropc hci, own_s1, own_snocd hst hci] at HI; exact HI)
 have c338 := ((S0.keep K304 nin0 nin0).keep K305 (ninS ne_a_b304 nin0) (ninS ne_b_b304 nin0))
 exact LV0 cs.length 0 (by omega) _ _ false false 0 _ One.u W305 E306 FM306 FD306 FS306 c338 (Nat.le_refl _) HS
set_option maxRecDepth 65536 in
set_option maxHeartbeats 40000000 in
theorem c_elems2 (l : Launch) (Z : State) (a0 : Array Value) (hw : ∀ d ∈ tables_1, d.before a0 Z = true) (hE : EW Z a0 consts_1) (cc : Int32) (fm : Value) (a b : Nat) (cs : List Int32) (oD : Nat) (f0 f1 : List Int32) (h0 : Heap) (O : Ext Z.heap h0) (G : SEnv Z cc fm) (SD : Sta Z Z.heap "java/util/ArrayList" "DEFAULTCAPACITY_EMPTY_ELEMENTDATA" "[Ljava/lang/Object;" (.ref oD)) (VD0 : Ary Z Z.heap oD (.object "java/lang/Object") []) (S0 : SL Z h0 a b cs) (hcl : cs.length ≤ 14) (HS : spl false false [] cs = [f0, f1]) :
    Con l Z consts_1 n_40 prog_3_method_2_code 7 (Option.some (Jvm.ClassFile.FieldType.object "java/util/List")) ({ frames := 6, cells := 6, slots := 49, locals := 116 } : Room) #[(.ref a)] h0 [] (fun v h => ∃ (al d t0 u0 t1 u1 : Nat), v = some (.ref al) ∧ Exa Z h al "java/util/ArrayList" ∧ Fld Z h al "java/util/ArrayList" "elementData" "[Ljava/lang/Object;" (.ref d) ∧ Fld Z h al "java/util/ArrayList" "size" "I" (.int 2) ∧ AryR Z h d "java/lang/Object" [(.ref t0), (.ref t1), .null, .null, .null, .null, .null, .null, .null, .null] ∧ SL Z h t0 u0 f0 ∧ SL Z h t1 u1 f1) := by
 refine Con.of (a0 := a0) #[.val (.ref a), .unset, .unset, .unset, .unset, .unset, .unset] (plainFor_of_name pn_10) hE O all0 (fun m => by first | (simp [entryFrame, mkF, argsToLocals, Value.category]; done) | rfl) ?_
 intro p e s m below meth c T0 hx hby hml hnm hret hlk hh W0
 have VDh := VD0.ext O
 have ES0 := S0.1
 have lt_a : a < h0.size := S0.lt
 have lt_b : b < h0.size := S0.ltb
 have hlen : cs.length < 2 ^ 31 := by omega
 refine w_new (pc' := 3) W0 hx (M_ hw w_37) (M_ hw w_38) (M_ hw w_39) (hb hby dc655) (B_ rfl) (B_ rfl) rfl fun T339 h339 b339 g339 W339 K339 A339 D339 => ?_
 have z_K339 : h0.size ≤ h339.size := K339.1
 have ne_a_b339 : a ≠ b339 := by omega
 have ne_b_b339 : b ≠ b339 := by omega
 have lt_b339 : b339 < h339.size := W339.lt (List.mem_cons_self ..)
 have F339_modCount : Fld Z h339 b339 "java/util/AbstractList" "modCount" "I" (.int 0) := D339 (Or.inl (M_ hw w_57)) (ty := .int) (by decide)
 have F339_elementData : Fld Z h339 b339 "java/util/ArrayList" "elementData" "[Ljava/lang/Object;" .null := D339 (Or.inl (M_ hw w_60)) (ty := (.array (.object "java/lang/Object"))) (by decide)
 have F339_size : Fld Z h339 b339 "java/util/ArrayList" "size" "I" (.int 0) := D339 (Or.inl (M_ hw w_103)) (ty := .int) (by decide)
 refine g_dup (pc' := 4) W339.here hx (hb hby dc656) rfl rfl ?_
 refine w_special (pc' := 7) (st := [(.ref b339)]) (y := n_30) (a := b339) W339 hx [] rfl (M_ hw w_40) (M_ hw w_41) (M_ hw w_39) (M_ hw w_42) (by decide) (c_alinit l Z a0 hw hE b339 oD h339 W339.old SD VD0 (by have := O.1; omega) A339 F339_modCount F339_elementData F339_size) (allS (List.mem_of_getElem? (i := 0) rfl) all0) (by rw [hml]; rfl) (lenOf pd_19 rfl) rfl (hb hby dc657) (B_ rfl) (B_ rfl) (B_ rfl) (B_ rfl) rfl fun v340 T340 h340 W340 K340 Q340 => ?_
 have z_K340 : h339.size ≤ h340.size := K340.1
 obtain ⟨rfl, E341, FM341, FD341, FS341⟩ := Q340
 refine g_astoreN (pc' := 8) (Ls' := #[.val (.ref a), .val (.ref b339), .unset, .unset, .unset, .unset, .unset]) W340.here hx (hb hby dc658) rfl rfl rfl ?_
 refine g_iconst (0 : Int32) (pc' := 9) W340.here hx (hb hby dc659) rfl rfl ?_
 refine g_istoreN (pc' := 10) (Ls' := #[.val (.ref a), .val (.ref b339), .val (.int 0), .unset, .unset, .unset, .unset]) W340.here hx (hb hby dc660) rfl rfl ?_
 refine g_iconst (0 : Int32) (pc' := 11) W340.here hx (hb hby dc661) rfl rfl ?_
 refine g_istoreN (pc' := 12) (Ls' := #[.val (.ref a), .val (.ref b339), .val (.int 0), .val (.int 0), .unset, .unset, .unset]) W340.here hx (hb hby dc662) rfl rfl ?_
 refine g_iconst (0 : Int32) (pc' := 13) W340.here hx (hb hby dc663) rfl rfl ?_
 refine g_istore (pc' := 15) (Ls' := #[.val (.ref a), .val (.ref b339), .val (.int 0), .val (.int 0), .val (.int 0), .unset, .unset]) W340.here hx (hb hby dc664) rfl rfl ?_
 refine g_iconst (0 : Int32) (pc' := 16) W340.here hx (hb hby dc665) rfl rfl ?_
 refine g_istore (pc' := 18) (Ls' := #[.val (.ref a), .val (.ref b339), .val (.int 0), .val (.int 0), .val (.int 0), .val (.int 0), .unset]) W340.here hx (hb hby dc666) rfl rfl ?_
 have LV1 : ∀ (k i : Nat), i + k = cs.length → ∀ (TL : State) (hL : Heap) (bq be : Bool) (sj : Nat) (o6 : Slot) (d t0 u0 : Nat), One o6 → Wk p l e ({ frames := 6, cells := 6, slots := 49, locals := 116 } : Room) s m #[(.ref a)] below meth c Z consts_1 "com/example/despatch/despatch/http/HeaderList" [] [d, b339] TL hL 4 31 → Exa Z hL b339 "java/util/ArrayList" → Fld Z hL b339 "java/util/AbstractList" "modCount" "I" (.int 1) → Fld Z hL b339 "java/util/ArrayList" "elementData" "[Ljava/lang/Object;" (.ref d) → Fld Z hL b339 "java/util/ArrayList" "size" "I" (.int 1) → SL Z hL a b cs → AryR Z hL d "java/lang/Object" [(.ref t0), .null, .null, .null, .null, .null, .null, .null, .null, .null] → SL Z hL t0 u0 f0 → sj ≤ i → spl bq be ((cs.drop sj).take (i - sj)) (cs.drop i) = [f1] → Gets p.tables e below (Post s Z consts_1 ({ frames := 6, cells := 6, slots := 49, locals := 116 } : Room) h0 [] (fun v h => ∃ (al d t0 u0 t1 u1 : Nat), v = some (.ref al) ∧ Exa Z h al "java/util/ArrayList" ∧ Fld Z h al "java/util/ArrayList" "elementData" "[Ljava/lang/Object;" (.ref d) ∧ Fld Z h al "java/util/ArrayList" "size" "I" (.int 2) ∧ AryR Z h d "java/lang/Object" [(.ref t0), (.ref t1), .null, .null, .null, .null, .null, .null, .null, .null] ∧ SL Z h t0 u0 f0 ∧ SL Z h t1 u1 f1)) TL (mkF m 18 #[.val (.ref a), .val (.ref b339), .val (.int (bi bq)), .val (.int (bi be)), .val (.int sj.toInt32), .val (.int i.toInt32), o6] []) := by
  intro k
  induction k with
  | zero =>
   intro i hi TL hL bq be sj o6 d t0 u0 ho6 WL E_ FM_ FD_ FS_ S0_ VD_ SS0 hst HI
   have lt_b339 : b339 < hL.size := E_.lt
   have hzal : Z.heap.size ≤ b339 := WL.zle (List.mem_of_getElem? (i := 1) rfl)
   have ES0_ := S0_.1
   have lt_a : a < hL.size := S0_.lt
   have lt_b : b < hL.size := S0_.ltb
   have ESS0 := SS0.1
   have lt_t0 : t0 < hL.size := SS0.lt
   have lt_u0 : u0 < hL.size := SS0.ltb
   have lt_d : d < hL.size := VD_.lt
   have hzd : Z.heap.size ≤ d := WL.zle (List.mem_of_getElem? (i := 0) rfl)
   have nq_al_d : b339 ≠ d := own_neobj E_ (M_ hw w_38) VD_.ary
   have nq342 : b339 ≠ a := Jvm.RoadKit.ne_exa E_ S0_.1 (by decide)
   have nq343 : b339 ≠ b := own_neobj E_ (M_ hw w_38) S0_.2.2.2.1
   have nq344 : a ≠ d := own_neobj S0_.1 (M_ hw w_13) VD_.ary
   have nq345 : b ≠ d := own_neary S0_.2.2.2.1 VD_.ary (by decide)
   have nq346 : b339 ≠ t0 := Jvm.RoadKit.ne_exa E_ SS0.1 (by decide)
   have nq347 : b339 ≠ u0 := own_neobj E_ (M_ hw w_38) SS0.2.2.2.1
   have nq348 : t0 ≠ d := own_neobj SS0.1 (M_ hw w_13) VD_.ary
   have nq349 : u0 ≠ d := own_neary SS0.2.2.2.1 VD_.ary (by decide)
   have ei : i = cs.length := by omega
   rw [show cs.drop i = [] from List.drop_of_length_le (by omega), ei] at HI
   have HE : (cs.drop sj).take (cs.length - sj) = f1 := by simpa [spl] using HI
   refine g_iload (pc' := 20) WL.here hx (hb hby dc667) rfl rfl ?_
   refine g_aloadN (pc' := 21) WL.here hx (hb hby dc668) rfl rfl rfl ?_
   refine w_virtualp (pc' := 24) (st := [(.int i.toInt32)]) (y := n_6) (z := n_6) (a := a) WL hx [] (M_ hw w_61) (M_ hw w_62) (nfS (z := n_6) (M_ hw w_64)) (M_ hw w_64) (M_ hw w_63) (M_ hw w_14) (M_ hw w_65) (by decide) (c_length l Z a0 hw hE cc fm a b cs  hL WL.old G S0_ ) ES0_ (by rw [hml]; rfl) (lenOf pd_15 rfl) rfl (hb hby dc669) (B_ rfl) (B_ rfl) rfl rfl (B_ rfl) (B_ rfl) rfl fun T350 W350 => ?_
   refine g_icmpY (pc' := 118) W350.here hx (hb hby dc670) rfl (flt (show ¬ (i.toInt32 < cs.length.toInt32) from (own_nltn (by omega) (by omega)))).2.1 ?_
   refine g_aloadN (pc' := 119) W350.here hx (hb hby dc671) rfl rfl rfl ?_
   refine g_aloadN (pc' := 120) W350.here hx (hb hby dc672) rfl rfl rfl ?_
   refine g_iload (pc' := 122) W350.here hx (hb hby dc673) rfl rfl ?_
   refine w_virtual (pc' := 125) (st := [(.ref b339)]) (y := n_27) (z := n_27) (a := a) W350 hx [(.int sj.toInt32)] (M_ hw w_72) (M_ hw w_73) (nfS (z := n_27) (M_ hw w_75)) (M_ hw w_75) (M_ hw w_74) (M_ hw w_14) (M_ hw w_76) (by decide) (c_sub1 l Z a0 hw hE cc fm a b cs sj hL W350.old G S0_ (by omega) hcl) ES0_ all0 (by rw [hml]; rfl) (lenOf pd_24 rfl) rfl (hb hby dc674) (B_ rfl) (B_ rfl) (B_ rfl) (B_ rfl) rfl fun v351 T351 h351 W351 K351 Q351 => ?_
   have z_K351 : hL.size ≤ h351.size := K351.1
   obtain ⟨t_352, u_352, rfl, SX352⟩ := Q351
   have SY352 : SL Z h351 t_352 u_352 f1 := by rw [← HE]; exact SX352
   have ESY352 := SY352.1
   have lt_t_352 : t_352 < h351.size := SY352.lt
   have lt_u_352 : u_352 < h351.size := SY352.ltb
   have c353 := (VD_.keep K351 nin0)
   have c354 := (E_.keep K351)
   have nq355 : b339 ≠ t_352 := Jvm.RoadKit.ne_exa c354 SY352.1 (by decide)
   have nq356 : b339 ≠ u_352 := own_neobj c354 (M_ hw w_38) SY352.2.2.2.1
   have nq357 : t_352 ≠ d := own_neobj SY352.1 (M_ hw w_13) c353.ary
   have nq358 : u_352 ≠ d := own_neary SY352.2.2.2.1 c353.ary (by decide)
   have c359 := (FM_.keep K351 nin0)
   have c360 := (FD_.keep K351 nin0)
   have c361 := (FS_.keep K351 nin0)
   refine w_iface (pc' := 130) (st := []) (y := n_41) (z := n_35) (a := b339) W351 hx [(.ref t_352)] (M_ hw w_91) (M_ hw w_92) (M_ hw w_93) (M_ hw w_94) (M_ hw w_95) (M_ hw w_96) (M_ hw w_97) (M_ hw w_98) (M_ hw w_39) (M_ hw w_99) (by decide) (c_add_1 l Z a0 hw hE b339 d t_352 t0 h351 W351.old hzal c354 c359 c360 c361 hzd c353 nq_al_d ESY352) c354 (allS (List.mem_of_getElem? (i := 1) rfl) (allS (List.mem_of_getElem? (i := 0) rfl) all0)) (by rw [hml]; rfl) (lenOf pd_25 rfl) rfl (hb hby dc675) (B_ rfl) (B_ rfl) (B_ rfl) (B_ rfl) rfl fun v362 T362 h362 W362 K362 Q362 => ?_
   have z_K362 : h351.size ≤ h362.size := K362.1
   obtain ⟨rfl, E363, FM363, FD363, FS363, VD363⟩ := Q362
   refine g_pop (pc' := 131) W362.here hx (hb hby dc676) rfl rfl ?_
   refine g_aloadN (pc' := 132) W362.here hx (hb hby dc677) rfl rfl rfl ?_
   have c364 := ((SS0.keep K351 nin0 nin0).keep K362 (ninS (Ne.symm nq346) (ninS nq348 nin0)) (ninS (Ne.symm nq347) (ninS nq349 nin0)))
   have c365 := (SY352.keep K362 (ninS (Ne.symm nq355) (ninS nq357 nin0)) (ninS (Ne.symm nq356) (ninS nq358 nin0)))
   refine w_retA W362 hx hh hlk hret rfl rfl (hb hby dc678) (B_ rfl) (B_ rfl) ?_
   exact ⟨_, d, t0, u0, t_352, u_352, rfl, E363, FD363, FS363, VD363, c364, c365⟩
  | succ k ih =>
   intro i hi TL hL bq be sj o6 d t0 u0 ho6 WL E_ FM_ FD_ FS_ S0_ VD_ SS0 hst HI
   have lt_b339 : b339 < hL.size := E_.lt
   have hzal : Z.heap.size ≤ b339 := WL.zle (List.mem_of_getElem? (i := 1) rfl)
   have ES0_ := S0_.1
   have lt_a : a < hL.size := S0_.lt
   have lt_b : b < hL.size := S0_.ltb
   have ESS0 := SS0.1
   have lt_t0 : t0 < hL.size := SS0.lt
   have lt_u0 : u0 < hL.size := SS0.ltb
   have lt_d : d < hL.size := VD_.lt
   have hzd : Z.heap.size ≤ d := WL.zle (List.mem_of_getElem? (i := 0) rfl)
   have nq_al_d : b339 ≠ d := own_neobj E_ (M_ hw w_38) VD_.ary
   have nq366 : b339 ≠ a := Jvm.RoadKit.ne_exa E_ S0_.1 (by decide)
   have nq367 : b339 ≠ b := own_neobj E_ (M_ hw w_38) S0_.2.2.2.1
   have nq368 : a ≠ d := own_neobj S0_.1 (M_ hw w_13) VD_.ary
   have nq369 : b ≠ d := own_neary S0_.2.2.2.1 VD_.ary (by decide)
   have nq370 : b339 ≠ t0 := Jvm.RoadKit.ne_exa E_ SS0.1 (by decide)
   have nq371 : b339 ≠ u0 := own_neobj E_ (M_ hw w_38) SS0.2.2.2.1
   have nq372 : t0 ≠ d := own_neobj SS0.1 (M_ hw w_13) VD_.ary
   have nq373 : u0 ≠ d := own_neary SS0.2.2.2.1 VD_.ary (by decide)
   have hi2 : i < cs.length := by omega
   obtain ⟨ci, hci⟩ : ∃ z, cs[i]? = some z := ⟨_, List.getElem?_eq_getElem hi2⟩
   cases bq
   ·
    cases be
    ·
     show Gets p.tables e below (Post s Z consts_1 ({ frames := 6, cells := 6, slots := 49, locals := 116 } : Room) h0 [] (fun v h => ∃ (al d t0 u0 t1 u1 : Nat), v = some (.ref al) ∧ Exa Z h al "java/util/ArrayList" ∧ Fld Z h al "java/util/ArrayList" "elementData" "[Ljava/lang/Object;" (.ref d) ∧ Fld Z h al "java/util/ArrayList" "size" "I" (.int 2) ∧ AryR Z h d "java/lang/Object" [(.ref t0), (.ref t1), .null, .null, .null, .null, .null, .null, .null, .null] ∧ SL Z h t0 u0 f0 ∧ SL Z h t1 u1 f1)) TL (mkF m 18 #[.val (.ref a), .val (.ref b339), .val (.int 0), .val (.int 0), .val (.int sj.toInt32), .val (.int i.toInt32), o6] [])
     refine g_iload (pc' := 20) WL.here hx (hb hby dc667) rfl rfl ?_
     refine g_aloadN (pc' := 21) WL.here hx (hb hby dc668) rfl rfl rfl ?_
     refine w_virtualp (pc' := 24) (st := [(.int i.toInt32)]) (y := n_6) (z := n_6) (a := a) WL hx [] (M_ hw w_61) (M_ hw w_62) (nfS (z := n_6) (M_ hw w_64)) (M_ hw w_64) (M_ hw w_63) (M_ hw w_14) (M_ hw w_65) (by decide) (c_length l Z a0 hw hE cc fm a b cs  hL WL.old G S0_ ) ES0_ (by rw [hml]; rfl) (lenOf pd_15 rfl) rfl (hb hby dc669) (B_ rfl) (B_ rfl) rfl rfl (B_ rfl) (B_ rfl) rfl fun T374 W374 => ?_
     refine g_icmpN (pc' := 27) W374.here hx (hb hby dc670) rfl (tlt (show i.toInt32 < cs.length.toInt32 from (own_ltn hi2 hlen))).2.1 ?_
     refine g_aloadN (pc' := 28) W374.here hx (hb hby dc679) rfl rfl rfl ?_
     refine g_iload (pc' := 30) W374.here hx (hb hby dc680) rfl rfl ?_
     refine w_virtualp (pc' := 33) (st := []) (y := n_11) (z := n_11) (a := a) W374 hx [(.int i.toInt32)] (M_ hw w_177) (M_ hw w_178) (nfS (z := n_11) (M_ hw w_180)) (M_ hw w_180) (M_ hw w_179) (M_ hw w_14) (M_ hw w_181) (by decide) (c_charAt l Z a0 hw hE cc fm a b cs i.toInt32 ci hL W374.old G S0_ (own_nneg (by omega)) (own_ltn hi2 hlen) (by rw [i32_nat (by omega)]; exact hci)) ES0_ (by rw [hml]; rfl) (lenOf pd_10 rfl) rfl (hb hby dc681) (B_ rfl) (B_ rfl) rfl rfl (B_ rfl) (B_ rfl) rfl fun T375 W375 => ?_
     refine g_istore (pc' := 35) (Ls' := #[.val (.ref a), .val (.ref b339), .val (.int 0), .val (.int 0), .val (.int sj.toInt32), .val (.int i.toInt32), .val (.int ci)]) W375.here hx (hb hby dc682) (XS.store1 (o := o6) rfl ho6 rfl) rfl ?_
     refine g_iloadN (pc' := 36) W375.here hx (hb hby dc683) rfl rfl ?_
     refine g_ifY (pc' := 44) W375.here hx (hb hby dc684) rfl (teq (show (0 : Int32) = (0 : Int32) from (by decide))).1 ?_
     refine g_iloadN (pc' := 45) W375.here hx (hb hby dc685) rfl rfl ?_
     refine g_ifY (pc' := 60) W375.here hx (hb hby dc686) rfl (teq (show (0 : Int32) = (0 : Int32) from (by decide))).1 ?_
     refine g_iload (pc' := 62) W375.here hx (hb hby dc687) rfl rfl ?_
     refine g_bipush (34 : Int32) (pc' := 64) W375.here hx (hb hby dc688) rfl rfl ?_
     by_cases hc64_376 : ci = (34 : Int32)
     ·
      refine g_icmpN (pc' := 67) W375.here hx (hb hby dc689) rfl (teq hc64_376).2 ?_
      refine g_iloadN (pc' := 68) W375.here hx (hb hby dc690) rfl rfl ?_
      refine g_ifN (pc' := 71) W375.here hx (hb hby dc691) rfl (teq (show (0 : Int32) = (0 : Int32) from (by decide))).2 ?_
      refine g_iconst (1 : Int32) (pc' := 72) W375.here hx (hb hby dc692) rfl rfl ?_
      refine g_goto (pc' := 76) W375.here hx (hb hby dc693) rfl ?_
      refine g_istoreN (pc' := 77) (Ls' := #[.val (.ref a), .val (.ref b339), .val (.int 1), .val (.int 0), .val (.int sj.toInt32), .val (.int i.toInt32), .val (.int ci)]) W375.here hx (hb hby dc694) rfl rfl ?_
      refine g_goto (pc' := 112) W375.here hx (hb hby dc695) rfl ?_
      refine g_iincV (i + 1).toInt32 (pc' := 115) (Ls' := #[.val (.ref a), .val (.ref b339), .val (.int 1), .val (.int 0), .val (.int sj.toInt32), .val (.int (i + 1).toInt32), .val (.int ci)]) W375.here hx (hb hby dc696) (own_succ i) rfl rfl rfl ?_
      refine g_goto (pc' := 18) W375.here hx (hb hby dc697) rfl ?_
      exact ih (i + 1) (by omega) _ _ true false sj _ d t0 u0 (One.val rfl) W375 E_ FM_ FD_ FS_ S0_ VD_ SS0 (by omega) (by rw [own_dropc hci, own_s3a hc64_376, own_snocd hst hci] at HI; exact HI)
     ·
      refine g_icmpY (pc' := 80) W375.here hx (hb hby dc689) rfl (feq hc64_376).2 ?_
      refine g_iload (pc' := 82) W375.here hx (hb hby dc698) rfl rfl ?_
      refine g_bipush (44 : Int32) (pc' := 84) W375.here hx (hb hby dc699) rfl rfl ?_
      by_cases hc84_377 : ci = (44 : Int32)
      ·
       refine g_icmpN (pc' := 87) W375.here hx (hb hby dc700) rfl (teq hc84_377).2 ?_
       refine g_iloadN (pc' := 88) W375.here hx (hb hby dc701) rfl rfl ?_
       refine g_ifN (pc' := 91) W375.here hx (hb hby dc702) rfl (teq (show (0 : Int32) = (0 : Int32) from (by decide))).2 ?_
       rw [own_dropc hci, own_s5 hc84_377] at HI
       exact absurd (List.cons.inj HI).2 (own_splne _ _ _ _)
      ·
       refine g_icmpY (pc' := 112) W375.here hx (hb hby dc700) rfl (feq hc84_377).2 ?_
       refine g_iincV (i + 1).toInt32 (pc' := 115) (Ls' := #[.val (.ref a), .val (.ref b339), .val (.int 0), .val (.int 0), .val (.int sj.toInt32), .val (.int (i + 1).toInt32), .val (.int ci)]) W375.here hx (hb hby dc696) (own_succ i) rfl rfl rfl ?_
       refine g_goto (pc' := 18) W375.here hx (hb hby dc697) rfl ?_
       exact ih (i + 1) (by omega) _ _ false false sj _ d t0 u0 (One.val rfl) W375 E_ FM_ FD_ FS_ S0_ VD_ SS0 (by omega) (by rw [own_dropc hci, own_s4a hc64_376 hc84_377, own_snocd hst hci] at HI; exact HI)
    ·
     show Gets p.tables e below (Post s Z consts_1 ({ frames := 6, cells := 6, slots := 49, locals := 116 } : Room) h0 [] (fun v h => ∃ (al d t0 u0 t1 u1 : Nat), v = some (.ref al) ∧ Exa Z h al "java/util/ArrayList" ∧ Fld Z h al "java/util/ArrayList" "elementData" "[Ljava/lang/Object;" (.ref d) ∧ Fld Z h al "java/util/ArrayList" "size" "I" (.int 2) ∧ AryR Z h d "java/lang/Object" [(.ref t0), (.ref t1), .null, .null, .null, .null, .null, .null, .null, .null] ∧ SL Z h t0 u0 f0 ∧ SL Z h t1 u1 f1)) TL (mkF m 18 #[.val (.ref a), .val (.ref b339), .val (.int 0), .val (.int 1), .val (.int sj.toInt32), .val (.int i.toInt32), o6] [])
     refine g_iload (pc' := 20) WL.here hx (hb hby dc667) rfl rfl ?_
     refine g_aloadN (pc' := 21) WL.here hx (hb hby dc668) rfl rfl rfl ?_
     refine w_virtualp (pc' := 24) (st := [(.int i.toInt32)]) (y := n_6) (z := n_6) (a := a) WL hx [] (M_ hw w_61) (M_ hw w_62) (nfS (z := n_6) (M_ hw w_64)) (M_ hw w_64) (M_ hw w_63) (M_ hw w_14) (M_ hw w_65) (by decide) (c_length l Z a0 hw hE cc fm a b cs  hL WL.old G S0_ ) ES0_ (by rw [hml]; rfl) (lenOf pd_15 rfl) rfl (hb hby dc669) (B_ rfl) (B_ rfl) rfl rfl (B_ rfl) (B_ rfl) rfl fun T378 W378 => ?_
     refine g_icmpN (pc' := 27) W378.here hx (hb hby dc670) rfl (tlt (show i.toInt32 < cs.length.toInt32 from (own_ltn hi2 hlen))).2.1 ?_
     refine g_aloadN (pc' := 28) W378.here hx (hb hby dc679) rfl rfl rfl ?_
     refine g_iload (pc' := 30) W378.here hx (hb hby dc680) rfl rfl ?_
     refine w_virtualp (pc' := 33) (st := []) (y := n_11) (z := n_11) (a := a) W378 hx [(.int i.toInt32)] (M_ hw w_177) (M_ hw w_178) (nfS (z := n_11) (M_ hw w_180)) (M_ hw w_180) (M_ hw w_179) (M_ hw w_14) (M_ hw w_181) (by decide) (c_charAt l Z a0 hw hE cc fm a b cs i.toInt32 ci hL W378.old G S0_ (own_nneg (by omega)) (own_ltn hi2 hlen) (by rw [i32_nat (by omega)]; exact hci)) ES0_ (by rw [hml]; rfl) (lenOf pd_10 rfl) rfl (hb hby dc681) (B_ rfl) (B_ rfl) rfl rfl (B_ rfl) (B_ rfl) rfl fun T379 W379 => ?_
     refine g_istore (pc' := 35) (Ls' := #[.val (.ref a), .val (.ref b339), .val (.int 0), .val (.int 1), .val (.int sj.toInt32), .val (.int i.toInt32), .val (.int ci)]) W379.here hx (hb hby dc682) (XS.store1 (o := o6) rfl ho6 rfl) rfl ?_
     refine g_iloadN (pc' := 36) W379.here hx (hb hby dc683) rfl rfl ?_
     refine g_ifN (pc' := 39) W379.here hx (hb hby dc684) rfl (feq (show ¬ ((1 : Int32) = (0 : Int32)) from (by decide))).1 ?_
     refine g_iconst (0 : Int32) (pc' := 40) W379.here hx (hb hby dc703) rfl rfl ?_
     refine g_istoreN (pc' := 41) (Ls' := #[.val (.ref a), .val (.ref b339), .val (.int 0), .val (.int 0), .val (.int sj.toInt32), .val (.int i.toInt32), .val (.int ci)]) W379.here hx (hb hby dc704) rfl rfl ?_
     refine g_goto (pc' := 112) W379.here hx (hb hby dc705) rfl ?_
     refine g_iincV (i + 1).toInt32 (pc' := 115) (Ls' := #[.val (.ref a), .val (.ref b339), .val (.int 0), .val (.int 0), .val (.int sj.toInt32), .val (.int (i + 1).toInt32), .val (.int ci)]) W379.here hx (hb hby dc696) (own_succ i) rfl rfl rfl ?_
     refine g_goto (pc' := 18) W379.here hx (hb hby dc697) rfl ?_
     exact ih (i + 1) (by omega) _ _ false false sj _ d t0 u0 (One.val rfl) W379 E_ FM_ FD_ FS_ S0_ VD_ SS0 (by omega) (by rw [own_dropc hci, own_s1, own_snocd hst hci] at HI; exact HI)
   ·
    cases be
    ·
     show Gets p.tables e below (Post s Z consts_1 ({ frames := 6, cells := 6, slots := 49, locals := 116 } : Room) h0 [] (fun v h => ∃ (al d t0 u0 t1 u1 : Nat), v = some (.ref al) ∧ Exa Z h al "java/util/ArrayList" ∧ Fld Z h al "java/util/ArrayList" "elementData" "[Ljava/lang/Object;" (.ref d) ∧ Fld Z h al "java/util/ArrayList" "size" "I" (.int 2) ∧ AryR Z h d "java/lang/Object" [(.ref t0), (.ref t1), .null, .null, .null, .null, .null, .null, .null, .null] ∧ SL Z h t0 u0 f0 ∧ SL Z h t1 u1 f1)) TL (mkF m 18 #[.val (.ref a), .val (.ref b339), .val (.int 1), .val (.int 0), .val (.int sj.toInt32), .val (.int i.toInt32), o6] [])
     refine g_iload (pc' := 20) WL.here hx (hb hby dc667) rfl rfl ?_
     refine g_aloadN (pc' := 21) WL.here hx (hb hby dc668) rfl rfl rfl ?_
     refine w_virtualp (pc' := 24) (st := [(.int i.toInt32)]) (y := n_6) (z := n_6) (a := a) WL hx [] (M_ hw w_61) (M_ hw w_62) (nfS (z := n_6) (M_ hw w_64)) (M_ hw w_64) (M_ hw w_63) (M_ hw w_14) (M_ hw w_65) (by decide) (c_length l Z a0 hw hE cc fm a b cs  hL WL.old G S0_ ) ES0_ (by rw [hml]; rfl) (lenOf pd_15 rfl) rfl (hb hby dc669) (B_ rfl) (B_ rfl) rfl rfl (B_ rfl) (B_ rfl) rfl fun T380 W380 => ?_
     refine g_icmpN (pc' := 27) W380.here hx (hb hby dc670) rfl (tlt (show i.toInt32 < cs.length.toInt32 from (own_ltn hi2 hlen))).2.1 ?_
     refine g_aloadN (pc' := 28) W380.here hx (hb hby dc679) rfl rfl rfl ?_
     refine g_iload (pc' := 30) W380.here hx (hb hby dc680) rfl rfl ?_
     refine w_virtualp (pc' := 33) (st := []) (y := n_11) (z := n_11) (a := a) W380 hx [(.int i.toInt32)] (M_ hw w_177) (M_ hw w_178) (nfS (z := n_11) (M_ hw w_180)) (M_ hw w_180) (M_ hw w_179) (M_ hw w_14) (M_ hw w_181) (by decide) (c_charAt l Z a0 hw hE cc fm a b cs i.toInt32 ci hL W380.old G S0_ (own_nneg (by omega)) (own_ltn hi2 hlen) (by rw [i32_nat (by omega)]; exact hci)) ES0_ (by rw [hml]; rfl) (lenOf pd_10 rfl) rfl (hb hby dc681) (B_ rfl) (B_ rfl) rfl rfl (B_ rfl) (B_ rfl) rfl fun T381 W381 => ?_
     refine g_istore (pc' := 35) (Ls' := #[.val (.ref a), .val (.ref b339), .val (.int 1), .val (.int 0), .val (.int sj.toInt32), .val (.int i.toInt32), .val (.int ci)]) W381.here hx (hb hby dc682) (XS.store1 (o := o6) rfl ho6 rfl) rfl ?_
     refine g_iloadN (pc' := 36) W381.here hx (hb hby dc683) rfl rfl ?_
     refine g_ifY (pc' := 44) W381.here hx (hb hby dc684) rfl (teq (show (0 : Int32) = (0 : Int32) from (by decide))).1 ?_
     refine g_iloadN (pc' := 45) W381.here hx (hb hby dc685) rfl rfl ?_
     refine g_ifN (pc' := 48) W381.here hx (hb hby dc686) rfl (feq (show ¬ ((1 : Int32) = (0 : Int32)) from (by decide))).1 ?_
     refine g_iload (pc' := 50) W381.here hx (hb hby dc706) rfl rfl ?_
     refine g_bipush (92 : Int32) (pc' := 52) W381.here hx (hb hby dc707) rfl rfl ?_
     by_cases hc52_382 : ci = (92 : Int32)
     ·
      refine g_icmpN (pc' := 55) W381.here hx (hb hby dc708) rfl (teq hc52_382).2 ?_
      refine g_iconst (1 : Int32) (pc' := 56) W381.here hx (hb hby dc709) rfl rfl ?_
      refine g_istoreN (pc' := 57) (Ls' := #[.val (.ref a), .val (.ref b339), .val (.int 1), .val (.int 1), .val (.int sj.toInt32), .val (.int i.toInt32), .val (.int ci)]) W381.here hx (hb hby dc710) rfl rfl ?_
      refine g_goto (pc' := 112) W381.here hx (hb hby dc711) rfl ?_
      refine g_iincV (i + 1).toInt32 (pc' := 115) (Ls' := #[.val (.ref a), .val (.ref b339), .val (.int 1), .val (.int 1), .val (.int sj.toInt32), .val (.int (i + 1).toInt32), .val (.int ci)]) W381.here hx (hb hby dc696) (own_succ i) rfl rfl rfl ?_
      refine g_goto (pc' := 18) W381.here hx (hb hby dc697) rfl ?_
      exact ih (i + 1) (by omega) _ _ true true sj _ d t0 u0 (One.val rfl) W381 E_ FM_ FD_ FS_ S0_ VD_ SS0 (by omega) (by rw [own_dropc hci, own_s2 hc52_382, own_snocd hst hci] at HI; exact HI)
     ·
      refine g_icmpY (pc' := 60) W381.here hx (hb hby dc708) rfl (feq hc52_382).2 ?_
      refine g_iload (pc' := 62) W381.here hx (hb hby dc687) rfl rfl ?_
      refine g_bipush (34 : Int32) (pc' := 64) W381.here hx (hb hby dc688) rfl rfl ?_
      by_cases hc64_383 : ci = (34 : Int32)
      ·
       refine g_icmpN (pc' := 67) W381.here hx (hb hby dc689) rfl (teq hc64_383).2 ?_
       refine g_iloadN (pc' := 68) W381.here hx (hb hby dc690) rfl rfl ?_
       refine g_ifY (pc' := 75) W381.here hx (hb hby dc691) rfl (feq (show ¬ ((1 : Int32) = (0 : Int32)) from (by decide))).2 ?_
       refine g_iconst (0 : Int32) (pc' := 76) W381.here hx (hb hby dc712) rfl rfl ?_
       refine g_istoreN (pc' := 77) (Ls' := #[.val (.ref a), .val (.ref b339), .val (.int 0), .val (.int 0), .val (.int sj.toInt32), .val (.int i.toInt32), .val (.int ci)]) W381.here hx (hb hby dc694) rfl rfl ?_
       refine g_goto (pc' := 112) W381.here hx (hb hby dc695) rfl ?_
       refine g_iincV (i + 1).toInt32 (pc' := 115) (Ls' := #[.val (.ref a), .val (.ref b339), .val (.int 0), .val (.int 0), .val (.int sj.toInt32), .val (.int (i + 1).toInt32), .val (.int ci)]) W381.here hx (hb hby dc696) (own_succ i) rfl rfl rfl ?_
       refine g_goto (pc' := 18) W381.here hx (hb hby dc697) rfl ?_
       exact ih (i + 1) (by omega) _ _ false false sj _ d t0 u0 (One.val rfl) W381 E_ FM_ FD_ FS_ S0_ VD_ SS0 (by omega) (by rw [own_dropc hci, own_s3b hc64_383, own_snocd hst hci] at HI; exact HI)
      ·
       refine g_icmpY (pc' := 80) W381.here hx (hb hby dc689) rfl (feq hc64_383).2 ?_
       refine g_iload (pc' := 82) W381.here hx (hb hby dc698) rfl rfl ?_
       refine g_bipush (44 : Int32) (pc' := 84) W381.here hx (hb hby dc699) rfl rfl ?_
       by_cases hc84_384 : ci = (44 : Int32)
       ·
        refine g_icmpN (pc' := 87) W381.here hx (hb hby dc700) rfl (teq hc84_384).2 ?_
        refine g_iloadN (pc' := 88) W381.here hx (hb hby dc701) rfl rfl ?_
        refine g_ifY (pc' := 112) W381.here hx (hb hby dc702) rfl (feq (show ¬ ((1 : Int32) = (0 : Int32)) from (by decide))).2 ?_
        refine g_iincV (i + 1).toInt32 (pc' := 115) (Ls' := #[.val (.ref a), .val (.ref b339), .val (.int 1), .val (.int 0), .val (.int sj.toInt32), .val (.int (i + 1).toInt32), .val (.int ci)]) W381.here hx (hb hby dc696) (own_succ i) rfl rfl rfl ?_
        refine g_goto (pc' := 18) W381.here hx (hb hby dc697) rfl ?_
        exact ih (i + 1) (by omega) _ _ true false sj _ d t0 u0 (One.val rfl) W381 E_ FM_ FD_ FS_ S0_ VD_ SS0 (by omega) (by rw [own_dropc hci, own_s4b hc52_382 hc64_383, own_snocd hst hci] at HI; exact HI)
       ·
        refine g_icmpY (pc' := 112) W381.here hx (hb hby dc700) rfl (feq hc84_384).2 ?_
        refine g_iincV (i + 1).toInt32 (pc' := 115) (Ls' := #[.val (.ref a), .val (.ref b339), .val (.int 1), .val (.int 0), .val (.int sj.toInt32), .val (.int (i + 1).toInt32), .val (.int ci)]) W381.here hx (hb hby dc696) (own_succ i) rfl rfl rfl ?_
        refine g_goto (pc' := 18) W381.here hx (hb hby dc697) rfl ?_
        exact ih (i + 1) (by omega) _ _ true false sj _ d t0 u0 (One.val rfl) W381 E_ FM_ FD_ FS_ S0_ VD_ SS0 (by omega) (by rw [own_dropc hci, own_s4b hc52_382 hc64_383, own_snocd hst hci] at HI; exact HI)
    ·
     show Gets p.tables e below (Post s Z consts_1 ({ frames := 6, cells := 6, slots := 49, locals := 116 } : Room) h0 [] (fun v h => ∃ (al d t0 u0 t1 u1 : Nat), v = some (.ref al) ∧ Exa Z h al "java/util/ArrayList" ∧ Fld Z h al "java/util/ArrayList" "elementData" "[Ljava/lang/Object;" (.ref d) ∧ Fld Z h al "java/util/ArrayList" "size" "I" (.int 2) ∧ AryR Z h d "java/lang/Object" [(.ref t0), (.ref t1), .null, .null, .null, .null, .null, .null, .null, .null] ∧ SL Z h t0 u0 f0 ∧ SL Z h t1 u1 f1)) TL (mkF m 18 #[.val (.ref a), .val (.ref b339), .val (.int 1), .val (.int 1), .val (.int sj.toInt32), .val (.int i.toInt32), o6] [])
     refine g_iload (pc' := 20) WL.here hx (hb hby dc667) rfl rfl ?_
     refine g_aloadN (pc' := 21) WL.here hx (hb hby dc668) rfl rfl rfl ?_
     refine w_virtualp (pc' := 24) (st := [(.int i.toInt32)]) (y := n_6) (z := n_6) (a := a) WL hx [] (M_ hw w_61) (M_ hw w_62) (nfS (z := n_6) (M_ hw w_64)) (M_ hw w_64) (M_ hw w_63) (M_ hw w_14) (M_ hw w_65) (by decide) (c_length l Z a0 hw hE cc fm a b cs  hL WL.old G S0_ ) ES0_ (by rw [hml]; rfl) (lenOf pd_15 rfl) rfl (hb hby dc669) (B_ rfl) (B_ rfl) rfl rfl (B_ rfl) (B_ rfl) rfl fun T385 W385 => ?_
     refine g_icmpN (pc' := 27) W385.here hx (hb hby dc670) rfl (tlt (show i.toInt32 < cs.length.toInt32 from (own_ltn hi2 hlen))).2.1 ?_
     refine g_aloadN (pc' := 28) W385.here hx (hb hby dc679) rfl rfl rfl ?_
     refine g_iload (pc' := 30) W385.here hx (hb hby dc680) rfl rfl ?_
     refine w_virtualp (pc' := 33) (st := []) (y := n_11) (z := n_11) (a := a) W385 hx [(.int i.toInt32)] (M_ hw w_177) (M_ hw w_178) (nfS (z := n_11) (M_ hw w_180)) (M_ hw w_180) (M_ hw w_179) (M_ hw w_14) (M_ hw w_181) (by decide) (c_charAt l Z a0 hw hE cc fm a b cs i.toInt32 ci hL W385.old G S0_ (own_nneg (by omega)) (own_ltn hi2 hlen) (by rw [i32_nat (by omega)]; exact hci)) ES0_ (by rw [hml]; rfl) (lenOf pd_10 rfl) rfl (hb hby dc681) (B_ rfl) (B_ rfl) rfl rfl (B_ rfl) (B_ rfl) rfl fun T386 W386 => ?_
     refine g_istore (pc' := 35) (Ls' := #[.val (.ref a), .val (.ref b339), .val (.int 1), .val (.int 1), .val (.int sj.toInt32), .val (.int i.toInt32), .val (.int ci)]) W386.here hx (hb hby dc682) (XS.store1 (o := o6) rfl ho6 rfl) rfl ?_
     refine g_iloadN (pc' := 36) W386.here hx (hb hby dc683) rfl rfl ?_
     refine g_ifN (pc' := 39) W386.here hx (hb hby dc684) rfl (feq (show ¬ ((1 : Int32) = (0 : Int32)) from (by decide))).1 ?_
     refine g_iconst (0 : Int32) (pc' := 40) W386.here hx (hb hby dc703) rfl rfl ?_
     refine g_istoreN (pc' := 41) (Ls' := #[.val (.ref a), .val (.ref b339), .val (.int 1), .val (.int 0), .val (.int sj.toInt32), .val (.int i.toInt32), .val (.int ci)]) W386.here hx (hb hby dc704) rfl rfl ?_
     refine g_goto (pc' := 112) W386.here hx (hb hby dc705) rfl ?_
     refine g_iincV (i + 1).toInt32 (pc' := 115) (Ls' := #[.val (.ref a), .val (.ref b339), .val (.int 1), .val (.int 0), .val (.int sj.toInt32), .val (.int (i + 1).toInt32), .val (.int ci)]) W386.here hx (hb hby dc696) (own_succ i) rfl rfl rfl ?_
     refine g_goto (pc' := 18) W386.here hx (hb hby dc697) rfl ?_
     exact ih (i + 1) (by omega) _ _ true false sj _ d t0 u0 (One.val rfl) W386 E_ FM_ FD_ FS_ S0_ VD_ SS0 (by omega) (by rw [own_dropc hci, own_s1, own_snocd hst hci] at HI; exact HI)
 have LV0 : ∀ (k i : Nat), i + k = cs.length → ∀ (TL : State) (hL : Heap) (bq be : Bool) (sj : Nat) (o6 : Slot), One o6 → Wk p l e ({ frames := 6, cells := 6, slots := 49, locals := 116 } : Room) s m #[(.ref a)] below meth c Z consts_1 "com/example/despatch/despatch/http/HeaderList" [] [b339] TL hL 1 3 → Exa Z hL b339 "java/util/ArrayList" → Fld Z hL b339 "java/util/AbstractList" "modCount" "I" (.int 0) → Fld Z hL b339 "java/util/ArrayList" "elementData" "[Ljava/lang/Object;" (.ref oD) → Fld Z hL b339 "java/util/ArrayList" "size" "I" (.int 0) → SL Z hL a b cs → sj ≤ i → spl bq be ((cs.drop sj).take (i - sj)) (cs.drop i) = [f0, f1] → Gets p.tables e below (Post s Z consts_1 ({ frames := 6, cells := 6, slots := 49, locals := 116 } : Room) h0 [] (fun v h => ∃ (al d t0 u0 t1 u1 : Nat), v = some (.ref al) ∧ Exa Z h al "java/util/ArrayList" ∧ Fld Z h al "java/util/ArrayList" "elementData" "[Ljava/lang/Object;" (.ref d) ∧ Fld Z h al "java/util/ArrayList" "size" "I" (.int 2) ∧ AryR Z h d "java/lang/Object" [(.ref t0), (.ref t1), .null, .null, .null, .null, .null, .null, .null, .null] ∧ SL Z h t0 u0 f0 ∧ SL Z h t1 u1 f1)) TL (mkF m 18 #[.val (.ref a), .val (.ref b339), .val (.int (bi bq)), .val (.int (bi be)), .val (.int sj.toInt32), .val (.int i.toInt32), o6] []) := by
  intro k
  induction k with
  | zero =>
   intro i hi TL hL bq be sj o6  ho6 WL E_ FM_ FD_ FS_ S0_   hst HI
   rw [show cs.drop i = [] from List.drop_of_length_le (by omega)] at HI
   simp [spl] at HI
  | succ k ih =>
   intro i hi TL hL bq be sj o6  ho6 WL E_ FM_ FD_ FS_ S0_   hst HI
   have lt_b339 : b339 < hL.size := E_.lt
   have hzal : Z.heap.size ≤ b339 := WL.zle (List.mem_of_getElem? (i := 0) rfl)
   have ES0_ := S0_.1
   have lt_a : a < hL.size := S0_.lt
   have lt_b : b < hL.size := S0_.ltb
   have nq387 : b339 ≠ a := Jvm.RoadKit.ne_exa E_ S0_.1 (by decide)
   have nq388 : b339 ≠ b := own_neobj E_ (M_ hw w_38) S0_.2.2.2.1
   have hi2 : i < cs.length := by omega
   obtain ⟨ci, hci⟩ : ∃ z, cs[i]? = some z := ⟨_, List.getElem?_eq_getElem hi2⟩
   cases bq
   ·
    cases be
    ·
     show Gets p.tables e below (Post s Z consts_1 ({ frames := 6, cells := 6, slots := 49, locals := 116 } : Room) h0 [] (fun v h => ∃ (al d t0 u0 t1 u1 : Nat), v = some (.ref al) ∧ Exa Z h al "java/util/ArrayList" ∧ Fld Z h al "java/util/ArrayList" "elementData" "[Ljava/lang/Object;" (.ref d) ∧ Fld Z h al "java/util/ArrayList" "size" "I" (.int 2) ∧ AryR Z h d "java/lang/Object" [(.ref t0), (.ref t1), .null, .null, .null, .null, .null, .null, .null, .null] ∧ SL Z h t0 u0 f0 ∧ SL Z h t1 u1 f1)) TL (mkF m 18 #[.val (.ref a), .val (.ref b339), .val (.int 0), .val (.int 0), .val (.int sj.toInt32), .val (.int i.toInt32), o6] [])
     refine g_iload (pc' := 20) WL.here hx (hb hby dc667) rfl rfl ?_
     refine g_aloadN (pc' := 21) WL.here hx (hb hby dc668) rfl rfl rfl ?_
     refine w_virtualp (pc' := 24) (st := [(.int i.toInt32)]) (y := n_6) (z := n_6) (a := a) WL hx [] (M_ hw w_61) (M_ hw w_62) (nfS (z := n_6) (M_ hw w_64)) (M_ hw w_64) (M_ hw w_63) (M_ hw w_14) (M_ hw w_65) (by decide) (c_length l Z a0 hw hE cc fm a b cs  hL WL.old G S0_ ) ES0_ (by rw [hml]; rfl) (lenOf pd_15 rfl) rfl (hb hby dc669) (B_ rfl) (B_ rfl) rfl rfl (B_ rfl) (B_ rfl) rfl fun T389 W389 => ?_
     refine g_icmpN (pc' := 27) W389.here hx (hb hby dc670) rfl (tlt (show i.toInt32 < cs.length.toInt32 from (own_ltn hi2 hlen))).2.1 ?_
     refine g_aloadN (pc' := 28) W389.here hx (hb hby dc679) rfl rfl rfl ?_
     refine g_iload (pc' := 30) W389.here hx (hb hby dc680) rfl rfl ?_
     refine w_virtualp (pc' := 33) (st := []) (y := n_11) (z := n_11) (a := a) W389 hx [(.int i.toInt32)] (M_ hw w_177) (M_ hw w_178) (nfS (z := n_11) (M_ hw w_180)) (M_ hw w_180) (M_ hw w_179) (M_ hw w_14) (M_ hw w_181) (by decide) (c_charAt l Z a0 hw hE cc fm a b cs i.toInt32 ci hL W389.old G S0_ (own_nneg (by omega)) (own_ltn hi2 hlen) (by rw [i32_nat (by omega)]; exact hci)) ES0_ (by rw [hml]; rfl) (lenOf pd_10 rfl) rfl (hb hby dc681) (B_ rfl) (B_ rfl) rfl rfl (B_ rfl) (B_ rfl) rfl fun T390 W390 => ?_
     refine g_istore (pc' := 35) (Ls' := #[.val (.ref a), .val (.ref b339), .val (.int 0), .val (.int 0), .val (.int sj.toInt32), .val (.int i.toInt32), .val (.int ci)]) W390.here hx (hb hby dc682) (XS.store1 (o := o6) rfl ho6 rfl) rfl ?_
     refine g_iloadN (pc' := 36) W390.here hx (hb hby dc683) rfl rfl ?_
     refine g_ifY (pc' := 44) W390.here hx (hb hby dc684) rfl (teq (show (0 : Int32) = (0 : Int32) from (by decide))).1 ?_
     refine g_iloadN (pc' := 45) W390.here hx (hb hby dc685) rfl rfl ?_
     refine g_ifY (pc' := 60) W390.here hx (hb hby dc686) rfl (teq (show (0 : Int32) = (0 : Int32) from (by decide))).1 ?_
     refine g_iload (pc' := 62) W390.here hx (hb hby dc687) rfl rfl ?_
     refine g_bipush (34 : Int32) (pc' := 64) W390.here hx (hb hby dc688) rfl rfl ?_
     by_cases hc64_391 : ci = (34 : Int32)
     ·
      refine g_icmpN (pc' := 67) W390.here hx (hb hby dc689) rfl (teq hc64_391).2 ?_
      refine g_iloadN (pc' := 68) W390.here hx (hb hby dc690) rfl rfl ?_
      refine g_ifN (pc' := 71) W390.here hx (hb hby dc691) rfl (teq (show (0 : Int32) = (0 : Int32) from (by decide))).2 ?_
      refine g_iconst (1 : Int32) (pc' := 72) W390.here hx (hb hby dc692) rfl rfl ?_
      refine g_goto (pc' := 76) W390.here hx (hb hby dc693) rfl ?_
      refine g_istoreN (pc' := 77) (Ls' := #[.val (.ref a), .val (.ref b339), .val (.int 1), .val (.int 0), .val (.int sj.toInt32), .val (.int i.toInt32), .val (.int ci)]) W390.here hx (hb hby dc694) rfl rfl ?_
      refine g_goto (pc' := 112) W390.here hx (hb hby dc695) rfl ?_
      refine g_iincV (i + 1).toInt32 (pc' := 115) (Ls' := #[.val (.ref a), .val (.ref b339), .val (.int 1), .val (.int 0), .val (.int sj.toInt32), .val (.int (i + 1).toInt32), .val (.int ci)]) W390.here hx (hb hby dc696) (own_succ i) rfl rfl rfl ?_
      refine g_goto (pc' := 18) W390.here hx (hb hby dc697) rfl ?_
      exact ih (i + 1) (by omega) _ _ true false sj _  (One.val rfl) W390 E_ FM_ FD_ FS_ S0_   (by omega) (by rw [own_dropc hci, own_s3a hc64_391, own_snocd hst hci] at HI; exact HI)
     ·
      refine g_icmpY (pc' := 80) W390.here hx (hb hby dc689) rfl (feq hc64_391).2 ?_
      refine g_iload (pc' := 82) W390.here hx (hb hby dc698) rfl rfl ?_
      refine g_bipush (44 : Int32) (pc' := 84) W390.here hx (hb hby dc699) rfl rfl ?_
      by_cases hc84_392 : ci = (44 : Int32)
      ·
       refine g_icmpN (pc' := 87) W390.here hx (hb hby dc700) rfl (teq hc84_392).2 ?_
       refine g_iloadN (pc' := 88) W390.here hx (hb hby dc701) rfl rfl ?_
       refine g_ifN (pc' := 91) W390.here hx (hb hby dc702) rfl (teq (show (0 : Int32) = (0 : Int32) from (by decide))).2 ?_
       have HI5 := HI
       rw [own_dropc hci, own_s5 hc84_392] at HI5
       obtain ⟨HE, HT⟩ := List.cons.inj HI5
       refine g_aloadN (pc' := 92) W390.here hx (hb hby dc713) rfl rfl rfl ?_
       refine g_aloadN (pc' := 93) W390.here hx (hb hby dc714) rfl rfl rfl ?_
       refine g_iload (pc' := 95) W390.here hx (hb hby dc715) rfl rfl ?_
       refine g_iload (pc' := 97) W390.here hx (hb hby dc716) rfl rfl ?_
       refine w_virtual (pc' := 100) (st := [(.ref b339)]) (y := n_26) (z := n_26) (a := a) W390 hx [(.int sj.toInt32), (.int i.toInt32)] (M_ hw w_197) (M_ hw w_79) (nfS (z := n_26) (M_ hw w_81)) (M_ hw w_81) (M_ hw w_80) (M_ hw w_14) (M_ hw w_82) (by decide) (c_sub2 l Z a0 hw hE cc fm a b cs sj i hL W390.old G S0_ (by omega) (by omega) hcl) ES0_ all0 (by rw [hml]; rfl) (lenOf pd_18 rfl) rfl (hb hby dc717) (B_ rfl) (B_ rfl) (B_ rfl) (B_ rfl) rfl fun v393 T393 h393 W393 K393 Q393 => ?_
       have z_K393 : hL.size ≤ h393.size := K393.1
       obtain ⟨t_394, u_394, rfl, SX394⟩ := Q393
       have SY394 : SL Z h393 t_394 u_394 f0 := by rw [← HE]; exact SX394
       have ESY394 := SY394.1
       have lt_t_394 : t_394 < h393.size := SY394.lt
       have lt_u_394 : u_394 < h393.size := SY394.ltb
       have c395 := (E_.keep K393)
       have nq396 : b339 ≠ t_394 := Jvm.RoadKit.ne_exa c395 SY394.1 (by decide)
       have nq397 : b339 ≠ u_394 := own_neobj c395 (M_ hw w_38) SY394.2.2.2.1
       have c398 := (FM_.keep K393 nin0)
       have c399 := (FD_.keep K393 nin0)
       have c400 := (FS_.keep K393 nin0)
       refine w_ifaceF (pc' := 105) (st := []) (y := n_41) (z := n_35) (a := b339) W393 hx [(.ref t_394)] (M_ hw w_91) (M_ hw w_92) (M_ hw w_93) (M_ hw w_94) (M_ hw w_95) (M_ hw w_96) (M_ hw w_97) (M_ hw w_98) (M_ hw w_39) (M_ hw w_99) (by decide) (c_add_0 l Z a0 hw hE b339 oD t_394 h393 W393.old SD VD0 hzal c395 c398 c399 c400 ESY394) c395 (allS (List.mem_of_getElem? (i := 0) rfl) all0) (by rw [hml]; rfl) (lenOf pd_25 rfl) rfl (hb hby dc718) (B_ rfl) (B_ rfl) (B_ rfl) (B_ rfl) rfl fun N401 v401 T401 h401 W401 K401 G401 Q401 => ?_
       have z_K401 : h393.size ≤ h401.size := K401.1
       obtain ⟨d402, rfl, rfl, E403, FM403, FD403, FS403, VD403⟩ := Q401
       have gz404 := (G401 d402 (List.mem_cons_self ..)).1
       have lt_d402 := (G401 d402 (List.mem_cons_self ..)).2
       have ne_b339_d402 : b339 ≠ d402 := by omega
       have ne_a_d402 : a ≠ d402 := by omega
       have ne_b_d402 : b ≠ d402 := by omega
       have ne_t_394_d402 : t_394 ≠ d402 := by omega
       have ne_u_394_d402 : u_394 ≠ d402 := by omega
       refine g_pop (pc' := 106) W401.here hx (hb hby dc719) rfl rfl ?_
       refine g_iload (pc' := 108) W401.here hx (hb hby dc720) rfl rfl ?_
       refine g_iconst (1 : Int32) (pc' := 109) W401.here hx (hb hby dc721) rfl rfl ?_
       refine g_iadd (pc' := 110) W401.here hx (hb hby dc722) rfl ?_
       refine g_name (w := .int (i + 1).toInt32) (congrArg Value.int (own_succ i).symm) ?_
       refine g_istore (pc' := 112) (Ls' := #[.val (.ref a), .val (.ref b339), .val (.int 0), .val (.int 0), .val (.int (i + 1).toInt32), .val (.int i.toInt32), .val (.int ci)]) W401.here hx (hb hby dc723) rfl rfl ?_
       refine g_iincV (i + 1).toInt32 (pc' := 115) (Ls' := #[.val (.ref a), .val (.ref b339), .val (.int 0), .val (.int 0), .val (.int (i + 1).toInt32), .val (.int (i + 1).toInt32), .val (.int ci)]) W401.here hx (hb hby dc696) (own_succ i) rfl rfl rfl ?_
       refine g_goto (pc' := 18) W401.here hx (hb hby dc697) rfl ?_
       have c405 := ((S0_.keep K393 nin0 nin0).keep K401 (ninS (Ne.symm nq387) nin0) (ninS (Ne.symm nq388) nin0))
       have c406 := (SY394.keep K401 (ninS (Ne.symm nq396) nin0) (ninS (Ne.symm nq397) nin0))
       exact LV1 k (i + 1) (by omega) _ _ false false (i + 1) _ d402 t_394 u_394 (One.val rfl) W401 E403 FM403 FD403 FS403 c405 VD403 c406 (by omega) (by rw [Nat.sub_self, List.take_zero]; exact HT)
      ·
       refine g_icmpY (pc' := 112) W390.here hx (hb hby dc700) rfl (feq hc84_392).2 ?_
       refine g_iincV (i + 1).toInt32 (pc' := 115) (Ls' := #[.val (.ref a), .val (.ref b339), .val (.int 0), .val (.int 0), .val (.int sj.toInt32), .val (.int (i + 1).toInt32), .val (.int ci)]) W390.here hx (hb hby dc696) (own_succ i) rfl rfl rfl ?_
       refine g_goto (pc' := 18) W390.here hx (hb hby dc697) rfl ?_
       exact ih (i + 1) (by omega) _ _ false false sj _  (One.val rfl) W390 E_ FM_ FD_ FS_ S0_   (by omega) (by rw [own_dropc hci, own_s4a hc64_391 hc84_392, own_snocd hst hci] at HI; exact HI)
    ·
     show Gets p.tables e below (Post s Z consts_1 ({ frames := 6, cells := 6, slots := 49, locals := 116 } : Room) h0 [] (fun v h => ∃ (al d t0 u0 t1 u1 : Nat), v = some (.ref al) ∧ Exa Z h al "java/util/ArrayList" ∧ Fld Z h al "java/util/ArrayList" "elementData" "[Ljava/lang/Object;" (.ref d) ∧ Fld Z h al "java/util/ArrayList" "size" "I" (.int 2) ∧ AryR Z h d "java/lang/Object" [(.ref t0), (.ref t1), .null, .null, .null, .null, .null, .null, .null, .null] ∧ SL Z h t0 u0 f0 ∧ SL Z h t1 u1 f1)) TL (mkF m 18 #[.val (.ref a), .val (.ref b339), .val (.int 0), .val (.int 1), .val (.int sj.toInt32), .val (.int i.toInt32), o6] [])
     refine g_iload (pc' := 20) WL.here hx (hb hby dc667) rfl rfl ?_
     refine g_aloadN (pc' := 21) WL.here hx (hb hby dc668) rfl rfl rfl ?_
     refine w_virtualp (pc' := 24) (st := [(.int i.toInt32)]) (y := n_6) (z := n_6) (a := a) WL hx [] (M_ hw w_61) (M_ hw w_62) (nfS (z := n_6) (M_ hw w_64)) (M_ hw w_64) (M_ hw w_63) (M_ hw w_14) (M_ hw w_65) (by decide) (c_length l Z a0 hw hE cc fm a b cs  hL WL.old G S0_ ) ES0_ (by rw [hml]; rfl) (lenOf pd_15 rfl) rfl (hb hby dc669) (B_ rfl) (B_ rfl) rfl rfl (B_ rfl) (B_ rfl) rfl fun T407 W407 => ?_
     refine g_icmpN (pc' := 27) W407.here hx (hb hby dc670) rfl (tlt (show i.toInt32 < cs.length.toInt32 from (own_ltn hi2 hlen))).2.1 ?_
     refine g_aloadN (pc' := 28) W407.here hx (hb hby dc679) rfl rfl rfl ?_
     refine g_iload (pc' := 30) W407.here hx (hb hby dc680) rfl rfl ?_
     refine w_virtualp (pc' := 33) (st := []) (y := n_11) (z := n_11) (a := a) W407 hx [(.int i.toInt32)] (M_ hw w_177) (M_ hw w_178) (nfS (z := n_11) (M_ hw w_180)) (M_ hw w_180) (M_ hw w_179) (M_ hw w_14) (M_ hw w_181) (by decide) (c_charAt l Z a0 hw hE cc fm a b cs i.toInt32 ci hL W407.old G S0_ (own_nneg (by omega)) (own_ltn hi2 hlen) (by rw [i32_nat (by omega)]; exact hci)) ES0_ (by rw [hml]; rfl) (lenOf pd_10 rfl) rfl (hb hby dc681) (B_ rfl) (B_ rfl) rfl rfl (B_ rfl) (B_ rfl) rfl fun T408 W408 => ?_
     refine g_istore (pc' := 35) (Ls' := #[.val (.ref a), .val (.ref b339), .val (.int 0), .val (.int 1), .val (.int sj.toInt32), .val (.int i.toInt32), .val (.int ci)]) W408.here hx (hb hby dc682) (XS.store1 (o := o6) rfl ho6 rfl) rfl ?_
     refine g_iloadN (pc' := 36) W408.here hx (hb hby dc683) rfl rfl ?_
     refine g_ifN (pc' := 39) W408.here hx (hb hby dc684) rfl (feq (show ¬ ((1 : Int32) = (0 : Int32)) from (by decide))).1 ?_
     refine g_iconst (0 : Int32) (pc' := 40) W408.here hx (hb hby dc703) rfl rfl ?_
     refine g_istoreN (pc' := 41) (Ls' := #[.val (.ref a), .val (.ref b339), .val (.int 0), .val (.int 0), .val (.int sj.toInt32), .val (.int i.toInt32), .val (.int ci)]) W408.here hx (hb hby dc704) rfl rfl ?_
     refine g_goto (pc' := 112) W408.here hx (hb hby dc705) rfl ?_
     refine g_iincV (i + 1).toInt32 (pc' := 115) (Ls' := #[.val (.ref a), .val (.ref b339), .val (.int 0), .val (.int 0), .val (.int sj.toInt32), .val (.int (i + 1).toInt32), .val (.int ci)]) W408.here hx (hb hby dc696) (own_succ i) rfl rfl rfl ?_
     refine g_goto (pc' := 18) W408.here hx (hb hby dc697) rfl ?_
     exact ih (i + 1) (by omega) _ _ false false sj _  (One.val rfl) W408 E_ FM_ FD_ FS_ S0_   (by omega) (by rw [own_dropc hci, own_s1, own_snocd hst hci] at HI; exact HI)
   ·
    cases be
    ·
     show Gets p.tables e below (Post s Z consts_1 ({ frames := 6, cells := 6, slots := 49, locals := 116 } : Room) h0 [] (fun v h => ∃ (al d t0 u0 t1 u1 : Nat), v = some (.ref al) ∧ Exa Z h al "java/util/ArrayList" ∧ Fld Z h al "java/util/ArrayList" "elementData" "[Ljava/lang/Object;" (.ref d) ∧ Fld Z h al "java/util/ArrayList" "size" "I" (.int 2) ∧ AryR Z h d "java/lang/Object" [(.ref t0), (.ref t1), .null, .null, .null, .null, .null, .null, .null, .null] ∧ SL Z h t0 u0 f0 ∧ SL Z h t1 u1 f1)) TL (mkF m 18 #[.val (.ref a), .val (.ref b339), .val (.int 1), .val (.int 0), .val (.int sj.toInt32), .val (.int i.toInt32), o6] [])
     refine g_iload (pc' := 20) WL.here hx (hb hby dc667) rfl rfl ?_
     refine g_aloadN (pc' := 21) WL.here hx (hb hby dc668) rfl rfl rfl ?_
     refine w_virtualp (pc' := 24) (st := [(.int i.toInt32)]) (y := n_6) (z := n_6) (a := a) WL hx [] (M_ hw w_61) (M_ hw w_62) (nfS (z := n_6) (M_ hw w_64)) (M_ hw w_64) (M_ hw w_63) (M_ hw w_14) (M_ hw w_65) (by decide) (c_length l Z a0 hw hE cc fm a b cs  hL WL.old G S0_ ) ES0_ (by rw [hml]; rfl) (lenOf pd_15 rfl) rfl (hb hby dc669) (B_ rfl) (B_ rfl) rfl rfl (B_ rfl) (B_ rfl) rfl fun T409 W409 => ?_
     refine g_icmpN (pc' := 27) W409.here hx (hb hby dc670) rfl (tlt (show i.toInt32 < cs.length.toInt32 from (own_ltn hi2 hlen))).2.1 ?_
     refine g_aloadN (pc' := 28) W409.here hx (hb hby dc679) rfl rfl rfl ?_
     refine g_iload (pc' := 30) W409.here hx (hb hby dc680) rfl rfl ?_
     refine w_virtualp (pc' := 33) (st := []) (y := n_11) (z := n_11) (a := a) W409 hx [(.int i.toInt32)] (M_ hw w_177) (M_ hw w_178) (nfS (z := n_11) (M_ hw w_180)) (M_ hw w_180) (M_ hw w_179) (M_ hw w_14) (M_ hw w_181) (by decide) (c_charAt l Z a0 hw hE cc fm a b cs i.toInt32 ci hL W409.old G S0_ (own_nneg (by omega)) (own_ltn hi2 hlen) (by rw [i32_nat (by omega)]; exact hci)) ES0_ (by rw [hml]; rfl) (lenOf pd_10 rfl) rfl (hb hby dc681) (B_ rfl) (B_ rfl) rfl rfl (B_ rfl) (B_ rfl) rfl fun T410 W410 => ?_
     refine g_istore (pc' := 35) (Ls' := #[.val (.ref a), .val (.ref b339), .val (.int 1), .val (.int 0), .val (.int sj.toInt32), .val (.int i.toInt32), .val (.int ci)]) W410.here hx (hb hby dc682) (XS.store1 (o := o6) rfl ho6 rfl) rfl ?_
     refine g_iloadN (pc' := 36) W410.here hx (hb hby dc683) rfl rfl ?_
     refine g_ifY (pc' := 44) W410.here hx (hb hby dc684) rfl (teq (show (0 : Int32) = (0 : Int32) from (by decide))).1 ?_
     refine g_iloadN (pc' := 45) W410.here hx (hb hby dc685) rfl rfl ?_
     refine g_ifN (pc' := 48) W410.here hx (hb hby dc686) rfl (feq (show ¬ ((1 : Int32) = (0 : Int32)) from (by decide))).1 ?_
     refine g_iload (pc' := 50) W410.here hx (hb hby dc706) rfl rfl ?_
     refine g_bipush (92 : Int32) (pc' := 52) W410.here hx (hb hby dc707) rfl rfl ?_
     by_cases hc52_411 : ci = (92 : Int32)
     ·
      refine g_icmpN (pc' := 55) W410.here hx (hb hby dc708) rfl (teq hc52_411).2 ?_
      refine g_iconst (1 : Int32) (pc' := 56) W410.here hx (hb hby dc709) rfl rfl ?_
      refine g_istoreN (pc' := 57) (Ls' := #[.val (.ref a), .val (.ref b339), .val (.int 1), .val (.int 1), .val (.int sj.toInt32), .val (.int i.toInt32), .val (.int ci)]) W410.here hx (hb hby dc710) rfl rfl ?_
      refine g_goto (pc' := 112) W410.here hx (hb hby dc711) rfl ?_
      refine g_iincV (i + 1).toInt32 (pc' := 115) (Ls' := #[.val (.ref a), .val (.ref b339), .val (.int 1), .val (.int 1), .val (.int sj.toInt32), .val (.int (i + 1).toInt32), .val (.int ci)]) W410.here hx (hb hby dc696) (own_succ i) rfl rfl rfl ?_
      refine g_goto (pc' := 18) W410.here hx (hb hby dc697) rfl ?_
      exact ih (i + 1) (by omega) _ _ true true sj _  (One.val rfl) W410 E_ FM_ FD_ FS_ S0_   (by omega) (by rw [own_dropc hci, own_s2 hc52_411, own_snocd hst hci] at HI; exact HI)
     ·
      refine g_icmpY (pc' := 60) W410.here hx (hb hby dc708) rfl (feq hc52_411).2 ?_
      refine g_iload (pc' := 62) W410.here hx (hb hby dc687) rfl rfl ?_
      refine g_bipush (34 : Int32) (pc' := 64) W410.here hx (hb hby dc688) rfl rfl ?_
      by_cases hc64_412 : ci = (34 : Int32)
      ·
       refine g_icmpN (pc' := 67) W410.here hx (hb hby dc689) rfl (teq hc64_412).2 ?_
       refine g_iloadN (pc' := 68) W410.here hx (hb hby dc690) rfl rfl ?_
       refine g_ifY (pc' := 75) W410.here hx (hb hby dc691) rfl (feq (show ¬ ((1 : Int32) = (0 : Int32)) from (by decide))).2 ?_
       refine g_iconst (0 : Int32) (pc' := 76) W410.here hx (hb hby dc712) rfl rfl ?_
       refine g_istoreN (pc' := 77) (Ls' := #[.val (.ref a), .val (.ref b339), .val (.int 0), .val (.int 0), .val (.int sj.toInt32), .val (.int i.toInt32), .val (.int ci)]) W410.here hx (hb hby dc694) rfl rfl ?_
       refine g_goto (pc' := 112) W410.here hx (hb hby dc695) rfl ?_
       refine g_iincV (i + 1).toInt32 (pc' := 115) (Ls' := #[.val (.ref a), .val (.ref b339), .val (.int 0), .val (.int 0), .val (.int sj.toInt32), .val (.int (i + 1).toInt32), .val (.int ci)]) W410.here hx (hb hby dc696) (own_succ i) rfl rfl rfl ?_
       refine g_goto (pc' := 18) W410.here hx (hb hby dc697) rfl ?_
       exact ih (i + 1) (by omega) _ _ false false sj _  (One.val rfl) W410 E_ FM_ FD_ FS_ S0_   (by omega) (by rw [own_dropc hci, own_s3b hc64_412, own_snocd hst hci] at HI; exact HI)
      ·
       refine g_icmpY (pc' := 80) W410.here hx (hb hby dc689) rfl (feq hc64_412).2 ?_
       refine g_iload (pc' := 82) W410.here hx (hb hby dc698) rfl rfl ?_
       refine g_bipush (44 : Int32) (pc' := 84) W410.here hx (hb hby dc699) rfl rfl ?_
       by_cases hc84_413 : ci = (44 : Int32)
       ·
        refine g_icmpN (pc' := 87) W410.here hx (hb hby dc700) rfl (teq hc84_413).2 ?_
        refine g_iloadN (pc' := 88) W410.here hx (hb hby dc701) rfl rfl ?_
        refine g_ifY (pc' := 112) W410.here hx (hb hby dc702) rfl (feq (show ¬ ((1 : Int32) = (0 : Int32)) from (by decide))).2 ?_
        refine g_iincV (i + 1).toInt32 (pc' := 115) (Ls' := #[.val (.ref a), .val (.ref b339), .val (.int 1), .val (.int 0), .val (.int sj.toInt32), .val (.int (i + 1).toInt32), .val (.int ci)]) W410.here hx (hb hby dc696) (own_succ i) rfl rfl rfl ?_
        refine g_goto (pc' := 18) W410.here hx (hb hby dc697) rfl ?_
        exact ih (i + 1) (by omega) _ _ true false sj _  (One.val rfl) W410 E_ FM_ FD_ FS_ S0_   (by omega) (by rw [own_dropc hci, own_s4b hc52_411 hc64_412, own_snocd hst hci] at HI; exact HI)
       ·
        refine g_icmpY (pc' := 112) W410.here hx (hb hby dc700) rfl (feq hc84_413).2 ?_
        refine g_iincV (i + 1).toInt32 (pc' := 115) (Ls' := #[.val (.ref a), .val (.ref b339), .val (.int 1), .val (.int 0), .val (.int sj.toInt32), .val (.int (i + 1).toInt32), .val (.int ci)]) W410.here hx (hb hby dc696) (own_succ i) rfl rfl rfl ?_
        refine g_goto (pc' := 18) W410.here hx (hb hby dc697) rfl ?_
        exact ih (i + 1) (by omega) _ _ true false sj _  (One.val rfl) W410 E_ FM_ FD_ FS_ S0_   (by omega) (by rw [own_dropc hci, own_s4b hc52_411 hc64_412, own_snocd hst hci] at HI; exact HI)
    ·
     show Gets p.tables e below (Post s Z consts_1 ({ frames := 6, cells := 6, slots := 49, locals := 116 } : Room) h0 [] (fun v h => ∃ (al d t0 u0 t1 u1 : Nat), v = some (.ref al) ∧ Exa Z h al "java/util/ArrayList" ∧ Fld Z h al "java/util/ArrayList" "elementData" "[Ljava/lang/Object;" (.ref d) ∧ Fld Z h al "java/util/ArrayList" "size" "I" (.int 2) ∧ AryR Z h d "java/lang/Object" [(.ref t0), (.ref t1), .null, .null, .null, .null, .null, .null, .null, .null] ∧ SL Z h t0 u0 f0 ∧ SL Z h t1 u1 f1)) TL (mkF m 18 #[.val (.ref a), .val (.ref b339), .val (.int 1), .val (.int 1), .val (.int sj.toInt32), .val (.int i.toInt32), o6] [])
     refine g_iload (pc' := 20) WL.here hx (hb hby dc667) rfl rfl ?_
     refine g_aloadN (pc' := 21) WL.here hx (hb hby dc668) rfl rfl rfl ?_
     refine w_virtualp (pc' := 24) (st := [(.int i.toInt32)]) (y := n_6) (z := n_6) (a := a) WL hx [] (M_ hw w_61) (M_ hw w_62) (nfS (z := n_6) (M_ hw w_64)) (M_ hw w_64) (M_ hw w_63) (M_ hw w_14) (M_ hw w_65) (by decide) (c_length l Z a0 hw hE cc fm a b cs  hL WL.old G S0_ ) ES0_ (by rw [hml]; rfl) (lenOf pd_15 rfl) rfl (hb hby dc669) (B_ rfl) (B_ rfl) rfl rfl (B_ rfl) (B_ rfl) rfl fun T414 W414 => ?_
     refine g_icmpN (pc' := 27) W414.here hx (hb hby dc670) rfl (tlt (show i.toInt32 < cs.length.toInt32 from (own_ltn hi2 hlen))).2.1 ?_
     refine g_aloadN (pc' := 28) W414.here hx (hb hby dc679) rfl rfl rfl ?_
     refine g_iload (pc' := 30) W414.here hx (hb hby dc680) rfl rfl ?_
     refine w_virtualp (pc' := 33) (st := []) (y := n_11) (z := n_11) (a := a) W414 hx [(.int i.toInt32)] (M_ hw w_177) (M_ hw w_178) (nfS (z := n_11) (M_ hw w_180)) (M_ hw w_180) (M_ hw w_179) (M_ hw w_14) (M_ hw w_181) (by decide) (c_charAt l Z a0 hw hE cc fm a b cs i.toInt32 ci hL W414.old G S0_ (own_nneg (by omega)) (own_ltn hi2 hlen) (by rw [i32_nat (by omega)]; exact hci)) ES0_ (by rw [hml]; rfl) (lenOf pd_10 rfl) rfl (hb hby dc681) (B_ rfl) (B_ rfl) rfl rfl (B_ rfl) (B_ rfl) rfl fun T415 W415 => ?_
     refine g_istore (pc' := 35) (Ls' := #[.val (.ref a), .val (.ref b339), .val (.int 1), .val (.int 1), .val (.int sj.toInt32), .val (.int i.toInt32), .val (.int ci)]) W415.here hx (hb hby dc682) (XS.store1 (o := o6) rfl ho6 rfl) rfl ?_
     refine g_iloadN (pc' := 36) W415.here hx (hb hby dc683) rfl rfl ?_
     refine g_ifN (pc' := 39) W415.here hx (hb hby dc684) rfl (feq (show ¬ ((1 : Int32) = (0 : Int32)) from (by decide))).1 ?_
     refine g_iconst (0 : Int32) (pc' := 40) W415.here hx (hb hby dc703) rfl rfl ?_
     refine g_istoreN (pc' := 41) (Ls' := #[.val (.ref a), .val (.ref b339), .val (.int 1), .val (.int 0), .val (.int sj.toInt32), .val (.int i.toInt32), .val (.int ci)]) W415.here hx (hb hby dc704) rfl rfl ?_
     refine g_goto (pc' := 112) W415.here hx (hb hby dc705) rfl ?_
     refine g_iincV (i + 1).toInt32 (pc' := 115) (Ls' := #[.val (.ref a), .val (.ref b339), .val (.int 1), .val (.int 0), .val (.int sj.toInt32), .val (.int (i + 1).toInt32), .val (.int ci)]) W415.here hx (hb hby dc696) (own_succ i) rfl rfl rfl ?_
     refine g_goto (pc' := 18) W415.here hx (hb hby dc697) rfl ?_
     exact ih (i + 1) (by omega) _ _ true false sj _  (One.val rfl) W415 E_ FM_ FD_ FS_ S0_   (by omega) (by rw [own_dropc hci, own_s1, own_snocd hst hci] at HI; exact HI)
 have c416 := ((S0.keep K339 nin0 nin0).keep K340 (ninS ne_a_b339 nin0) (ninS ne_b_b339 nin0))
 exact LV0 cs.length 0 (by omega) _ _ false false 0 _ One.u W340 E341 FM341 FD341 FS341 c416 (Nat.le_refl _) HS
set_option maxRecDepth 65536 in
set_option maxHeartbeats 40000000 in
theorem c_elems3 (l : Launch) (Z : State) (a0 : Array Value) (hw : ∀ d ∈ tables_1, d.before a0 Z = true) (hE : EW Z a0 consts_1) (cc : Int32) (fm : Value) (a b : Nat) (cs : List Int32) (oD : Nat) (f0 f1 f2 : List Int32) (h0 : Heap) (O : Ext Z.heap h0) (G : SEnv Z cc fm) (SD : Sta Z Z.heap "java/util/ArrayList" "DEFAULTCAPACITY_EMPTY_ELEMENTDATA" "[Ljava/lang/Object;" (.ref oD)) (VD0 : Ary Z Z.heap oD (.object "java/lang/Object") []) (S0 : SL Z h0 a b cs) (hcl : cs.length ≤ 14) (HS : spl false false [] cs = [f0, f1, f2]) :
    Con l Z consts_1 n_40 prog_3_method_2_code 7 (Option.some (Jvm.ClassFile.FieldType.object "java/util/List")) ({ frames := 6, cells := 8, slots := 67, locals := 116 } : Room) #[(.ref a)] h0 [] (fun v h => ∃ (al d t0 u0 t1 u1 t2 u2 : Nat), v = some (.ref al) ∧ Exa Z h al "java/util/ArrayList" ∧ Fld Z h al "java/util/ArrayList" "elementData" "[Ljava/lang/Object;" (.ref d) ∧ Fld Z h al "java/util/ArrayList" "size" "I" (.int 3) ∧ AryR Z h d "java/lang/Object" [(.ref t0), (.ref t1), (.ref t2), .null, .null, .null, .null, .null, .null, .null] ∧ SL Z h t0 u0 f0 ∧ SL Z h t1 u1 f1 ∧ SL Z h t2 u2 f2) := by
 refine Con.of (a0 := a0) #[.val (.ref a), .unset, .unset, .unset, .unset, .unset, .unset] (plainFor_of_name pn_10) hE O all0 (fun m => by first | (simp [entryFrame, mkF, argsToLocals, Value.category]; done) | rfl) ?_
 intro p e s m below meth c T0 hx hby hml hnm hret hlk hh W0
 have VDh := VD0.ext O
 have ES0 := S0.1
 have lt_a : a < h0.size := S0.lt
 have lt_b : b < h0.size := S0.ltb
 have hlen : cs.length < 2 ^ 31 := by omega
 refine w_new (pc' := 3) W0 hx (M_ hw w_37) (M_ hw w_38) (M_ hw w_39) (hb hby dc655) (B_ rfl) (B_ rfl) rfl fun T417 h417 b417 g417 W417 K417 A417 D417 => ?_
 have z_K417 : h0.size ≤ h417.size := K417.1
 have ne_a_b417 : a ≠ b417 := by omega
 have ne_b_b417 : b ≠ b417 := by omega
 have lt_b417 : b417 < h417.size := W417.lt (List.mem_cons_self ..)
 have F417_modCount : Fld Z h417 b417 "java/util/AbstractList" "modCount" "I" (.int 0) := D417 (Or.inl (M_ hw w_57)) (ty := .int) (by decide)
 have F417_elementData : Fld Z h417 b417 "java/util/ArrayList" "elementData" "[Ljava/lang/Object;" .null := D417 (Or.inl (M_ hw w_60)) (ty := (.array (.object "java/lang/Object"))) (by decide)
 have F417_size : Fld Z h417 b417 "java/util/ArrayList" "size" "I" (.int 0) := D417 (Or.inl (M_ hw w_103)) (ty := .int) (by decide)
 refine g_dup (pc' := 4) W417.here hx (hb hby dc656) rfl rfl ?_
 refine w_special (pc' := 7) (st := [(.ref b417)]) (y := n_30) (a := b417) W417 hx [] rfl (M_ hw w_40) (M_ hw w_41) (M_ hw w_39) (M_ hw w_42) (by decide) (c_alinit l Z a0 hw hE b417 oD h417 W417.old SD VD0 (by have := O.1; omega) A417 F417_modCount F417_elementData F417_size) (allS (List.mem_of_getElem? (i := 0) rfl) all0) (by rw [hml]; rfl) (lenOf pd_19 rfl) rfl (hb hby dc657) (B_ rfl) (B_ rfl) (B_ rfl) (B_ rfl) rfl fun v418 T418 h418 W418 K418 Q418 => ?_
 have z_K418 : h417.size ≤ h418.size := K418.1
 obtain ⟨rfl, E419, FM419, FD419, FS419⟩ := Q418
 refine g_astoreN (pc' := 8) (Ls' := #[.val (.ref a), .val (.ref b417), .unset, .unset, .unset, .unset, .unset]) W418.here hx (hb hby dc658) rfl rfl rfl ?_
 refine g_iconst (0 : Int32) (pc' := 9) W418.here hx (hb hby dc659) rfl rfl ?_
 refine g_istoreN (pc' := 10) (Ls' := #[.val (.ref a), .val (.ref b417), .val (.int 0), .unset, .unset, .unset, .unset]) W418.here hx (hb hby dc660) rfl rfl ?_
 refine g_iconst (0 : Int32) (pc' := 11) W418.here hx (hb hby dc661) rfl rfl ?_
 refine g_istoreN (pc' := 12) (Ls' := #[.val (.ref a), .val (.ref b417), .val (.int 0), .val (.int 0), .unset, .unset, .unset]) W418.here hx (hb hby dc662) rfl rfl ?_
 refine g_iconst (0 : Int32) (pc' := 13) W418.here hx (hb hby dc663) rfl rfl ?_
 refine g_istore (pc' := 15) (Ls' := #[.val (.ref a), .val (.ref b417), .val (.int 0), .val (.int 0), .val (.int 0), .unset, .unset]) W418.here hx (hb hby dc664) rfl rfl ?_
 refine g_iconst (0 : Int32) (pc' := 16) W418.here hx (hb hby dc665) rfl rfl ?_
 refine g_istore (pc' := 18) (Ls' := #[.val (.ref a), .val (.ref b417), .val (.int 0), .val (.int 0), .val (.int 0), .val (.int 0), .unset]) W418.here hx (hb hby dc666) rfl rfl ?_
 have LV2 : ∀ (k i : Nat), i + k = cs.length → ∀ (TL : State) (hL : Heap) (bq be : Bool) (sj : Nat) (o6 : Slot) (d t0 u0 t1 u1 : Nat), One o6 → Wk p l e ({ frames := 6, cells := 8, slots := 67, locals := 116 } : Room) s m #[(.ref a)] below meth c Z consts_1 "com/example/despatch/despatch/http/HeaderList" [] [d, b417] TL hL 6 49 → Exa Z hL b417 "java/util/ArrayList" → Fld Z hL b417 "java/util/AbstractList" "modCount" "I" (.int 2) → Fld Z hL b417 "java/util/ArrayList" "elementData" "[Ljava/lang/Object;" (.ref d) → Fld Z hL b417 "java/util/ArrayList" "size" "I" (.int 2) → SL Z hL a b cs → AryR Z hL d "java/lang/Object" [(.ref t0), (.ref t1), .null, .null, .null, .null, .null, .null, .null, .null] → SL Z hL t0 u0 f0 → SL Z hL t1 u1 f1 → sj ≤ i → spl bq be ((cs.drop sj).take (i - sj)) (cs.drop i) = [f2] → Gets p.tables e below (Post s Z consts_1 ({ frames := 6, cells := 8, slots := 67, locals := 116 } : Room) h0 [] (fun v h => ∃ (al d t0 u0 t1 u1 t2 u2 : Nat), v = some (.ref al) ∧ Exa Z h al "java/util/ArrayList" ∧ Fld Z h al "java/util/ArrayList" "elementData" "[Ljava/lang/Object;" (.ref d) ∧ Fld Z h al "java/util/ArrayList" "size" "I" (.int 3) ∧ AryR Z h d "java/lang/Object" [(.ref t0), (.ref t1), (.ref t2), .null, .null, .null, .null, .null, .null, .null] ∧ SL Z h t0 u0 f0 ∧ SL Z h t1 u1 f1 ∧ SL Z h t2 u2 f2)) TL (mkF m 18 #[.val (.ref a), .val (.ref b417), .val (.int (bi bq)), .val (.int (bi be)), .val (.int sj.toInt32), .val (.int i.toInt32), o6] []) := by
  intro k
  induction k with
  | zero =>
   intro i hi TL hL bq be sj o6 d t0 u0 t1 u1 ho6 WL E_ FM_ FD_ FS_ S0_ VD_ SS0 SS1 hst HI
   have lt_b417 : b417 < hL.size := E_.lt
   have hzal : Z.heap.size ≤ b417 := WL.zle (List.mem_of_getElem? (i := 1) rfl)
   have ES0_ := S0_.1
   have lt_a : a < hL.size := S0_.lt
   have lt_b : b < hL.size := S0_.ltb
   have ESS0 := SS0.1
   have lt_t0 : t0 < hL.size := SS0.lt
   have lt_u0 : u0 < hL.size := SS0.ltb
   have ESS1 := SS1.1
   have lt_t1 : t1 < hL.size := SS1.lt
   have lt_u1 : u1 < hL.size := SS1.ltb
   have lt_d : d < hL.size := VD_.lt
   have hzd : Z.heap.size ≤ d := WL.zle (List.mem_of_getElem? (i := 0) rfl)
   have nq_al_d : b417 ≠ d := own_neobj E_ (M_ hw w_38) VD_.ary
   have nq420 : b417 ≠ a := Jvm.RoadKit.ne_exa E_ S0_.1 (by decide)
   have nq421 : b417 ≠ b := own_neobj E_ (M_ hw w_38) S0_.2.2.2.1
   have nq422 : a ≠ d := own_neobj S0_.1 (M_ hw w_13) VD_.ary
   have nq423 : b ≠ d := own_neary S0_.2.2.2.1 VD_.ary (by decide)
   have nq424 : b417 ≠ t0 := Jvm.RoadKit.ne_exa E_ SS0.1 (by decide)
   have nq425 : b417 ≠ u0 := own_neobj E_ (M_ hw w_38) SS0.2.2.2.1
   have nq426 : t0 ≠ d := own_neobj SS0.1 (M_ hw w_13) VD_.ary
   have nq427 : u0 ≠ d := own_neary SS0.2.2.2.1 VD_.ary (by decide)
   have nq428 : b417 ≠ t1 := Jvm.RoadKit.ne_exa E_ SS1.1 (by decide)
   have nq429 : b417 ≠ u1 := own_neobj E_ (M_ hw w_38) SS1.2.2.2.1
   have nq430 : t1 ≠ d := own_neobj SS1.1 (M_ hw w_13) VD_.ary
   have nq431 : u1 ≠ d := own_neary SS1.2.2.2.1 VD_.ary (by decide)
   have ei : i = cs.length := by omega
   rw [show cs.drop i = [] from List.drop_of_length_le (by omega), ei] at HI
   have HE : (cs.drop sj).take (cs.length - sj) = f2 := by simpa [spl] using HI
   refine g_iload (pc' := 20) WL.here hx (hb hby dc667) rfl rfl ?_
   refine g_aloadN (pc' := 21) WL.here hx (hb hby dc668) rfl rfl rfl ?_
   refine w_virtualp (pc' := 24) (st := [(.int i.toInt32)]) (y := n_6) (z := n_6) (a := a) WL hx [] (M_ hw w_61) (M_ hw w_62) (nfS (z := n_6) (M_ hw w_64)) (M_ hw w_64) (M_ hw w_63) (M_ hw w_14) (M_ hw w_65) (by decide) (c_length l Z a0 hw hE cc fm a b cs  hL WL.old G S0_ ) ES0_ (by rw [hml]; rfl) (lenOf pd_15 rfl) rfl (hb hby dc669) (B_ rfl) (B_ rfl) rfl rfl (B_ rfl) (B_ rfl) rfl fun T432 W432 => ?_
   refine g_icmpY (pc' := 118) W432.here hx (hb hby dc670) rfl (flt (show ¬ (i.toInt32 < cs.length.toInt32) from (own_nltn (by omega) (by omega)))).2.1 ?_
   refine g_aloadN (pc' := 119) W432.here hx (hb hby dc671) rfl rfl rfl ?_
   refine g_aloadN (pc' := 120) W432.here hx (hb hby dc672) rfl rfl rfl ?_
   refine g_iload (pc' := 122) W432.here hx (hb hby dc673) rfl rfl ?_
   refine w_virtual (pc' := 125) (st := [(.ref b417)]) (y := n_27) (z := n_27) (a := a) W432 hx [(.int sj.toInt32)] (M_ hw w_72) (M_ hw w_73) (nfS (z := n_27) (M_ hw w_75)) (M_ hw w_75) (M_ hw w_74) (M_ hw w_14) (M_ hw w_76) (by decide) (c_sub1 l Z a0 hw hE cc fm a b cs sj hL W432.old G S0_ (by omega) hcl) ES0_ all0 (by rw [hml]; rfl) (lenOf pd_24 rfl) rfl (hb hby dc674) (B_ rfl) (B_ rfl) (B_ rfl) (B_ rfl) rfl fun v433 T433 h433 W433 K433 Q433 => ?_
   have z_K433 : hL.size ≤ h433.size := K433.1
   obtain ⟨t_434, u_434, rfl, SX434⟩ := Q433
   have SY434 : SL Z h433 t_434 u_434 f2 := by rw [← HE]; exact SX434
   have ESY434 := SY434.1
   have lt_t_434 : t_434 < h433.size := SY434.lt
   have lt_u_434 : u_434 < h433.size := SY434.ltb
   have c435 := (VD_.keep K433 nin0)
   have c436 := (E_.keep K433)
   have nq437 : b417 ≠ t_434 := Jvm.RoadKit.ne_exa c436 SY434.1 (by decide)
   have nq438 : b417 ≠ u_434 := own_neobj c436 (M_ hw w_38) SY434.2.2.2.1
   have nq439 : t_434 ≠ d := own_neobj SY434.1 (M_ hw w_13) c435.ary
   have nq440 : u_434 ≠ d := own_neary SY434.2.2.2.1 c435.ary (by decide)
   have c441 := (FM_.keep K433 nin0)
   have c442 := (FD_.keep K433 nin0)
   have c443 := (FS_.keep K433 nin0)
   refine w_iface (pc' := 130) (st := []) (y := n_41) (z := n_35) (a := b417) W433 hx [(.ref t_434)] (M_ hw w_91) (M_ hw w_92) (M_ hw w_93) (M_ hw w_94) (M_ hw w_95) (M_ hw w_96) (M_ hw w_97) (M_ hw w_98) (M_ hw w_39) (M_ hw w_99) (by decide) (c_add_2 l Z a0 hw hE b417 d t_434 t0 t1 h433 W433.old hzal c436 c441 c442 c443 hzd c435 nq_al_d ESY434) c436 (allS (List.mem_of_getElem? (i := 1) rfl) (allS (List.mem_of_getElem? (i := 0) rfl) all0)) (by rw [hml]; rfl) (lenOf pd_25 rfl) rfl (hb hby dc675) (B_ rfl) (B_ rfl) (B_ rfl) (B_ rfl) rfl fun v444 T444 h444 W444 K444 Q444 => ?_
   have z_K444 : h433.size ≤ h444.size := K444.1
   obtain ⟨rfl, E445, FM445, FD445, FS445, VD445⟩ := Q444
   refine g_pop (pc' := 131) W444.here hx (hb hby dc676) rfl rfl ?_
   refine g_aloadN (pc' := 132) W444.here hx (hb hby dc677) rfl rfl rfl ?_
   have c446 := ((SS0.keep K433 nin0 nin0).keep K444 (ninS (Ne.symm nq424) (ninS nq426 nin0)) (ninS (Ne.symm nq425) (ninS nq427 nin0)))
   have c447 := ((SS1.keep K433 nin0 nin0).keep K444 (ninS (Ne.symm nq428) (ninS nq430 nin0)) (ninS (Ne.symm nq429) (ninS nq431 nin0)))
   have c448 := (SY434.keep K444 (ninS (Ne.symm nq437) (ninS nq439 nin0)) (ninS (Ne.symm nq438) (ninS nq440 nin0)))
   refine w_retA W444 hx hh hlk hret rfl rfl (hb hby dc678) (B_ rfl) (B_ rfl) ?_
   exact ⟨_, d, t0, u0, t1, u1, t_434, u_434, rfl, E445, FD445, FS445, VD445, c446, c447, c448⟩
  | succ k ih =>
   intro i hi TL hL bq be sj o6 d t0 u0 t1 u1 ho6 WL E_ FM_ FD_ FS_ S0_ VD_ SS0 SS1 hst HI
   have lt_b417 : b417 < hL.size := E_.lt
   have hzal : Z.heap.size ≤ b417 := WL.zle (List.mem_of_getElem? (i := 1) rfl)
   have ES0_ := S0_.1
   have lt_a : a < hL.size := S0_.lt
   have lt_b : b < hL.size := S0_.ltb
   have ESS0 := SS0.1
   have lt_t0 : t0 < hL.size := SS0.lt
   have lt_u0 : u0 < hL.size := SS0.ltb
   have ESS1 := SS1.1
   have lt_t1 : t1 < hL.size := SS1.lt
   have lt_u1 : u1 < hL.size := SS1.ltb
   have lt_d : d < hL.size := VD_.lt
   have hzd : Z.heap.size ≤ d := WL.zle (List.mem_of_getElem? (i := 0) rfl)
   have nq_al_d : b417 ≠ d := own_neobj E_ (M_ hw w_38) VD_.ary
   have nq449 : b417 ≠ a := Jvm.RoadKit.ne_exa E_ S0_.1 (by decide)
   have nq450 : b417 ≠ b := own_neobj E_ (M_ hw w_38) S0_.2.2.2.1
   have nq451 : a ≠ d := own_neobj S0_.1 (M_ hw w_13) VD_.ary
   have nq452 : b ≠ d := own_neary S0_.2.2.2.1 VD_.ary (by decide)
   have nq453 : b417 ≠ t0 := Jvm.RoadKit.ne_exa E_ SS0.1 (by decide)
   have nq454 : b417 ≠ u0 := own_neobj E_ (M_ hw w_38) SS0.2.2.2.1
   have nq455 : t0 ≠ d := own_neobj SS0.1 (M_ hw w_13) VD_.ary
   have nq456 : u0 ≠ d := own_neary SS0.2.2.2.1 VD_.ary (by decide)
   have nq457 : b417 ≠ t1 := Jvm.RoadKit.ne_exa E_ SS1.1 (by decide)
   have nq458 : b417 ≠ u1 := own_neobj E_ (M_ hw w_38) SS1.2.2.2.1
   have nq459 : t1 ≠ d := own_neobj SS1.1 (M_ hw w_13) VD_.ary
   have nq460 : u1 ≠ d := own_neary SS1.2.2.2.1 VD_.ary (by decide)
   have hi2 : i < cs.length := by omega
   obtain ⟨ci, hci⟩ : ∃ z, cs[i]? = some z := ⟨_, List.getElem?_eq_getElem hi2⟩
   cases bq
   ·
    cases be
    ·
     show Gets p.tables e below (Post s Z consts_1 ({ frames := 6, cells := 8, slots := 67, locals := 116 } : Room) h0 [] (fun v h => ∃ (al d t0 u0 t1 u1 t2 u2 : Nat), v = some (.ref al) ∧ Exa Z h al "java/util/ArrayList" ∧ Fld Z h al "java/util/ArrayList" "elementData" "[Ljava/lang/Object;" (.ref d) ∧ Fld Z h al "java/util/ArrayList" "size" "I" (.int 3) ∧ AryR Z h d "java/lang/Object" [(.ref t0), (.ref t1), (.ref t2), .null, .null, .null, .null, .null, .null, .null] ∧ SL Z h t0 u0 f0 ∧ SL Z h t1 u1 f1 ∧ SL Z h t2 u2 f2)) TL (mkF m 18 #[.val (.ref a), .val (.ref b417), .val (.int 0), .val (.int 0), .val (.int sj.toInt32), .val (.int i.toInt32), o6] [])
     refine g_iload (pc' := 20) WL.here hx (hb hby dc667) rfl rfl ?_
     refine g_aloadN (pc' := 21) WL.here hx (hb hby dc668) rfl rfl rfl ?_
     refine w_virtualp (pc' := 24) (st := [(.int i.toInt32)]) (y := n_6) (z := n_6) (a := a) WL hx [] (M_ hw w_61) (M_ hw w_62) (nfS (z := n_6) (M_ hw w_64)) (M_ hw w_64) (M_ hw w_63) (M_ hw w_14) (M_ hw w_65) (by decide) (c_length l Z a0 hw hE cc fm a b cs  hL WL.old G S0_ ) ES0_ (by rw [hml]; rfl) (lenOf pd_15 rfl) rfl (hb hby dc669) (B_ rfl) (B_ rfl) rfl rfl (B_ rfl) (B_ rfl) rfl fun T461 W461 => ?_
     refine g_icmpN (pc' := 27) W461.here hx (hb hby dc670) rfl (tlt (show i.toInt32 < cs.length.toInt32 from (own_ltn hi2 hlen))).2.1 ?_
     refine g_aloadN (pc' := 28) W461.here hx (hb hby dc679) rfl rfl rfl ?_
     refine g_iload (pc' := 30) W461.here hx (hb hby dc680) rfl rfl ?_
     refine w_virtualp (pc' := 33) (st := []) (y := n_11) (z := n_11) (a := a) W461 hx [(.int i.toInt32)] (M_ hw w_177) (M_ hw w_178) (nfS (z := n_11) (M_ hw w_180)) (M_ hw w_180) (M_ hw w_179) (M_ hw w_14) (M_ hw w_181) (by decide) (c_charAt l Z a0 hw hE cc fm a b cs i.toInt32 ci hL W461.old G S0_ (own_nneg (by omega)) (own_ltn hi2 hlen) (by rw [i32_nat (by omega)]; exact hci)) ES0_ (by rw [hml]; rfl) (lenOf pd_10 rfl) rfl (hb hby dc681) (B_ rfl) (B_ rfl) rfl rfl (B_ rfl) (B_ rfl) rfl fun T462 W462 => ?_
     refine g_istore (pc' := 35) (Ls' := #[.val (.ref a), .val (.ref b417), .val (.int 0), .val (.int 0), .val (.int sj.toInt32), .val (.int i.toInt32), .val (.int ci)]) W462.here hx (hb hby dc682) (XS.store1 (o := o6) rfl ho6 rfl) rfl ?_
     refine g_iloadN (pc' := 36) W462.here hx (hb hby dc683) rfl rfl ?_
     refine g_ifY (pc' := 44) W462.here hx (hb hby dc684) rfl (teq (show (0 : Int32) = (0 : Int32) from (by decide))).1 ?_
     refine g_iloadN (pc' := 45) W462.here hx (hb hby dc685) rfl rfl ?_
     refine g_ifY (pc' := 60) W462.here hx (hb hby dc686) rfl (teq (show (0 : Int32) = (0 : Int32) from (by decide))).1 ?_
     refine g_iload (pc' := 62) W462.here hx (hb hby dc687) rfl rfl ?_
     refine g_bipush (34 : Int32) (pc' := 64) W462.here hx (hb hby dc688) rfl rfl ?_
     by_cases hc64_463 : ci = (34 : Int32)
     ·
      refine g_icmpN (pc' := 67) W462.here hx (hb hby dc689) rfl (teq hc64_463).2 ?_
      refine g_iloadN (pc' := 68) W462.here hx (hb hby dc690) rfl rfl ?_
      refine g_ifN (pc' := 71) W462.here hx (hb hby dc691) rfl (teq (show (0 : Int32) = (0 : Int32) from (by decide))).2 ?_
      refine g_iconst (1 : Int32) (pc' := 72) W462.here hx (hb hby dc692) rfl rfl ?_
      refine g_goto (pc' := 76) W462.here hx (hb hby dc693) rfl ?_
      refine g_istoreN (pc' := 77) (Ls' := #[.val (.ref a), .val (.ref b417), .val (.int 1), .val (.int 0), .val (.int sj.toInt32), .val (.int i.toInt32), .val (.int ci)]) W462.here hx (hb hby dc694) rfl rfl ?_
      refine g_goto (pc' := 112) W462.here hx (hb hby dc695) rfl ?_
      refine g_iincV (i + 1).toInt32 (pc' := 115) (Ls' := #[.val (.ref a), .val (.ref b417), .val (.int 1), .val (.int 0), .val (.int sj.toInt32), .val (.int (i + 1).toInt32), .val (.int ci)]) W462.here hx (hb hby dc696) (own_succ i) rfl rfl rfl ?_
      refine g_goto (pc' := 18) W462.here hx (hb hby dc697) rfl ?_
      exact ih (i + 1) (by omega) _ _ true false sj _ d t0 u0 t1 u1 (One.val rfl) W462 E_ FM_ FD_ FS_ S0_ VD_ SS0 SS1 (by omega) (by rw [own_dropc hci, own_s3a hc64_463, own_snocd hst hci] at HI; exact HI)
     ·
      refine g_icmpY (pc' := 80) W462.here hx (hb hby dc689) rfl (feq hc64_463).2 ?_
      refine g_iload (pc' := 82) W462.here hx (hb hby dc698) rfl rfl ?_
      refine g_bipush (44 : Int32) (pc' := 84) W462.here hx (hb hby dc699) rfl rfl ?_
      by_cases hc84_464 : ci = (44 : Int32)
      ·
       refine g_icmpN (pc' := 87) W462.here hx (hb hby dc700) rfl (teq hc84_464).2 ?_
       refine g_iloadN (pc' := 88) W462.here hx (hb hby dc701) rfl rfl ?_
       refine g_ifN (pc' := 91) W462.here hx (hb hby dc702) rfl (teq (show (0 : Int32) = (0 : Int32) from (by decide))).2 ?_
       rw [own_dropc hci, own_s5 hc84_464] at HI
       exact absurd (List.cons.inj HI).2 (own_splne _ _ _ _)
      ·
       refine g_icmpY (pc' := 112) W462.here hx (hb hby dc700) rfl (feq hc84_464).2 ?_
       refine g_iincV (i + 1).toInt32 (pc' := 115) (Ls' := #[.val (.ref a), .val (.ref b417), .val (.int 0), .val (.int 0), .val (.int sj.toInt32), .val (.int (i + 1).toInt32), .val (.int ci)]) W462.here hx (hb hby dc696) (own_succ i) rfl rfl rfl ?_
       refine g_goto (pc' := 18) W462.here hx (hb hby dc697) rfl ?_
       exact ih (i + 1) (by omega) _ _ false false sj _ d t0 u0 t1 u1 (One.val rfl) W462 E_ FM_ FD_ FS_ S0_ VD_ SS0 SS1 (by omega) (by rw [own_dropc hci, own_s4a hc64_463 hc84_464, own_snocd hst hci] at HI; exact HI)
    ·
     show Gets p.tables e below (Post s Z consts_1 ({ frames := 6, cells := 8, slots := 67, locals := 116 } : Room) h0 [] (fun v h => ∃ (al d t0 u0 t1 u1 t2 u2 : Nat), v = some (.ref al) ∧ Exa Z h al "java/util/ArrayList" ∧ Fld Z h al "java/util/ArrayList" "elementData" "[Ljava/lang/Object;" (.ref d) ∧ Fld Z h al "java/util/ArrayList" "size" "I" (.int 3) ∧ AryR Z h d "java/lang/Object" [(.ref t0), (.ref t1), (.ref t2), .null, .null, .null, .null, .null, .null, .null] ∧ SL Z h t0 u0 f0 ∧ SL Z h t1 u1 f1 ∧ SL Z h t2 u2 f2)) TL (mkF m 18 #[.val (.ref a), .val (.ref b417), .val (.int 0), .val (.int 1), .val (.int sj.toInt32), .val (.int i.toInt32), o6] [])
     refine g_iload (pc' := 20) WL.here hx (hb hby dc667) rfl rfl ?_
     refine g_aloadN (pc' := 21) WL.here hx (hb hby dc668) rfl rfl rfl ?_
     refine w_virtualp (pc' := 24) (st := [(.int i.toInt32)]) (y := n_6) (z := n_6) (a := a) WL hx [] (M_ hw w_61) (M_ hw w_62) (nfS (z := n_6) (M_ hw w_64)) (M_ hw w_64) (M_ hw w_63) (M_ hw w_14) (M_ hw w_65) (by decide) (c_length l Z a0 hw hE cc fm a b cs  hL WL.old G S0_ ) ES0_ (by rw [hml]; rfl) (lenOf pd_15 rfl) rfl (hb hby dc669) (B_ rfl) (B_ rfl) rfl rfl (B_ rfl) (B_ rfl) rfl fun T465 W465 => ?_
     refine g_icmpN (pc' := 27) W465.here hx (hb hby dc670) rfl (tlt (show i.toInt32 < cs.length.toInt32 from (own_ltn hi2 hlen))).2.1 ?_
     refine g_aloadN (pc' := 28) W465.here hx (hb hby dc679) rfl rfl rfl ?_
     refine g_iload (pc' := 30) W465.here hx (hb hby dc680) rfl rfl ?_
     refine w_virtualp (pc' := 33) (st := []) (y := n_11) (z := n_11) (a := a) W465 hx [(.int i.toInt32)] (M_ hw w_177) (M_ hw w_178) (nfS (z := n_11) (M_ hw w_180)) (M_ hw w_180) (M_ hw w_179) (M_ hw w_14) (M_ hw w_181) (by decide) (c_charAt l Z a0 hw hE cc fm a b cs i.toInt32 ci hL W465.old G S0_ (own_nneg (by omega)) (own_ltn hi2 hlen) (by rw [i32_nat (by omega)]; exact hci)) ES0_ (by rw [hml]; rfl) (lenOf pd_10 rfl) rfl (hb hby dc681) (B_ rfl) (B_ rfl) rfl rfl (B_ rfl) (B_ rfl) rfl fun T466 W466 => ?_
     refine g_istore (pc' := 35) (Ls' := #[.val (.ref a), .val (.ref b417), .val (.int 0), .val (.int 1), .val (.int sj.toInt32), .val (.int i.toInt32), .val (.int ci)]) W466.here hx (hb hby dc682) (XS.store1 (o := o6) rfl ho6 rfl) rfl ?_
     refine g_iloadN (pc' := 36) W466.here hx (hb hby dc683) rfl rfl ?_
     refine g_ifN (pc' := 39) W466.here hx (hb hby dc684) rfl (feq (show ¬ ((1 : Int32) = (0 : Int32)) from (by decide))).1 ?_
     refine g_iconst (0 : Int32) (pc' := 40) W466.here hx (hb hby dc703) rfl rfl ?_
     refine g_istoreN (pc' := 41) (Ls' := #[.val (.ref a), .val (.ref b417), .val (.int 0), .val (.int 0), .val (.int sj.toInt32), .val (.int i.toInt32), .val (.int ci)]) W466.here hx (hb hby dc704) rfl rfl ?_
     refine g_goto (pc' := 112) W466.here hx (hb hby dc705) rfl ?_
     refine g_iincV (i + 1).toInt32 (pc' := 115) (Ls' := #[.val (.ref a), .val (.ref b417), .val (.int 0), .val (.int 0), .val (.int sj.toInt32), .val (.int (i + 1).toInt32), .val (.int ci)]) W466.here hx (hb hby dc696) (own_succ i) rfl rfl rfl ?_
     refine g_goto (pc' := 18) W466.here hx (hb hby dc697) rfl ?_
     exact ih (i + 1) (by omega) _ _ false false sj _ d t0 u0 t1 u1 (One.val rfl) W466 E_ FM_ FD_ FS_ S0_ VD_ SS0 SS1 (by omega) (by rw [own_dropc hci, own_s1, own_snocd hst hci] at HI; exact HI)
   ·
    cases be
    ·
     show Gets p.tables e below (Post s Z consts_1 ({ frames := 6, cells := 8, slots := 67, locals := 116 } : Room) h0 [] (fun v h => ∃ (al d t0 u0 t1 u1 t2 u2 : Nat), v = some (.ref al) ∧ Exa Z h al "java/util/ArrayList" ∧ Fld Z h al "java/util/ArrayList" "elementData" "[Ljava/lang/Object;" (.ref d) ∧ Fld Z h al "java/util/ArrayList" "size" "I" (.int 3) ∧ AryR Z h d "java/lang/Object" [(.ref t0), (.ref t1), (.ref t2), .null, .null, .null, .null, .null, .null, .null] ∧ SL Z h t0 u0 f0 ∧ SL Z h t1 u1 f1 ∧ SL Z h t2 u2 f2)) TL (mkF m 18 #[.val (.ref a), .val (.ref b417), .val (.int 1), .val (.int 0), .val (.int sj.toInt32), .val (.int i.toInt32), o6] [])
     refine g_iload (pc' := 20) WL.here hx (hb hby dc667) rfl rfl ?_
     refine g_aloadN (pc' := 21) WL.here hx (hb hby dc668) rfl rfl rfl ?_
     refine w_virtualp (pc' := 24) (st := [(.int i.toInt32)]) (y := n_6) (z := n_6) (a := a) WL hx [] (M_ hw w_61) (M_ hw w_62) (nfS (z := n_6) (M_ hw w_64)) (M_ hw w_64) (M_ hw w_63) (M_ hw w_14) (M_ hw w_65) (by decide) (c_length l Z a0 hw hE cc fm a b cs  hL WL.old G S0_ ) ES0_ (by rw [hml]; rfl) (lenOf pd_15 rfl) rfl (hb hby dc669) (B_ rfl) (B_ rfl) rfl rfl (B_ rfl) (B_ rfl) rfl fun T467 W467 => ?_
     refine g_icmpN (pc' := 27) W467.here hx (hb hby dc670) rfl (tlt (show i.toInt32 < cs.length.toInt32 from (own_ltn hi2 hlen))).2.1 ?_
     refine g_aloadN (pc' := 28) W467.here hx (hb hby dc679) rfl rfl rfl ?_
     refine g_iload (pc' := 30) W467.here hx (hb hby dc680) rfl rfl ?_
     refine w_virtualp (pc' := 33) (st := []) (y := n_11) (z := n_11) (a := a) W467 hx [(.int i.toInt32)] (M_ hw w_177) (M_ hw w_178) (nfS (z := n_11) (M_ hw w_180)) (M_ hw w_180) (M_ hw w_179) (M_ hw w_14) (M_ hw w_181) (by decide) (c_charAt l Z a0 hw hE cc fm a b cs i.toInt32 ci hL W467.old G S0_ (own_nneg (by omega)) (own_ltn hi2 hlen) (by rw [i32_nat (by omega)]; exact hci)) ES0_ (by rw [hml]; rfl) (lenOf pd_10 rfl) rfl (hb hby dc681) (B_ rfl) (B_ rfl) rfl rfl (B_ rfl) (B_ rfl) rfl fun T468 W468 => ?_
     refine g_istore (pc' := 35) (Ls' := #[.val (.ref a), .val (.ref b417), .val (.int 1), .val (.int 0), .val (.int sj.toInt32), .val (.int i.toInt32), .val (.int ci)]) W468.here hx (hb hby dc682) (XS.store1 (o := o6) rfl ho6 rfl) rfl ?_
     refine g_iloadN (pc' := 36) W468.here hx (hb hby dc683) rfl rfl ?_
     refine g_ifY (pc' := 44) W468.here hx (hb hby dc684) rfl (teq (show (0 : Int32) = (0 : Int32) from (by decide))).1 ?_
     refine g_iloadN (pc' := 45) W468.here hx (hb hby dc685) rfl rfl ?_
     refine g_ifN (pc' := 48) W468.here hx (hb hby dc686) rfl (feq (show ¬ ((1 : Int32) = (0 : Int32)) from (by decide))).1 ?_
     refine g_iload (pc' := 50) W468.here hx (hb hby dc706) rfl rfl ?_
     refine g_bipush (92 : Int32) (pc' := 52) W468.here hx (hb hby dc707) rfl rfl ?_
     by_cases hc52_469 : ci = (92 : Int32)
     ·
      refine g_icmpN (pc' := 55) W468.here hx (hb hby dc708) rfl (teq hc52_469).2 ?_
      refine g_iconst (1 : Int32) (pc' := 56) W468.here hx (hb hby dc709) rfl rfl ?_
      refine g_istoreN (pc' := 57) (Ls' := #[.val (.ref a), .val (.ref b417), .val (.int 1), .val (.int 1), .val (.int sj.toInt32), .val (.int i.toInt32), .val (.int ci)]) W468.here hx (hb hby dc710) rfl rfl ?_
      refine g_goto (pc' := 112) W468.here hx (hb hby dc711) rfl ?_
      refine g_iincV (i + 1).toInt32 (pc' := 115) (Ls' := #[.val (.ref a), .val (.ref b417), .val (.int 1), .val (.int 1), .val (.int sj.toInt32), .val (.int (i + 1).toInt32), .val (.int ci)]) W468.here hx (hb hby dc696) (own_succ i) rfl rfl rfl ?_
      refine g_goto (pc' := 18) W468.here hx (hb hby dc697) rfl ?_
      exact ih (i + 1) (by omega) _ _ true true sj _ d t0 u0 t1 u1 (One.val rfl) W468 E_ FM_ FD_ FS_ S0_ VD_ SS0 SS1 (by omega) (by rw [own_dropc hci, own_s2 hc52_469, own_snocd hst hci] at HI; exact HI)
     ·
      refine g_icmpY (pc' := 60) W468.here hx (hb hby dc708) rfl (feq hc52_469).2 ?_
      refine g_iload (pc' := 62) W468.here hx (hb hby dc687) rfl rfl ?_
      refine g_bipush (34 : Int32) (pc' := 64) W468.here hx (hb hby dc688) rfl rfl ?_
      by_cases hc64_470 : ci = (34 : Int32)
      ·
       refine g_icmpN (pc' := 67) W468.here hx (hb hby dc689) rfl (teq hc64_470).2 ?_
       refine g_iloadN (pc' := 68) W468.here hx (hb hby dc690) rfl rfl ?_
       refine g_ifY (pc' := 75) W468.here hx (hb hby dc691) rfl (feq (show ¬ ((1 : Int32) = (0 : Int32)) from (by decide))).2 ?_
       refine g_iconst (0 : Int32) (pc' := 76) W468.here hx (hb hby dc712) rfl rfl ?_
       refine g_istoreN (pc' := 77) (Ls' := #[.val (.ref a), .val (.ref b417), .val (.int 0), .val (.int 0), .val (.int sj.toInt32), .val (.int i.toInt32), .val (.int ci)]) W468.here hx (hb hby dc694) rfl rfl ?_
       refine g_goto (pc' := 112) W468.here hx (hb hby dc695) rfl ?_
       refine g_iincV (i + 1).toInt32 (pc' := 115) (Ls' := #[.val (.ref a), .val (.ref b417), .val (.int 0), .val (.int 0), .val (.int sj.toInt32), .val (.int (i + 1).toInt32), .val (.int ci)]) W468.here hx (hb hby dc696) (own_succ i) rfl rfl rfl ?_
       refine g_goto (pc' := 18) W468.here hx (hb hby dc697) rfl ?_
       exact ih (i + 1) (by omega) _ _ false false sj _ d t0 u0 t1 u1 (One.val rfl) W468 E_ FM_ FD_ FS_ S0_ VD_ SS0 SS1 (by omega) (by rw [own_dropc hci, own_s3b hc64_470, own_snocd hst hci] at HI; exact HI)
      ·
       refine g_icmpY (pc' := 80) W468.here hx (hb hby dc689) rfl (feq hc64_470).2 ?_
       refine g_iload (pc' := 82) W468.here hx (hb hby dc698) rfl rfl ?_
       refine g_bipush (44 : Int32) (pc' := 84) W468.here hx (hb hby dc699) rfl rfl ?_
       by_cases hc84_471 : ci = (44 : Int32)
       ·
        refine g_icmpN (pc' := 87) W468.here hx (hb hby dc700) rfl (teq hc84_471).2 ?_
        refine g_iloadN (pc' := 88) W468.here hx (hb hby dc701) rfl rfl ?_
        refine g_ifY (pc' := 112) W468.here hx (hb hby dc702) rfl (feq (show ¬ ((1 : Int32) = (0 : Int32)) from (by decide))).2 ?_
        refine g_iincV (i + 1).toInt32 (pc' := 115) (Ls' := #[.val (.ref a), .val (.ref b417), .val (.int 1), .val (.int 0), .val (.int sj.toInt32), .val (.int (i + 1).toInt32), .val (.int ci)]) W468.here hx (hb hby dc696) (own_succ i) rfl rfl rfl ?_
        refine g_goto (pc' := 18) W468.here hx (hb hby dc697) rfl ?_
        exact ih (i + 1) (by omega) _ _ true false sj _ d t0 u0 t1 u1 (One.val rfl) W468 E_ FM_ FD_ FS_ S0_ VD_ SS0 SS1 (by omega) (by rw [own_dropc hci, own_s4b hc52_469 hc64_470, own_snocd hst hci] at HI; exact HI)
       ·
        refine g_icmpY (pc' := 112) W468.here hx (hb hby dc700) rfl (feq hc84_471).2 ?_
        refine g_iincV (i + 1).toInt32 (pc' := 115) (Ls' := #[.val (.ref a), .val (.ref b417), .val (.int 1), .val (.int 0), .val (.int sj.toInt32), .val (.int (i + 1).toInt32), .val (.int ci)]) W468.here hx (hb hby dc696) (own_succ i) rfl rfl rfl ?_
        refine g_goto (pc' := 18) W468.here hx (hb hby dc697) rfl ?_
        exact ih (i + 1) (by omega) _ _ true false sj _ d t0 u0 t1 u1 (One.val rfl) W468 E_ FM_ FD_ FS_ S0_ VD_ SS0 SS1 (by omega) (by rw [own_dropc hci, own_s4b hc52_469 hc64_470, own_snocd hst hci] at HI; exact HI)
    ·
     show Gets p.tables e below (Post s Z consts_1 ({ frames := 6, cells := 8, slots := 67, locals := 116 } : Room) h0 [] (fun v h => ∃ (al d t0 u0 t1 u1 t2 u2 : Nat), v = some (.ref al) ∧ Exa Z h al "java/util/ArrayList" ∧ Fld Z h al "java/util/ArrayList" "elementData" "[Ljava/lang/Object;" (.ref d) ∧ Fld Z h al "java/util/ArrayList" "size" "I" (.int 3) ∧ AryR Z h d "java/lang/Object" [(.ref t0), (.ref t1), (.ref t2), .null, .null, .null, .null, .null, .null, .null] ∧ SL Z h t0 u0 f0 ∧ SL Z h t1 u1 f1 ∧ SL Z h t2 u2 f2)) TL (mkF m 18 #[.val (.ref a), .val (.ref b417), .val (.int 1), .val (.int 1), .val (.int sj.toInt32), .val (.int i.toInt32), o6] [])
     refine g_iload (pc' := 20) WL.here hx (hb hby dc667) rfl rfl ?_
     refine g_aloadN (pc' := 21) WL.here hx (hb hby dc668) rfl rfl rfl ?_
     refine w_virtualp (pc' := 24) (st := [(.int i.toInt32)]) (y := n_6) (z := n_6) (a := a) WL hx [] (M_ hw w_61) (M_ hw w_62) (nfS (z := n_6) (M_ hw w_64)) (M_ hw w_64) (M_ hw w_63) (M_ hw w_14) (M_ hw w_65) (by decide) (c_length l Z a0 hw hE cc fm a b cs  hL WL.old G S0_ ) ES0_ (by rw [hml]; rfl) (lenOf pd_15 rfl) rfl (hb hby dc669) (B_ rfl) (B_ rfl) rfl rfl (B_ rfl) (B_ rfl) rfl fun T472 W472 => ?_
     refine g_icmpN (pc' := 27) W472.here hx (hb hby dc670) rfl (tlt (show i.toInt32 < cs.length.toInt32 from (own_ltn hi2 hlen))).2.1 ?_
     refine g_aloadN (pc' := 28) W472.here hx (hb hby dc679) rfl rfl rfl ?_
     refine g_iload (pc' := 30) W472.here hx (hb hby dc680) rfl rfl ?_
     refine w_virtualp (pc' := 33) (st := []) (y := n_11) (z := n_11) (a := a) W472 hx [(.int i.toInt32)] (M_ hw w_177) (M_ hw w_178) (nfS (z := n_11) (M_ hw w_180)) (M_ hw w_180) (M_ hw w_179) (M_ hw w_14) (M_ hw w_181) (by decide) (c_charAt l Z a0 hw hE cc fm a b cs i.toInt32 ci hL W472.old G S0_ (own_nneg (by omega)) (own_ltn hi2 hlen) (by rw [i32_nat (by omega)]; exact hci)) ES0_ (by rw [hml]; rfl) (lenOf pd_10 rfl) rfl (hb hby dc681) (B_ rfl) (B_ rfl) rfl rfl (B_ rfl) (B_ rfl) rfl fun T473 W473 => ?_
     refine g_istore (pc' := 35) (Ls' := #[.val (.ref a), .val (.ref b417), .val (.int 1), .val (.int 1), .val (.int sj.toInt32), .val (.int i.toInt32), .val (.int ci)]) W473.here hx (hb hby dc682) (XS.store1 (o := o6) rfl ho6 rfl) rfl ?_
     refine g_iloadN (pc' := 36) W473.here hx (hb hby dc683) rfl rfl ?_
     refine g_ifN (pc' := 39) W473.here hx (hb hby dc684) rfl (feq (show ¬ ((1 : Int32) = (0 : Int32)) from (by decide))).1 ?_
     refine g_iconst (0 : Int32) (pc' := 40) W473.here hx (hb hby dc703) rfl rfl ?_
     refine g_istoreN (pc' := 41) (Ls' := #[.val (.ref a), .val (.ref b417), .val (.int 1), .val (.int 0), .val (.int sj.toInt32), .val (.int i.toInt32), .val (.int ci)]) W473.here hx (hb hby dc704) rfl rfl ?_
     refine g_goto (pc' := 112) W473.here hx (hb hby dc705) rfl ?_
     refine g_iincV (i + 1).toInt32 (pc' := 115) (Ls' := #[.val (.ref a), .val (.ref b417), .val (.int 1), .val (.int 0), .val (.int sj.toInt32), .val (.int (i + 1).toInt32), .val (.int ci)]) W473.here hx (hb hby dc696) (own_succ i) rfl rfl rfl ?_
     refine g_goto (pc' := 18) W473.here hx (hb hby dc697) rfl ?_
     exact ih (i + 1) (by omega) _ _ true false sj _ d t0 u0 t1 u1 (One.val rfl) W473 E_ FM_ FD_ FS_ S0_ VD_ SS0 SS1 (by omega) (by rw [own_dropc hci, own_s1, own_snocd hst hci] at HI; exact HI)
 have LV1 : ∀ (k i : Nat), i + k = cs.length → ∀ (TL : State) (hL : Heap) (bq be : Bool) (sj : Nat) (o6 : Slot) (d t0 u0 : Nat), One o6 → Wk p l e ({ frames := 6, cells := 8, slots := 67, locals := 116 } : Room) s m #[(.ref a)] below meth c Z consts_1 "com/example/despatch/despatch/http/HeaderList" [] [d, b417] TL hL 4 31 → Exa Z hL b417 "java/util/ArrayList" → Fld Z hL b417 "java/util/AbstractList" "modCount" "I" (.int 1) → Fld Z hL b417 "java/util/ArrayList" "elementData" "[Ljava/lang/Object;" (.ref d) → Fld Z hL b417 "java/util/ArrayList" "size" "I" (.int 1) → SL Z hL a b cs → AryR Z hL d "java/lang/Object" [(.ref t0), .null, .null, .null, .null, .null, .null, .null, .null, .null] → SL Z hL t0 u0 f0 → sj ≤ i → spl bq be ((cs.drop sj).take (i - sj)) (cs.drop i) = [f1, f2] → Gets p.tables e below (Post s Z consts_1 ({ frames := 6, cells := 8, slots := 67, locals := 116 } : Room) h0 [] (fun v h => ∃ (al d t0 u0 t1 u1 t2 u2 : Nat), v = some (.ref al) ∧ Exa Z h al "java/util/ArrayList" ∧ Fld Z h al "java/util/ArrayList" "elementData" "[Ljava/lang/Object;" (.ref d) ∧ Fld Z h al "java/util/ArrayList" "size" "I" (.int 3) ∧ AryR Z h d "java/lang/Object" [(.ref t0), (.ref t1), (.ref t2), .null, .null, .null, .null, .null, .null, .null] ∧ SL Z h t0 u0 f0 ∧ SL Z h t1 u1 f1 ∧ SL Z h t2 u2 f2)) TL (mkF m 18 #[.val (.ref a), .val (.ref b417), .val (.int (bi bq)), .val (.int (bi be)), .val (.int sj.toInt32), .val (.int i.toInt32), o6] []) := by
  intro k
  induction k with
  | zero =>
   intro i hi TL hL bq be sj o6 d t0 u0 ho6 WL E_ FM_ FD_ FS_ S0_ VD_ SS0 hst HI
   rw [show cs.drop i = [] from List.drop_of_length_le (by omega)] at HI
   simp [spl] at HI
  | succ k ih =>
   intro i hi TL hL bq be sj o6 d t0 u0 ho6 WL E_ FM_ FD_ FS_ S0_ VD_ SS0 hst HI
   have lt_b417 : b417 < hL.size := E_.lt
   have hzal : Z.heap.size ≤ b417 := WL.zle (List.mem_of_getElem? (i := 1) rfl)
   have ES0_ := S0_.1
   have lt_a : a < hL.size := S0_.lt
   have lt_b : b < hL.size := S0_.ltb
   have ESS0 := SS0.1
   have lt_t0 : t0 < hL.size := SS0.lt
   have lt_u0 : u0 < hL.size := SS0.ltb
   have lt_d : d < hL.size := VD_.lt
   have hzd : Z.heap.size ≤ d := WL.zle (List.mem_of_getElem? (i := 0) rfl)
   have nq_al_d : b417 ≠ d := own_neobj E_ (M_ hw w_38) VD_.ary
   have nq474 : b417 ≠ a := Jvm.RoadKit.ne_exa E_ S0_.1 (by decide)
   have nq475 : b417 ≠ b := own_neobj E_ (M_ hw w_38) S0_.2.2.2.1
   have nq476 : a ≠ d := own_neobj S0_.1 (M_ hw w_13) VD_.ary
   have nq477 : b ≠ d := own_neary S0_.2.2.2.1 VD_.ary (by decide)
   have nq478 : b417 ≠ t0 := Jvm.RoadKit.ne_exa E_ SS0.1 (by decide)
   have nq479 : b417 ≠ u0 := own_neobj E_ (M_ hw w_38) SS0.2.2.2.1
   have nq480 : t0 ≠ d := own_neobj SS0.1 (M_ hw w_13) VD_.ary
   have nq481 : u0 ≠ d := own_neary SS0.2.2.2.1 VD_.ary (by decide)
   have hi2 : i < cs.length := by omega
   obtain ⟨ci, hci⟩ : ∃ z, cs[i]? = some z := ⟨_, List.getElem?_eq_getElem hi2⟩
   cases bq
   ·
    cases be
    ·
     show Gets p.tables e below (Post s Z consts_1 ({ frames := 6, cells := 8, slots := 67, locals := 116 } : Room) h0 [] (fun v h => ∃ (al d t0 u0 t1 u1 t2 u2 : Nat), v = some (.ref al) ∧ Exa Z h al "java/util/ArrayList" ∧ Fld Z h al "java/util/ArrayList" "elementData" "[Ljava/lang/Object;" (.ref d) ∧ Fld Z h al "java/util/ArrayList" "size" "I" (.int 3) ∧ AryR Z h d "java/lang/Object" [(.ref t0), (.ref t1), (.ref t2), .null, .null, .null, .null, .null, .null, .null] ∧ SL Z h t0 u0 f0 ∧ SL Z h t1 u1 f1 ∧ SL Z h t2 u2 f2)) TL (mkF m 18 #[.val (.ref a), .val (.ref b417), .val (.int 0), .val (.int 0), .val (.int sj.toInt32), .val (.int i.toInt32), o6] [])
     refine g_iload (pc' := 20) WL.here hx (hb hby dc667) rfl rfl ?_
     refine g_aloadN (pc' := 21) WL.here hx (hb hby dc668) rfl rfl rfl ?_
     refine w_virtualp (pc' := 24) (st := [(.int i.toInt32)]) (y := n_6) (z := n_6) (a := a) WL hx [] (M_ hw w_61) (M_ hw w_62) (nfS (z := n_6) (M_ hw w_64)) (M_ hw w_64) (M_ hw w_63) (M_ hw w_14) (M_ hw w_65) (by decide) (c_length l Z a0 hw hE cc fm a b cs  hL WL.old G S0_ ) ES0_ (by rw [hml]; rfl) (lenOf pd_15 rfl) rfl (hb hby dc669) (B_ rfl) (B_ rfl) rfl rfl (B_ rfl) (B_ rfl) rfl fun T482 W482 => ?_
     refine g_icmpN (pc' := 27) W482.here hx (hb hby dc670) rfl (tlt (show i.toInt32 < cs.length.toInt32 from (own_ltn hi2 hlen))).2.1 ?_
     refine g_aloadN (pc' := 28) W482.here hx (hb hby dc679) rfl rfl rfl ?_
     refine g_iload (pc' := 30) W482.here hx (hb hby dc680) rfl rfl ?_
     refine w_virtualp (pc' := 33) (st := []) (y := n_11) (z := n_11) (a := a) W482 hx [(.int i.toInt32)] (M_ hw w_177) (M_ hw w_178) (nfS (z := n_11) (M_ hw w_180)) (M_ hw w_180) (M_ hw w_179) (M_ hw w_14) (M_ hw w_181) (by decide) (c_charAt l Z a0 hw hE cc fm a b cs i.toInt32 ci hL W482.old G S0_ (own_nneg (by omega)) (own_ltn hi2 hlen) (by rw [i32_nat (by omega)]; exact hci)) ES0_ (by rw [hml]; rfl) (lenOf pd_10 rfl) rfl (hb hby dc681) (B_ rfl) (B_ rfl) rfl rfl (B_ rfl) (B_ rfl) rfl fun T483 W483 => ?_
     refine g_istore (pc' := 35) (Ls' := #[.val (.ref a), .val (.ref b417), .val (.int 0), .val (.int 0), .val (.int sj.toInt32), .val (.int i.toInt32), .val (.int ci)]) W483.here hx (hb hby dc682) (XS.store1 (o := o6) rfl ho6 rfl) rfl ?_
     refine g_iloadN (pc' := 36) W483.here hx (hb hby dc683) rfl rfl ?_
     refine g_ifY (pc' := 44) W483.here hx (hb hby dc684) rfl (teq (show (0 : Int32) = (0 : Int32) from (by decide))).1 ?_
     refine g_iloadN (pc' := 45) W483.here hx (hb hby dc685) rfl rfl ?_
     refine g_ifY (pc' := 60) W483.here hx (hb hby dc686) rfl (teq (show (0 : Int32) = (0 : Int32) from (by decide))).1 ?_
     refine g_iload (pc' := 62) W483.here hx (hb hby dc687) rfl rfl ?_
     refine g_bipush (34 : Int32) (pc' := 64) W483.here hx (hb hby dc688) rfl rfl ?_
     by_cases hc64_484 : ci = (34 : Int32)
     ·
      refine g_icmpN (pc' := 67) W483.here hx (hb hby dc689) rfl (teq hc64_484).2 ?_
      refine g_iloadN (pc' := 68) W483.here hx (hb hby dc690) rfl rfl ?_
      refine g_ifN (pc' := 71) W483.here hx (hb hby dc691) rfl (teq (show (0 : Int32) = (0 : Int32) from (by decide))).2 ?_
      refine g_iconst (1 : Int32) (pc' := 72) W483.here hx (hb hby dc692) rfl rfl ?_
      refine g_goto (pc' := 76) W483.here hx (hb hby dc693) rfl ?_
      refine g_istoreN (pc' := 77) (Ls' := #[.val (.ref a), .val (.ref b417), .val (.int 1), .val (.int 0), .val (.int sj.toInt32), .val (.int i.toInt32), .val (.int ci)]) W483.here hx (hb hby dc694) rfl rfl ?_
      refine g_goto (pc' := 112) W483.here hx (hb hby dc695) rfl ?_
      refine g_iincV (i + 1).toInt32 (pc' := 115) (Ls' := #[.val (.ref a), .val (.ref b417), .val (.int 1), .val (.int 0), .val (.int sj.toInt32), .val (.int (i + 1).toInt32), .val (.int ci)]) W483.here hx (hb hby dc696) (own_succ i) rfl rfl rfl ?_
      refine g_goto (pc' := 18) W483.here hx (hb hby dc697) rfl ?_
      exact ih (i + 1) (by omega) _ _ true false sj _ d t0 u0 (One.val rfl) W483 E_ FM_ FD_ FS_ S0_ VD_ SS0 (by omega) (by rw [own_dropc hci, own_s3a hc64_484, own_snocd hst hci] at HI; exact HI)
     ·
      refine g_icmpY (pc' := 80) W483.here hx (hb hby dc689) rfl (feq hc64_484).2 ?_
      refine g_iload (pc' := 82) W483.here hx (hb hby dc698) rfl rfl ?_
      refine g_bipush (44 : Int32) (pc' := 84) W483.here hx (hb hby dc699) rfl rfl ?_
      by_cases hc84_485 : ci = (44 : Int32)
      ·
       refine g_icmpN (pc' := 87) W483.here hx (hb hby dc700) rfl (teq hc84_485).2 ?_
       refine g_iloadN (pc' := 88) W483.here hx (hb hby dc701) rfl rfl ?_
       refine g_ifN (pc' := 91) W483.here hx (hb hby dc702) rfl (teq (show (0 : Int32) = (0 : Int32) from (by decide))).2 ?_
       have HI5 := HI
       rw [own_dropc hci, own_s5 hc84_485] at HI5
       obtain ⟨HE, HT⟩ := List.cons.inj HI5
       refine g_aloadN (pc' := 92) W483.here hx (hb hby dc713) rfl rfl rfl ?_
       refine g_aloadN (pc' := 93) W483.here hx (hb hby dc714) rfl rfl rfl ?_
       refine g_iload (pc' := 95) W483.here hx (hb hby dc715) rfl rfl ?_
       refine g_iload (pc' := 97) W483.here hx (hb hby dc716) rfl rfl ?_
       refine w_virtual (pc' := 100) (st := [(.ref b417)]) (y := n_26) (z := n_26) (a := a) W483 hx [(.int sj.toInt32), (.int i.toInt32)] (M_ hw w_197) (M_ hw w_79) (nfS (z := n_26) (M_ hw w_81)) (M_ hw w_81) (M_ hw w_80) (M_ hw w_14) (M_ hw w_82) (by decide) (c_sub2 l Z a0 hw hE cc fm a b cs sj i hL W483.old G S0_ (by omega) (by omega) hcl) ES0_ all0 (by rw [hml]; rfl) (lenOf pd_18 rfl) rfl (hb hby dc717) (B_ rfl) (B_ rfl) (B_ rfl) (B_ rfl) rfl fun v486 T486 h486 W486 K486 Q486 => ?_
       have z_K486 : hL.size ≤ h486.size := K486.1
       obtain ⟨t_487, u_487, rfl, SX487⟩ := Q486
       have SY487 : SL Z h486 t_487 u_487 f1 := by rw [← HE]; exact SX487
       have ESY487 := SY487.1
       have lt_t_487 : t_487 < h486.size := SY487.lt
       have lt_u_487 : u_487 < h486.size := SY487.ltb
       have c488 := (VD_.keep K486 nin0)
       have c489 := (E_.keep K486)
       have nq490 : b417 ≠ t_487 := Jvm.RoadKit.ne_exa c489 SY487.1 (by decide)
       have nq491 : b417 ≠ u_487 := own_neobj c489 (M_ hw w_38) SY487.2.2.2.1
       have nq492 : t_487 ≠ d := own_neobj SY487.1 (M_ hw w_13) c488.ary
       have nq493 : u_487 ≠ d := own_neary SY487.2.2.2.1 c488.ary (by decide)
       have c494 := (FM_.keep K486 nin0)
       have c495 := (FD_.keep K486 nin0)
       have c496 := (FS_.keep K486 nin0)
       refine w_iface (pc' := 105) (st := []) (y := n_41) (z := n_35) (a := b417) W486 hx [(.ref t_487)] (M_ hw w_91) (M_ hw w_92) (M_ hw w_93) (M_ hw w_94) (M_ hw w_95) (M_ hw w_96) (M_ hw w_97) (M_ hw w_98) (M_ hw w_39) (M_ hw w_99) (by decide) (c_add_1 l Z a0 hw hE b417 d t_487 t0 h486 W486.old hzal c489 c494 c495 c496 hzd c488 nq_al_d ESY487) c489 (allS (List.mem_of_getElem? (i := 1) rfl) (allS (List.mem_of_getElem? (i := 0) rfl) all0)) (by rw [hml]; rfl) (lenOf pd_25 rfl) rfl (hb hby dc718) (B_ rfl) (B_ rfl) (B_ rfl) (B_ rfl) rfl fun v497 T497 h497 W497 K497 Q497 => ?_
       have z_K497 : h486.size ≤ h497.size := K497.1
       obtain ⟨rfl, E498, FM498, FD498, FS498, VD498⟩ := Q497
       refine g_pop (pc' := 106) W497.here hx (hb hby dc719) rfl rfl ?_
       refine g_iload (pc' := 108) W497.here hx (hb hby dc720) rfl rfl ?_
       refine g_iconst (1 : Int32) (pc' := 109) W497.here hx (hb hby dc721) rfl rfl ?_
       refine g_iadd (pc' := 110) W497.here hx (hb hby dc722) rfl ?_
       refine g_name (w := .int (i + 1).toInt32) (congrArg Value.int (own_succ i).symm) ?_
       refine g_istore (pc' := 112) (Ls' := #[.val (.ref a), .val (.ref b417), .val (.int 0), .val (.int 0), .val (.int (i + 1).toInt32), .val (.int i.toInt32), .val (.int ci)]) W497.here hx (hb hby dc723) rfl rfl ?_
       refine g_iincV (i + 1).toInt32 (pc' := 115) (Ls' := #[.val (.ref a), .val (.ref b417), .val (.int 0), .val (.int 0), .val (.int (i + 1).toInt32), .val (.int (i + 1).toInt32), .val (.int ci)]) W497.here hx (hb hby dc696) (own_succ i) rfl rfl rfl ?_
       refine g_goto (pc' := 18) W497.here hx (hb hby dc697) rfl ?_
       have c499 := ((S0_.keep K486 nin0 nin0).keep K497 (ninS (Ne.symm nq474) (ninS nq476 nin0)) (ninS (Ne.symm nq475) (ninS nq477 nin0)))
       have c500 := ((SS0.keep K486 nin0 nin0).keep K497 (ninS (Ne.symm nq478) (ninS nq480 nin0)) (ninS (Ne.symm nq479) (ninS nq481 nin0)))
       have c501 := (SY487.keep K497 (ninS (Ne.symm nq490) (ninS nq492 nin0)) (ninS (Ne.symm nq491) (ninS nq493 nin0)))
       exact LV2 k (i + 1) (by omega) _ _ false false (i + 1) _ d t0 u0 t_487 u_487 (One.val rfl) W497 E498 FM498 FD498 FS498 c499 VD498 c500 c501 (by omega) (by rw [Nat.sub_self, List.take_zero]; exact HT)
      ·
       refine g_icmpY (pc' := 112) W483.here hx (hb hby dc700) rfl (feq hc84_485).2 ?_
       refine g_iincV (i + 1).toInt32 (pc' := 115) (Ls' := #[.val (.ref a), .val (.ref b417), .val (.int 0), .val (.int 0), .val (.int sj.toInt32), .val (.int (i + 1).toInt32), .val (.int ci)]) W483.here hx (hb hby dc696) (own_succ i) rfl rfl rfl ?_
       refine g_goto (pc' := 18) W483.here hx (hb hby dc697) rfl ?_
       exact ih (i + 1) (by omega) _ _ false false sj _ d t0 u0 (One.val rfl) W483 E_ FM_ FD_ FS_ S0_ VD_ SS0 (by omega) (by rw [own_dropc hci, own_s4a hc64_484 hc84_485, own_snocd hst hci] at HI; exact HI)
    ·
     show Gets p.tables e below (Post s Z consts_1 ({ frames := 6, cells := 8, slots := 67, locals := 116 } : Room) h0 [] (fun v h => ∃ (al d t0 u0 t1 u1 t2 u2 : Nat), v = some (.ref al) ∧ Exa Z h al "java/util/ArrayList" ∧ Fld Z h al "java/util/ArrayList" "elementData" "[Ljava/lang/Object;" (.ref d) ∧ Fld Z h al "java/util/ArrayList" "size" "I" (.int 3) ∧ AryR Z h d "java/lang/Object" [(.ref t0), (.ref t1), (.ref t2), .null, .null, .null, .null, .null, .null, .null] ∧ SL Z h t0 u0 f0 ∧ SL Z h t1 u1 f1 ∧ SL Z h t2 u2 f2)) TL (mkF m 18 #[.val (.ref a), .val (.ref b417), .val (.int 0), .val (.int 1), .val (.int sj.toInt32), .val (.int i.toInt32), o6] [])
     refine g_iload (pc' := 20) WL.here hx (hb hby dc667) rfl rfl ?_
     refine g_aloadN (pc' := 21) WL.here hx (hb hby dc668) rfl rfl rfl ?_
     refine w_virtualp (pc' := 24) (st := [(.int i.toInt32)]) (y := n_6) (z := n_6) (a := a) WL hx [] (M_ hw w_61) (M_ hw w_62) (nfS (z := n_6) (M_ hw w_64)) (M_ hw w_64) (M_ hw w_63) (M_ hw w_14) (M_ hw w_65) (by decide) (c_length l Z a0 hw hE cc fm a b cs  hL WL.old G S0_ ) ES0_ (by rw [hml]; rfl) (lenOf pd_15 rfl) rfl (hb hby dc669) (B_ rfl) (B_ rfl) rfl rfl (B_ rfl) (B_ rfl) rfl fun T502 W502 => ?_
     refine g_icmpN (pc' := 27) W502.here hx (hb hby dc670) rfl (tlt (show i.toInt32 < cs.length.toInt32 from (own_ltn hi2 hlen))).2.1 ?_
     refine g_aloadN (pc' := 28) W502.here hx (hb hby dc679) rfl rfl rfl ?_
     refine g_iload (pc' := 30) W502.here hx (hb hby dc680) rfl rfl ?_
     refine w_virtualp (pc' := 33) (st := []) (y := n_11) (z := n_11) (a := a) W502 hx [(.int i.toInt32)] (M_ hw w_177) (M_ hw w_178) (nfS (z := n_11) (M_ hw w_180)) (M_ hw w_180) (M_ hw w_179) (M_ hw w_14) (M_ hw w_181) (by decide) (c_charAt l Z a0 hw hE cc fm a b cs i.toInt32 ci hL W502.old G S0_ (own_nneg (by omega)) (own_ltn hi2 hlen) (by rw [i32_nat (by omega)]; exact hci)) ES0_ (by rw [hml]; rfl) (lenOf pd_10 rfl) rfl (hb hby dc681) (B_ rfl) (B_ rfl) rfl rfl (B_ rfl) (B_ rfl) rfl fun T503 W503 => ?_
     refine g_istore (pc' := 35) (Ls' := #[.val (.ref a), .val (.ref b417), .val (.int 0), .val (.int 1), .val (.int sj.toInt32), .val (.int i.toInt32), .val (.int ci)]) W503.here hx (hb hby dc682) (XS.store1 (o := o6) rfl ho6 rfl) rfl ?_
     refine g_iloadN (pc' := 36) W503.here hx (hb hby dc683) rfl rfl ?_
     refine g_ifN (pc' := 39) W503.here hx (hb hby dc684) rfl (feq (show ¬ ((1 : Int32) = (0 : Int32)) from (by decide))).1 ?_
     refine g_iconst (0 : Int32) (pc' := 40) W503.here hx (hb hby dc703) rfl rfl ?_
     refine g_istoreN (pc' := 41) (Ls' := #[.val (.ref a), .val (.ref b417), .val (.int 0), .val (.int 0), .val (.int sj.toInt32), .val (.int i.toInt32), .val (.int ci)]) W503.here hx (hb hby dc704) rfl rfl ?_
     refine g_goto (pc' := 112) W503.here hx (hb hby dc705) rfl ?_
     refine g_iincV (i + 1).toInt32 (pc' := 115) (Ls' := #[.val (.ref a), .val (.ref b417), .val (.int 0), .val (.int 0), .val (.int sj.toInt32), .val (.int (i + 1).toInt32), .val (.int ci)]) W503.here hx (hb hby dc696) (own_succ i) rfl rfl rfl ?_
     refine g_goto (pc' := 18) W503.here hx (hb hby dc697) rfl ?_
     exact ih (i + 1) (by omega) _ _ false false sj _ d t0 u0 (One.val rfl) W503 E_ FM_ FD_ FS_ S0_ VD_ SS0 (by omega) (by rw [own_dropc hci, own_s1, own_snocd hst hci] at HI; exact HI)
   ·
    cases be
    ·
     show Gets p.tables e below (Post s Z consts_1 ({ frames := 6, cells := 8, slots := 67, locals := 116 } : Room) h0 [] (fun v h => ∃ (al d t0 u0 t1 u1 t2 u2 : Nat), v = some (.ref al) ∧ Exa Z h al "java/util/ArrayList" ∧ Fld Z h al "java/util/ArrayList" "elementData" "[Ljava/lang/Object;" (.ref d) ∧ Fld Z h al "java/util/ArrayList" "size" "I" (.int 3) ∧ AryR Z h d "java/lang/Object" [(.ref t0), (.ref t1), (.ref t2), .null, .null, .null, .null, .null, .null, .null] ∧ SL Z h t0 u0 f0 ∧ SL Z h t1 u1 f1 ∧ SL Z h t2 u2 f2)) TL (mkF m 18 #[.val (.ref a), .val (.ref b417), .val (.int 1), .val (.int 0), .val (.int sj.toInt32), .val (.int i.toInt32), o6] [])
     refine g_iload (pc' := 20) WL.here hx (hb hby dc667) rfl rfl ?_
     refine g_aloadN (pc' := 21) WL.here hx (hb hby dc668) rfl rfl rfl ?_
     refine w_virtualp (pc' := 24) (st := [(.int i.toInt32)]) (y := n_6) (z := n_6) (a := a) WL hx [] (M_ hw w_61) (M_ hw w_62) (nfS (z := n_6) (M_ hw w_64)) (M_ hw w_64) (M_ hw w_63) (M_ hw w_14) (M_ hw w_65) (by decide) (c_length l Z a0 hw hE cc fm a b cs  hL WL.old G S0_ ) ES0_ (by rw [hml]; rfl) (lenOf pd_15 rfl) rfl (hb hby dc669) (B_ rfl) (B_ rfl) rfl rfl (B_ rfl) (B_ rfl) rfl fun T504 W504 => ?_
     refine g_icmpN (pc' := 27) W504.here hx (hb hby dc670) rfl (tlt (show i.toInt32 < cs.length.toInt32 from (own_ltn hi2 hlen))).2.1 ?_
     refine g_aloadN (pc' := 28) W504.here hx (hb hby dc679) rfl rfl rfl ?_
     refine g_iload (pc' := 30) W504.here hx (hb hby dc680) rfl rfl ?_
     refine w_virtualp (pc' := 33) (st := []) (y := n_11) (z := n_11) (a := a) W504 hx [(.int i.toInt32)] (M_ hw w_177) (M_ hw w_178) (nfS (z := n_11) (M_ hw w_180)) (M_ hw w_180) (M_ hw w_179) (M_ hw w_14) (M_ hw w_181) (by decide) (c_charAt l Z a0 hw hE cc fm a b cs i.toInt32 ci hL W504.old G S0_ (own_nneg (by omega)) (own_ltn hi2 hlen) (by rw [i32_nat (by omega)]; exact hci)) ES0_ (by rw [hml]; rfl) (lenOf pd_10 rfl) rfl (hb hby dc681) (B_ rfl) (B_ rfl) rfl rfl (B_ rfl) (B_ rfl) rfl fun T505 W505 => ?_
     refine g_istore (pc' := 35) (Ls' := #[.val (.ref a), .val (.ref b417), .val (.int 1), .val (.int 0), .val (.int sj.toInt32), .val (.int i.toInt32), .val (.int ci)]) W505.here hx (hb hby dc682) (XS.store1 (o := o6) rfl ho6 rfl) rfl ?_
     refine g_iloadN (pc' := 36) W505.here hx (hb hby dc683) rfl rfl ?_
     refine g_ifY (pc' := 44) W505.here hx (hb hby dc684) rfl (teq (show (0 : Int32) = (0 : Int32) from (by decide))).1 ?_
     refine g_iloadN (pc' := 45) W505.here hx (hb hby dc685) rfl rfl ?_
     refine g_ifN (pc' := 48) W505.here hx (hb hby dc686) rfl (feq (show ¬ ((1 : Int32) = (0 : Int32)) from (by decide))).1 ?_
     refine g_iload (pc' := 50) W505.here hx (hb hby dc706) rfl rfl ?_
     refine g_bipush (92 : Int32) (pc' := 52) W505.here hx (hb hby dc707) rfl rfl ?_
     by_cases hc52_506 : ci = (92 : Int32)
     ·
      refine g_icmpN (pc' := 55) W505.here hx (hb hby dc708) rfl (teq hc52_506).2 ?_
      refine g_iconst (1 : Int32) (pc' := 56) W505.here hx (hb hby dc709) rfl rfl ?_
      refine g_istoreN (pc' := 57) (Ls' := #[.val (.ref a), .val (.ref b417), .val (.int 1), .val (.int 1), .val (.int sj.toInt32), .val (.int i.toInt32), .val (.int ci)]) W505.here hx (hb hby dc710) rfl rfl ?_
      refine g_goto (pc' := 112) W505.here hx (hb hby dc711) rfl ?_
      refine g_iincV (i + 1).toInt32 (pc' := 115) (Ls' := #[.val (.ref a), .val (.ref b417), .val (.int 1), .val (.int 1), .val (.int sj.toInt32), .val (.int (i + 1).toInt32), .val (.int ci)]) W505.here hx (hb hby dc696) (own_succ i) rfl rfl rfl ?_
      refine g_goto (pc' := 18) W505.here hx (hb hby dc697) rfl ?_
      exact ih (i + 1) (by omega) _ _ true true sj _ d t0 u0 (One.val rfl) W505 E_ FM_ FD_ FS_ S0_ VD_ SS0 (by omega) (by rw [own_dropc hci, own_s2 hc52_506, own_snocd hst hci] at HI; exact HI)
     ·
      refine g_icmpY (pc' := 60) W505.here hx (hb hby dc708) rfl (feq hc52_506).2 ?_
      refine g_iload (pc' := 62) W505.here hx (hb hby dc687) rfl rfl ?_
      refine g_bipush (34 : Int32) (pc' := 64) W505.here hx (hb hby dc688) rfl rfl ?_
      by_cases hc64_507 : ci = (34 : Int32)
      ·
       refine g_icmpN (pc' := 67) W505.here hx (hb hby dc689) rfl (teq hc64_507).2 ?_
       refine g_iloadN (pc' := 68) W505.here hx (hb hby dc690) rfl rfl ?_
       refine g_ifY (pc' := 75) W505.here hx (hb hby dc691) rfl (feq (show ¬ ((1 : Int32) = (0 : Int32)) from (by decide))).2 ?_
       refine g_iconst (0 : Int32) (pc' := 76) W505.here hx (hb hby dc712) rfl rfl ?_
       refine g_istoreN (pc' := 77) (Ls' := #[.val (.ref a), .val (.ref b417), .val (.int 0), .val (.int 0), .val (.int sj.toInt32), .val (.int i.toInt32), .val (.int ci)]) W505.here hx (hb hby dc694) rfl rfl ?_
       refine g_goto (pc' := 112) W505.here hx (hb hby dc695) rfl ?_
       refine g_iincV (i + 1).toInt32 (pc' := 115) (Ls' := #[.val (.ref a), .val (.ref b417), .val (.int 0), .val (.int 0), .val (.int sj.toInt32), .val (.int (i + 1).toInt32), .val (.int ci)]) W505.here hx (hb hby dc696) (own_succ i) rfl rfl rfl ?_
       refine g_goto (pc' := 18) W505.here hx (hb hby dc697) rfl ?_
       exact ih (i + 1) (by omega) _ _ false false sj _ d t0 u0 (One.val rfl) W505 E_ FM_ FD_ FS_ S0_ VD_ SS0 (by omega) (by rw [own_dropc hci, own_s3b hc64_507, own_snocd hst hci] at HI; exact HI)
      ·
       refine g_icmpY (pc' := 80) W505.here hx (hb hby dc689) rfl (feq hc64_507).2 ?_
       refine g_iload (pc' := 82) W505.here hx (hb hby dc698) rfl rfl ?_
       refine g_bipush (44 : Int32) (pc' := 84) W505.here hx (hb hby dc699) rfl rfl ?_
       by_cases hc84_508 : ci = (44 : Int32)
       ·
        refine g_icmpN (pc' := 87) W505.here hx (hb hby dc700) rfl (teq hc84_508).2 ?_
        refine g_iloadN (pc' := 88) W505.here hx (hb hby dc701) rfl rfl ?_
        refine g_ifY (pc' := 112) W505.here hx (hb hby dc702) rfl (feq (show ¬ ((1 : Int32) = (0 : Int32)) from (by decide))).2 ?_
        refine g_iincV (i + 1).toInt32 (pc' := 115) (Ls' := #[.val (.ref a), .val (.ref b417), .val (.int 1), .val (.int 0), .val (.int sj.toInt32), .val (.int (i + 1).toInt32), .val (.int ci)]) W505.here hx (hb hby dc696) (own_succ i) rfl rfl rfl ?_
        refine g_goto (pc' := 18) W505.here hx (hb hby dc697) rfl ?_
        exact ih (i + 1) (by omega) _ _ true false sj _ d t0 u0 (One.val rfl) W505 E_ FM_ FD_ FS_ S0_ VD_ SS0 (by omega) (by rw [own_dropc hci, own_s4b hc52_506 hc64_507, own_snocd hst hci] at HI; exact HI)
       ·
        refine g_icmpY (pc' := 112) W505.here hx (hb hby dc700) rfl (feq hc84_508).2 ?_
        refine g_iincV (i + 1).toInt32 (pc' := 115) (Ls' := #[.val (.ref a), .val (.ref b417), .val (.int 1), .val (.int 0), .val (.int sj.toInt32), .val (.int (i + 1).toInt32), .val (.int ci)]) W505.here hx (hb hby dc696) (own_succ i) rfl rfl rfl ?_
        refine g_goto (pc' := 18) W505.here hx (hb hby dc697) rfl ?_
        exact ih (i + 1) (by omega) _ _ true false sj _ d t0 u0 (One.val rfl) W505 E_ FM_ FD_ FS_ S0_ VD_ SS0 (by omega) (by rw [own_dropc hci, own_s4b hc52_506 hc64_507, own_snocd hst hci] at HI; exact HI)
    ·
     show Gets p.tables e below (Post s Z consts_1 ({ frames := 6, cells := 8, slots := 67, locals := 116 } : Room) h0 [] (fun v h => ∃ (al d t0 u0 t1 u1 t2 u2 : Nat), v = some (.ref al) ∧ Exa Z h al "java/util/ArrayList" ∧ Fld Z h al "java/util/ArrayList" "elementData" "[Ljava/lang/Object;" (.ref d) ∧ Fld Z h al "java/util/ArrayList" "size" "I" (.int 3) ∧ AryR Z h d "java/lang/Object" [(.ref t0), (.ref t1), (.ref t2), .null, .null, .null, .null, .null, .null, .null] ∧ SL Z h t0 u0 f0 ∧ SL Z h t1 u1 f1 ∧ SL Z h t2 u2 f2)) TL (mkF m 18 #[.val (.ref a), .val (.ref b417), .val (.int 1), .val (.int 1), .val (.int sj.toInt32), .val (.int i.toInt32), o6] [])
     refine g_iload (pc' := 20) WL.here hx (hb hby dc667) rfl rfl ?_
     refine g_aloadN (pc' := 21) WL.here hx (hb hby dc668) rfl rfl rfl ?_
     refine w_virtualp (pc' := 24) (st := [(.int i.toInt32)]) (y := n_6) (z := n_6) (a := a) WL hx [] (M_ hw w_61) (M_ hw w_62) (nfS (z := n_6) (M_ hw w_64)) (M_ hw w_64) (M_ hw w_63) (M_ hw w_14) (M_ hw w_65) (by decide) (c_length l Z a0 hw hE cc fm a b cs  hL WL.old G S0_ ) ES0_ (by rw [hml]; rfl) (lenOf pd_15 rfl) rfl (hb hby dc669) (B_ rfl) (B_ rfl) rfl rfl (B_ rfl) (B_ rfl) rfl fun T509 W509 => ?_
     refine g_icmpN (pc' := 27) W509.here hx (hb hby dc670) rfl (tlt (show i.toInt32 < cs.length.toInt32 from (own_ltn hi2 hlen))).2.1 ?_
     refine g_aloadN (pc' := 28) W509.here hx (hb hby dc679) rfl rfl rfl ?_
     refine g_iload (pc' := 30) W509.here hx (hb hby dc680) rfl rfl ?_
     refine w_virtualp (pc' := 33) (st := []) (y := n_11) (z := n_11) (a := a) W509 hx [(.int i.toInt32)] (M_ hw w_177) (M_ hw w_178) (nfS (z := n_11) (M_ hw w_180)) (M_ hw w_180) (M_ hw w_179) (M_ hw w_14) (M_ hw w_181) (by decide) (c_charAt l Z a0 hw hE cc fm a b cs i.toInt32 ci hL W509.old G S0_ (own_nneg (by omega)) (own_ltn hi2 hlen) (by rw [i32_nat (by omega)]; exact hci)) ES0_ (by rw [hml]; rfl) (lenOf pd_10 rfl) rfl (hb hby dc681) (B_ rfl) (B_ rfl) rfl rfl (B_ rfl) (B_ rfl) rfl fun T510 W510 => ?_
     refine g_istore (pc' := 35) (Ls' := #[.val (.ref a), .val (.ref b417), .val (.int 1), .val (.int 1), .val (.int sj.toInt32), .val (.int i.toInt32), .val (.int ci)]) W510.here hx (hb hby dc682) (XS.store1 (o := o6) rfl ho6 rfl) rfl ?_
     refine g_iloadN (pc' := 36) W510.here hx (hb hby dc683) rfl rfl ?_
     refine g_ifN (pc' := 39) W510.here hx (hb hby dc684) rfl (feq (show ¬ ((1 : Int32) = (0 : Int32)) from (by decide))).1 ?_
     refine g_iconst (0 : Int32) (pc' := 40) W510.here hx (hb hby dc703) rfl rfl ?_
     refine g_istoreN (pc' := 41) (Ls' := #[.val (.ref a), .val (.ref b417), .val (.int 1), .val (.int 0), .val (.int sj.toInt32), .val (.int i.toInt32), .val (.int ci)]) W510.here hx (hb hby dc704) rfl rfl ?_
     refine g_goto (pc' := 112) W510.here hx (hb hby dc705) rfl ?_
     refine g_iincV (i + 1).toInt32 (pc' := 115) (Ls' := #[.val (.ref a), .val (.ref b417), .val (.int 1), .val (.int 0), .val (.int sj.toInt32), .val (.int (i + 1).toInt32), .val (.int ci)]) W510.here hx (hb hby dc696) (own_succ i) rfl rfl rfl ?_
     refine g_goto (pc' := 18) W510.here hx (hb hby dc697) rfl ?_
     exact ih (i + 1) (by omega) _ _ true false sj _ d t0 u0 (One.val rfl) W510 E_ FM_ FD_ FS_ S0_ VD_ SS0 (by omega) (by rw [own_dropc hci, own_s1, own_snocd hst hci] at HI; exact HI)
 have LV0 : ∀ (k i : Nat), i + k = cs.length → ∀ (TL : State) (hL : Heap) (bq be : Bool) (sj : Nat) (o6 : Slot), One o6 → Wk p l e ({ frames := 6, cells := 8, slots := 67, locals := 116 } : Room) s m #[(.ref a)] below meth c Z consts_1 "com/example/despatch/despatch/http/HeaderList" [] [b417] TL hL 1 3 → Exa Z hL b417 "java/util/ArrayList" → Fld Z hL b417 "java/util/AbstractList" "modCount" "I" (.int 0) → Fld Z hL b417 "java/util/ArrayList" "elementData" "[Ljava/lang/Object;" (.ref oD) → Fld Z hL b417 "java/util/ArrayList" "size" "I" (.int 0) → SL Z hL a b cs → sj ≤ i → spl bq be ((cs.drop sj).take (i - sj)) (cs.drop i) = [f0, f1, f2] → Gets p.tables e below (Post s Z consts_1 ({ frames := 6, cells := 8, slots := 67, locals := 116 } : Room) h0 [] (fun v h => ∃ (al d t0 u0 t1 u1 t2 u2 : Nat), v = some (.ref al) ∧ Exa Z h al "java/util/ArrayList" ∧ Fld Z h al "java/util/ArrayList" "elementData" "[Ljava/lang/Object;" (.ref d) ∧ Fld Z h al "java/util/ArrayList" "size" "I" (.int 3) ∧ AryR Z h d "java/lang/Object" [(.ref t0), (.ref t1), (.ref t2), .null, .null, .null, .null, .null, .null, .null] ∧ SL Z h t0 u0 f0 ∧ SL Z h t1 u1 f1 ∧ SL Z h t2 u2 f2)) TL (mkF m 18 #[.val (.ref a), .val (.ref b417), .val (.int (bi bq)), .val (.int (bi be)), .val (.int sj.toInt32), .val (.int i.toInt32), o6] []) := by
  intro k
  induction k with
  | zero =>
   intro i hi TL hL bq be sj o6  ho6 WL E_ FM_ FD_ FS_ S0_   hst HI
   rw [show cs.drop i = [] from List.drop_of_length_le (by omega)] at HI
   simp [spl] at HI
  | succ k ih =>
   intro i hi TL hL bq be sj o6  ho6 WL E_ FM_ FD_ FS_ S0_   hst HI
   have lt_b417 : b417 < hL.size := E_.lt
   have hzal : Z.heap.size ≤ b417 := WL.zle (List.mem_of_getElem? (i := 0) rfl)
   have ES0_ := S0_.1
   have lt_a : a < hL.size := S0_.lt
   have lt_b : b < hL.size := S0_.ltb
   have nq511 : b417 ≠ a := Jvm.RoadKit.ne_exa E_ S0_.1 (by decide)
   have nq512 : b417 ≠ b := own_neobj E_ (M_ hw w_38) S0_.2.2.2.1
   have hi2 : i < cs.length := by omega
   obtain ⟨ci, hci⟩ : ∃ z, cs[i]? = some z := ⟨_, List.getElem?_eq_getElem hi2⟩
   cases bq
   ·
    cases be
    ·
     show Gets p.tables e below (Post s Z consts_1 ({ frames := 6, cells := 8, slots := 67, locals := 116 } : Room) h0 [] (fun v h => ∃ (al d t0 u0 t1 u1 t2 u2 : Nat), v = some (.ref al) ∧ Exa Z h al "java/util/ArrayList" ∧ Fld Z h al "java/util/ArrayList" "elementData" "[Ljava/lang/Object;" (.ref d) ∧ Fld Z h al "java/util/ArrayList" "size" "I" (.int 3) ∧ AryR Z h d "java/lang/Object" [(.ref t0), (.ref t1), (.ref t2), .null, .null, .null, .null, .null, .null, .null] ∧ SL Z h t0 u0 f0 ∧ SL Z h t1 u1 f1 ∧ SL Z h t2 u2 f2)) TL (mkF m 18 #[.val (.ref a), .val (.ref b417), .val (.int 0), .val (.int 0), .val (.int sj.toInt32), .val (.int i.toInt32), o6] [])
     refine g_iload (pc' := 20) WL.here hx (hb hby dc667) rfl rfl ?_
     refine g_aloadN (pc' := 21) WL.here hx (hb hby dc668) rfl rfl rfl ?_
     refine w_virtualp (pc' := 24) (st := [(.int i.toInt32)]) (y := n_6) (z := n_6) (a := a) WL hx [] (M_ hw w_61) (M_ hw w_62) (nfS (z := n_6) (M_ hw w_64)) (M_ hw w_64) (M_ hw w_63) (M_ hw w_14) (M_ hw w_65) (by decide) (c_length l Z a0 hw hE cc fm a b cs  hL WL.old G S0_ ) ES0_ (by rw [hml]; rfl) (lenOf pd_15 rfl) rfl (hb hby dc669) (B_ rfl) (B_ rfl) rfl rfl (B_ rfl) (B_ rfl) rfl fun T513 W513 => ?_
     refine g_icmpN (pc' := 27) W513.here hx (hb hby dc670) rfl (tlt (show i.toInt32 < cs.length.toInt32 from (own_ltn hi2 hlen))).2.1 ?_
     refine g_aloadN (pc' := 28) W513.here hx (hb hby dc679) rfl rfl rfl ?_
     refine g_iload (pc' := 30) W513.here hx (hb hby dc680) rfl rfl ?_
     refine w_virtualp (pc' := 33) (st := []) (y := n_11) (z := n_11) (a := a) W513 hx [(.int i.toInt32)] (M_ hw w_177) (M_ hw w_178) (nfS (z := n_11) (M_ hw w_180)) (M_ hw w_180) (M_ hw w_179) (M_ hw w_14) (M_ hw w_181) (by decide) (c_charAt l Z a0 hw hE cc fm a b cs i.toInt32 ci hL W513.old G S0_ (own_nneg (by omega)) (own_ltn hi2 hlen) (by rw [i32_nat (by omega)]; exact hci)) ES0_ (by rw [hml]; rfl) (lenOf pd_10 rfl) rfl (hb hby dc681) (B_ rfl) (B_ rfl) rfl rfl (B_ rfl) (B_ rfl) rfl fun T514 W514 => ?_
     refine g_istore (pc' := 35) (Ls' := #[.val (.ref a), .val (.ref b417), .val (.int 0), .val (.int 0), .val (.int sj.toInt32), .val (.int i.toInt32), .val (.int ci)]) W514.here hx (hb hby dc682) (XS.store1 (o := o6) rfl ho6 rfl) rfl ?_
     refine g_iloadN (pc' := 36) W514.here hx (hb hby dc683) rfl rfl ?_
     refine g_ifY (pc' := 44) W514.here hx (hb hby dc684) rfl (teq (show (0 : Int32) = (0 : Int32) from (by decide))).1 ?_
     refine g_iloadN (pc' := 45) W514.here hx (hb hby dc685) rfl rfl ?_
     refine g_ifY (pc' := 60) W514.here hx (hb hby dc686) rfl (teq (show (0 : Int32) = (0 : Int32) from (by decide))).1 ?_
     refine g_iload (pc' := 62) W514.here hx (hb hby dc687) rfl rfl ?_
     refine g_bipush (34 : Int32) (pc' := 64) W514.here hx (hb hby dc688) rfl rfl ?_
     by_cases hc64_515 : ci = (34 : Int32)
     ·
      refine g_icmpN (pc' := 67) W514.here hx (hb hby dc689) rfl (teq hc64_515).2 ?_
      refine g_iloadN (pc' := 68) W514.here hx (hb hby dc690) rfl rfl ?_
      refine g_ifN (pc' := 71) W514.here hx (hb hby dc691) rfl (teq (show (0 : Int32) = (0 : Int32) from (by decide))).2 ?_
      refine g_iconst (1 : Int32) (pc' := 72) W514.here hx (hb hby dc692) rfl rfl ?_
      refine g_goto (pc' := 76) W514.here hx (hb hby dc693) rfl ?_
      refine g_istoreN (pc' := 77) (Ls' := #[.val (.ref a), .val (.ref b417), .val (.int 1), .val (.int 0), .val (.int sj.toInt32), .val (.int i.toInt32), .val (.int ci)]) W514.here hx (hb hby dc694) rfl rfl ?_
      refine g_goto (pc' := 112) W514.here hx (hb hby dc695) rfl ?_
      refine g_iincV (i + 1).toInt32 (pc' := 115) (Ls' := #[.val (.ref a), .val (.ref b417), .val (.int 1), .val (.int 0), .val (.int sj.toInt32), .val (.int (i + 1).toInt32), .val (.int ci)]) W514.here hx (hb hby dc696) (own_succ i) rfl rfl rfl ?_
      refine g_goto (pc' := 18) W514.here hx (hb hby dc697) rfl ?_
      exact ih (i + 1) (by omega) _ _ true false sj _  (One.val rfl) W514 E_ FM_ FD_ FS_ S0_   (by omega) (by rw [own_dropc hci, own_s3a hc64_515, own_snocd hst hci] at HI; exact HI)
     ·
      refine g_icmpY (pc' := 80) W514.here hx (hb hby dc689) rfl (feq hc64_515).2 ?_
      refine g_iload (pc' := 82) W514.here hx (hb hby dc698) rfl rfl ?_
      refine g_bipush (44 : Int32) (pc' := 84) W514.here hx (hb hby dc699) rfl rfl ?_
      by_cases hc84_516 : ci = (44 : Int32)
      ·
       refine g_icmpN (pc' := 87) W514.here hx (hb hby dc700) rfl (teq hc84_516).2 ?_
       refine g_iloadN (pc' := 88) W514.here hx (hb hby dc701) rfl rfl ?_
       refine g_ifN (pc' := 91) W514.here hx (hb hby dc702) rfl (teq (show (0 : Int32) = (0 : Int32) from (by decide))).2 ?_
       have HI5 := HI
       rw [own_dropc hci, own_s5 hc84_516] at HI5
       obtain ⟨HE, HT⟩ := List.cons.inj HI5
       refine g_aloadN (pc' := 92) W514.here hx (hb hby dc713) rfl rfl rfl ?_
       refine g_aloadN (pc' := 93) W514.here hx (hb hby dc714) rfl rfl rfl ?_
       refine g_iload (pc' := 95) W514.here hx (hb hby dc715) rfl rfl ?_
       refine g_iload (pc' := 97) W514.here hx (hb hby dc716) rfl rfl ?_
       refine w_virtual (pc' := 100) (st := [(.ref b417)]) (y := n_26) (z := n_26) (a := a) W514 hx [(.int sj.toInt32), (.int i.toInt32)] (M_ hw w_197) (M_ hw w_79) (nfS (z := n_26) (M_ hw w_81)) (M_ hw w_81) (M_ hw w_80) (M_ hw w_14) (M_ hw w_82) (by decide) (c_sub2 l Z a0 hw hE cc fm a b cs sj i hL W514.old G S0_ (by omega) (by omega) hcl) ES0_ all0 (by rw [hml]; rfl) (lenOf pd_18 rfl) rfl (hb hby dc717) (B_ rfl) (B_ rfl) (B_ rfl) (B_ rfl) rfl fun v517 T517 h517 W517 K517 Q517 => ?_
       have z_K517 : hL.size ≤ h517.size := K517.1
       obtain ⟨t_518, u_518, rfl, SX518⟩ := Q517
       have SY518 : SL Z h517 t_518 u_518 f0 := by rw [← HE]; exact SX518
       have ESY518 := SY518.1
       have lt_t_518 : t_518 < h517.size := SY518.lt
       have lt_u_518 : u_518 < h517.size := SY518.ltb
       have c519 := (E_.keep K517)
       have nq520 : b417 ≠ t_518 := Jvm.RoadKit.ne_exa c519 SY518.1 (by decide)
       have nq521 : b417 ≠ u_518 := own_neobj c519 (M_ hw w_38) SY518.2.2.2.1
       have c522 := (FM_.keep K517 nin0)
       have c523 := (FD_.keep K517 nin0)
       have c524 := (FS_.keep K517 nin0)
       refine w_ifaceF (pc' := 105) (st := []) (y := n_41) (z := n_35) (a := b417) W517 hx [(.ref t_518)] (M_ hw w_91) (M_ hw w_92) (M_ hw w_93) (M_ hw w_94) (M_ hw w_95) (M_ hw w_96) (M_ hw w_97) (M_ hw w_98) (M_ hw w_39) (M_ hw w_99) (by decide) (c_add_0 l Z a0 hw hE b417 oD t_518 h517 W517.old SD VD0 hzal c519 c522 c523 c524 ESY518) c519 (allS (List.mem_of_getElem? (i := 0) rfl) all0) (by rw [hml]; rfl) (lenOf pd_25 rfl) rfl (hb hby dc718) (B_ rfl) (B_ rfl) (B_ rfl) (B_ rfl) rfl fun N525 v525 T525 h525 W525 K525 G525 Q525 => ?_
       have z_K525 : h517.size ≤ h525.size := K525.1
       obtain ⟨d526, rfl, rfl, E527, FM527, FD527, FS527, VD527⟩ := Q525
       have gz528 := (G525 d526 (List.mem_cons_self ..)).1
       have lt_d526 := (G525 d526 (List.mem_cons_self ..)).2
       have ne_b417_d526 : b417 ≠ d526 := by omega
       have ne_a_d526 : a ≠ d526 := by omega
       have ne_b_d526 : b ≠ d526 := by omega
       have ne_t_518_d526 : t_518 ≠ d526 := by omega
       have ne_u_518_d526 : u_518 ≠ d526 := by omega
       refine g_pop (pc' := 106) W525.here hx (hb hby dc719) rfl rfl ?_
       refine g_iload (pc' := 108) W525.here hx (hb hby dc720) rfl rfl ?_
       refine g_iconst (1 : Int32) (pc' := 109) W525.here hx (hb hby dc721) rfl rfl ?_
       refine g_iadd (pc' := 110) W525.here hx (hb hby dc722) rfl ?_
       refine g_name (w := .int (i + 1).toInt32) (congrArg Value.int (own_succ i).symm) ?_
       refine g_istore (pc' := 112) (Ls' := #[.val (.ref a), .val (.ref b417), .val (.int 0), .val (.int 0), .val (.int (i + 1).toInt32), .val (.int i.toInt32), .val (.int ci)]) W525.here hx (hb hby dc723) rfl rfl ?_
       refine g_iincV (i + 1).toInt32 (pc' := 115) (Ls' := #[.val (.ref a), .val (.ref b417), .val (.int 0), .val (.int 0), .val (.int (i + 1).toInt32), .val (.int (i + 1).toInt32), .val (.int ci)]) W525.here hx (hb hby dc696) (own_succ i) rfl rfl rfl ?_
       refine g_goto (pc' := 18) W525.here hx (hb hby dc697) rfl ?_
       have c529 := ((S0_.keep K517 nin0 nin0).keep K525 (ninS (Ne.symm nq511) nin0) (ninS (Ne.symm nq512) nin0))
       have c530 := (SY518.keep K525 (ninS (Ne.symm nq520) nin0) (ninS (Ne.symm nq521) nin0))
       exact LV1 k (i + 1) (by omega) _ _ false false (i + 1) _ d526 t_518 u_518 (One.val rfl) W525 E527 FM527 FD527 FS527 c529 VD527 c530 (by omega) (by rw [Nat.sub_self, List.take_zero]; exact HT)
      ·
       refine g_icmpY (pc' := 112) W514.here hx (hb hby dc700) rfl (feq hc84_516).2 ?_
       refine g_iincV (i + 1).toInt32 (pc' := 115) (Ls' := #[.val (.ref a), .val (.ref b417), .val (.int 0), .val (.int 0), .val (.int sj.toInt32), .val (.int (i + 1).toInt32), .val (.int ci)]) W514.here hx (hb hby dc696) (own_succ i) rfl rfl rfl ?_
       refine g_goto (pc' := 18) W514.here hx (hb hby dc697) rfl ?_
       exact ih (i + 1) (by omega) _ _ false false sj _  (One.val rfl) W514 E_ FM_ FD_ FS_ S0_   (by omega) (by rw [own_dropc hci, own_s4a hc64_515 hc84_516, own_snocd hst hci] at HI; exact HI)
    ·
     show Gets p.tables e below (Post s Z consts_1 ({ frames := 6, cells := 8, slots := 67, locals := 116 } : Room) h0 [] (fun v h => ∃ (al d t0 u0 t1 u1 t2 u2 : Nat), v = some (.ref al) ∧ Exa Z h al "java/util/ArrayList" ∧ Fld Z h al "java/util/ArrayList" "elementData" "[Ljava/lang/Object;" (.ref d) ∧ Fld Z h al "java/util/ArrayList" "size" "I" (.int 3) ∧ AryR Z h d "java/lang/Object" [(.ref t0), (.ref t1), (.ref t2), .null, .null, .null, .null, .null, .null, .null] ∧ SL Z h t0 u0 f0 ∧ SL Z h t1 u1 f1 ∧ SL Z h t2 u2 f2)) TL (mkF m 18 #[.val (.ref a), .val (.ref b417), .val (.int 0), .val (.int 1), .val (.int sj.toInt32), .val (.int i.toInt32), o6] [])
     refine g_iload (pc' := 20) WL.here hx (hb hby dc667) rfl rfl ?_
     refine g_aloadN (pc' := 21) WL.here hx (hb hby dc668) rfl rfl rfl ?_
     refine w_virtualp (pc' := 24) (st := [(.int i.toInt32)]) (y := n_6) (z := n_6) (a := a) WL hx [] (M_ hw w_61) (M_ hw w_62) (nfS (z := n_6) (M_ hw w_64)) (M_ hw w_64) (M_ hw w_63) (M_ hw w_14) (M_ hw w_65) (by decide) (c_length l Z a0 hw hE cc fm a b cs  hL WL.old G S0_ ) ES0_ (by rw [hml]; rfl) (lenOf pd_15 rfl) rfl (hb hby dc669) (B_ rfl) (B_ rfl) rfl rfl (B_ rfl) (B_ rfl) rfl fun T531 W531 => ?_
     refine g_icmpN (pc' := 27) W531.here hx (hb hby dc670) rfl (tlt (show i.toInt32 < cs.length.toInt32 from (own_ltn hi2 hlen))).2.1 ?_
     refine g_aloadN (pc' := 28) W531.here hx (hb hby dc679) rfl rfl rfl ?_
     refine g_iload (pc' := 30) W531.here hx (hb hby dc680) rfl rfl ?_
     refine w_virtualp (pc' := 33) (st := []) (y := n_11) (z := n_11) (a := a) W531 hx [(.int i.toInt32)] (M_ hw w_177) (M_ hw w_178) (nfS (z := n_11) (M_ hw w_180)) (M_ hw w_180) (M_ hw w_179) (M_ hw w_14) (M_ hw w_181) (by decide) (c_charAt l Z a0 hw hE cc fm a b cs i.toInt32 ci hL W531.old G S0_ (own_nneg (by omega)) (own_ltn hi2 hlen) (by rw [i32_nat (by omega)]; exact hci)) ES0_ (by rw [hml]; rfl) (lenOf pd_10 rfl) rfl (hb hby dc681) (B_ rfl) (B_ rfl) rfl rfl (B_ rfl) (B_ rfl) rfl fun T532 W532 => ?_
     refine g_istore (pc' := 35) (Ls' := #[.val (.ref a), .val (.ref b417), .val (.int 0), .val (.int 1), .val (.int sj.toInt32), .val (.int i.toInt32), .val (.int ci)]) W532.here hx (hb hby dc682) (XS.store1 (o := o6) rfl ho6 rfl) rfl ?_
     refine g_iloadN (pc' := 36) W532.here hx (hb hby dc683) rfl rfl ?_
     refine g_ifN (pc' := 39) W532.here hx (hb hby dc684) rfl (feq (show ¬ ((1 : Int32) = (0 : Int32)) from (by decide))).1 ?_
     refine g_iconst (0 : Int32) (pc' := 40) W532.here hx (hb hby dc703) rfl rfl ?_
     refine g_istoreN (pc' := 41) (Ls' := #[.val (.ref a), .val (.ref b417), .val (.int 0), .val (.int 0), .val (.int sj.toInt32), .val (.int i.toInt32), .val (.int ci)]) W532.here hx (hb hby dc704) rfl rfl ?_
     refine g_goto (pc' := 112) W532.here hx (hb hby dc705) rfl ?_
     refine g_iincV (i + 1).toInt32 (pc' := 115) (Ls' := #[.val (.ref a), .val (.ref b417), .val (.int 0), .val (.int 0), .val (.int sj.toInt32), .val (.int (i + 1).toInt32), .val (.int ci)]) W532.here hx (hb hby dc696) (own_succ i) rfl rfl rfl ?_
     refine g_goto (pc' := 18) W532.here hx (hb hby dc697) rfl ?_
     exact ih (i + 1) (by omega) _ _ false false sj _  (One.val rfl) W532 E_ FM_ FD_ FS_ S0_   (by omega) (by rw [own_dropc hci, own_s1, own_snocd hst hci] at HI; exact HI)
   ·
    cases be
    ·
     show Gets p.tables e below (Post s Z consts_1 ({ frames := 6, cells := 8, slots := 67, locals := 116 } : Room) h0 [] (fun v h => ∃ (al d t0 u0 t1 u1 t2 u2 : Nat), v = some (.ref al) ∧ Exa Z h al "java/util/ArrayList" ∧ Fld Z h al "java/util/ArrayList" "elementData" "[Ljava/lang/Object;" (.ref d) ∧ Fld Z h al "java/util/ArrayList" "size" "I" (.int 3) ∧ AryR Z h d "java/lang/Object" [(.ref t0), (.ref t1), (.ref t2), .null, .null, .null, .null, .null, .null, .null] ∧ SL Z h t0 u0 f0 ∧ SL Z h t1 u1 f1 ∧ SL Z h t2 u2 f2)) TL (mkF m 18 #[.val (.ref a), .val (.ref b417), .val (.int 1), .val (.int 0), .val (.int sj.toInt32), .val (.int i.toInt32), o6] [])
     refine g_iload (pc' := 20) WL.here hx (hb hby dc667) rfl rfl ?_
     refine g_aloadN (pc' := 21) WL.here hx (hb hby dc668) rfl rfl rfl ?_
     refine w_virtualp (pc' := 24) (st := [(.int i.toInt32)]) (y := n_6) (z := n_6) (a := a) WL hx [] (M_ hw w_61) (M_ hw w_62) (nfS (z := n_6) (M_ hw w_64)) (M_ hw w_64) (M_ hw w_63) (M_ hw w_14) (M_ hw w_65) (by decide) (c_length l Z a0 hw hE cc fm a b cs  hL WL.old G S0_ ) ES0_ (by rw [hml]; rfl) (lenOf pd_15 rfl) rfl (hb hby dc669) (B_ rfl) (B_ rfl) rfl rfl (B_ rfl) (B_ rfl) rfl fun T533 W533 => ?_
     refine g_icmpN (pc' := 27) W533.here hx (hb hby dc670) rfl (tlt (show i.toInt32 < cs.length.toInt32 from (own_ltn hi2 hlen))).2.1 ?_
     refine g_aloadN (pc' := 28) W533.here hx (hb hby dc679) rfl rfl rfl ?_
     refine g_iload (pc' := 30) W533.here hx (hb hby dc680) rfl rfl ?_
     refine w_virtualp (pc' := 33) (st := []) (y := n_11) (z := n_11) (a := a) W533 hx [(.int i.toInt32)] (M_ hw w_177) (M_ hw w_178) (nfS (z := n_11) (M_ hw w_180)) (M_ hw w_180) (M_ hw w_179) (M_ hw w_14) (M_ hw w_181) (by decide) (c_charAt l Z a0 hw hE cc fm a b cs i.toInt32 ci hL W533.old G S0_ (own_nneg (by omega)) (own_ltn hi2 hlen) (by rw [i32_nat (by omega)]; exact hci)) ES0_ (by rw [hml]; rfl) (lenOf pd_10 rfl) rfl (hb hby dc681) (B_ rfl) (B_ rfl) rfl rfl (B_ rfl) (B_ rfl) rfl fun T534 W534 => ?_
     refine g_istore (pc' := 35) (Ls' := #[.val (.ref a), .val (.ref b417), .val (.int 1), .val (.int 0), .val (.int sj.toInt32), .val (.int i.toInt32), .val (.int ci)]) W534.here hx (hb hby dc682) (XS.store1 (o := o6) rfl ho6 rfl) rfl ?_
     refine g_iloadN (pc' := 36) W534.here hx (hb hby dc683) rfl rfl ?_
     refine g_ifY (pc' := 44) W534.here hx (hb hby dc684) rfl (teq (show (0 : Int32) = (0 : Int32) from (by decide))).1 ?_
     refine g_iloadN (pc' := 45) W534.here hx (hb hby dc685) rfl rfl ?_
     refine g_ifN (pc' := 48) W534.here hx (hb hby dc686) rfl (feq (show ¬ ((1 : Int32) = (0 : Int32)) from (by decide))).1 ?_
     refine g_iload (pc' := 50) W534.here hx (hb hby dc706) rfl rfl ?_
     refine g_bipush (92 : Int32) (pc' := 52) W534.here hx (hb hby dc707) rfl rfl ?_
     by_cases hc52_535 : ci = (92 : Int32)
     ·
      refine g_icmpN (pc' := 55) W534.here hx (hb hby dc708) rfl (teq hc52_535).2 ?_
      refine g_iconst (1 : Int32) (pc' := 56) W534.here hx (hb hby dc709) rfl rfl ?_
      refine g_istoreN (pc' := 57) (Ls' := #[.val (.ref a), .val (.ref b417), .val (.int 1), .val (.int 1), .val (.int sj.toInt32), .val (.int i.toInt32), .val (.int ci)]) W534.here hx (hb hby dc710) rfl rfl ?_
      refine g_goto (pc' := 112) W534.here hx (hb hby dc711) rfl ?_
      refine g_iincV (i + 1).toInt32 (pc' := 115) (Ls' := #[.val (.ref a), .val (.ref b417), .val (.int 1), .val (.int 1), .val (.int sj.toInt32), .val (.int (i + 1).toInt32), .val (.int ci)]) W534.here hx (hb hby dc696) (own_succ i) rfl rfl rfl ?_
      refine g_goto (pc' := 18) W534.here hx (hb hby dc697) rfl ?_
      exact ih (i + 1) (by omega) _ _ true true sj _  (One.val rfl) W534 E_ FM_ FD_ FS_ S0_   (by omega) (by rw [own_dropc hci, own_s2 hc52_535, own_snocd hst hci] at HI; exact HI)
     ·
      refine g_icmpY (pc' := 60) W534.here hx (hb hby dc708) rfl (feq hc52_535).2 ?_
      refine g_iload (pc' := 62) W534.here hx (hb hby dc687) rfl rfl ?_
      refine g_bipush (34 : Int32) (pc' := 64) W534.here hx (hb hby dc688) rfl rfl ?_
      by_cases hc64_536 : ci = (34 : Int32)
      ·
       refine g_icmpN (pc' := 67) W534.here hx (hb hby dc689) rfl (teq hc64_536).2 ?_
       refine g_iloadN (pc' := 68) W534.here hx (hb hby dc690) rfl rfl ?_
       refine g_ifY (pc' := 75) W534.here hx (hb hby dc691) rfl (feq (show ¬ ((1 : Int32) = (0 : Int32)) from (by decide))).2 ?_
       refine g_iconst (0 : Int32) (pc' := 76) W534.here hx (hb hby dc712) rfl rfl ?_
       refine g_istoreN (pc' := 77) (Ls' := #[.val (.ref a), .val (.ref b417), .val (.int 0), .val (.int 0), .val (.int sj.toInt32), .val (.int i.toInt32), .val (.int ci)]) W534.here hx (hb hby dc694) rfl rfl ?_
       refine g_goto (pc' := 112) W534.here hx (hb hby dc695) rfl ?_
       refine g_iincV (i + 1).toInt32 (pc' := 115) (Ls' := #[.val (.ref a), .val (.ref b417), .val (.int 0), .val (.int 0), .val (.int sj.toInt32), .val (.int (i + 1).toInt32), .val (.int ci)]) W534.here hx (hb hby dc696) (own_succ i) rfl rfl rfl ?_
       refine g_goto (pc' := 18) W534.here hx (hb hby dc697) rfl ?_
       exact ih (i + 1) (by omega) _ _ false false sj _  (One.val rfl) W534 E_ FM_ FD_ FS_ S0_   (by omega) (by rw [own_dropc hci, own_s3b hc64_536, own_snocd hst hci] at HI; exact HI)
      ·
       refine g_icmpY (pc' := 80) W534.here hx (hb hby dc689) rfl (feq hc64_536).2 ?_
       refine g_iload (pc' := 82) W534.here hx (hb hby dc698) rfl rfl ?_
       refine g_bipush (44 : Int32) (pc' := 84) W534.here hx (hb hby dc699) rfl rfl ?_
       by_cases hc84_537 : ci = (44 : Int32)
       ·
        refine g_icmpN (pc' := 87) W534.here hx (hb hby dc700) rfl (teq hc84_537).2 ?_
        refine g_iloadN (pc' := 88) W534.here hx (hb hby dc701) rfl rfl ?_
        refine g_ifY (pc' := 112) W534.here hx (hb hby dc702) rfl (feq (show ¬ ((1 : Int32) = (0 : Int32)) from (by decide))).2 ?_
        refine g_iincV (i + 1).toInt32 (pc' := 115) (Ls' := #[.val (.ref a), .val (.ref b417), .val (.int 1), .val (.int 0), .val (.int sj.toInt32), .val (.int (i + 1).toInt32), .val (.int ci)]) W534.here hx (hb hby dc696) (own_succ i) rfl rfl rfl ?_
        refine g_goto (pc' := 18) W534.here hx (hb hby dc697) rfl ?_
        exact ih (i + 1) (by omega) _ _ true false sj _  (One.val rfl) W534 E_ FM_ FD_ FS_ S0_   (by omega) (by rw [own_dropc hci, own_s4b hc52_535 hc64_536, own_snocd hst hci] at HI; exact HI)
       ·
        refine g_icmpY (pc' := 112) W534.here hx (hb hby dc700) rfl (feq hc84_537).2 ?_
        refine g_iincV (i + 1).toInt32 (pc' := 115) (Ls' := #[.val (.ref a), .val (.ref b417), .val (.int 1), .val (.int 0), .val (.int sj.toInt32), .val (.int (i + 1).toInt32), .val (.int ci)]) W534.here hx (hb hby dc696) (own_succ i) rfl rfl rfl ?_
        refine g_goto (pc' := 18) W534.here hx (hb hby dc697) rfl ?_
        exact ih (i + 1) (by omega) _ _ true false sj _  (One.val rfl) W534 E_ FM_ FD_ FS_ S0_   (by omega) (by rw [own_dropc hci, own_s4b hc52_535 hc64_536, own_snocd hst hci] at HI; exact HI)
    ·
     show Gets p.tables e below (Post s Z consts_1 ({ frames := 6, cells := 8, slots := 67, locals := 116 } : Room) h0 [] (fun v h => ∃ (al d t0 u0 t1 u1 t2 u2 : Nat), v = some (.ref al) ∧ Exa Z h al "java/util/ArrayList" ∧ Fld Z h al "java/util/ArrayList" "elementData" "[Ljava/lang/Object;" (.ref d) ∧ Fld Z h al "java/util/ArrayList" "size" "I" (.int 3) ∧ AryR Z h d "java/lang/Object" [(.ref t0), (.ref t1), (.ref t2), .null, .null, .null, .null, .null, .null, .null] ∧ SL Z h t0 u0 f0 ∧ SL Z h t1 u1 f1 ∧ SL Z h t2 u2 f2)) TL (mkF m 18 #[.val (.ref a), .val (.ref b417), .val (.int 1), .val (.int 1), .val (.int sj.toInt32), .val (.int i.toInt32), o6] [])
     refine g_iload (pc' := 20) WL.here hx (hb hby dc667) rfl rfl ?_
     refine g_aloadN (pc' := 21) WL.here hx (hb hby dc668) rfl rfl rfl ?_
     refine w_virtualp (pc' := 24) (st := [(.int i.toInt32)]) (y := n_6) (z := n_6) (a := a) WL hx [] (M_ hw w_61) (M_ hw w_62) (nfS (z := n_6) (M_ hw w_64)) (M_ hw w_64) (M_ hw w_63) (M_ hw w_14) (M_ hw w_65) (by decide) (c_length l Z a0 hw hE cc fm a b cs  hL WL.old G S0_ ) ES0_ (by rw [hml]; rfl) (lenOf pd_15 rfl) rfl (hb hby dc669) (B_ rfl) (B_ rfl) rfl rfl (B_ rfl) (B_ rfl) rfl fun T538 W538 => ?_
     refine g_icmpN (pc' := 27) W538.here hx (hb hby dc670) rfl (tlt (show i.toInt32 < cs.length.toInt32 from (own_ltn hi2 hlen))).2.1 ?_
     refine g_aloadN (pc' := 28) W538.here hx (hb hby dc679) rfl rfl rfl ?_
     refine g_iload (pc' := 30) W538.here hx (hb hby dc680) rfl rfl ?_
     refine w_virtualp (pc' := 33) (st := []) (y := n_11) (z := n_11) (a := a) W538 hx [(.int i.toInt32)] (M_ hw w_177) (M_ hw w_178) (nfS (z := n_11) (M_ hw w_180)) (M_ hw w_180) (M_ hw w_179) (M_ hw w_14) (M_ hw w_181) (by decide) (c_charAt l Z a0 hw hE cc fm a b cs i.toInt32 ci hL W538.old G S0_ (own_nneg (by omega)) (own_ltn hi2 hlen) (by rw [i32_nat (by omega)]; exact hci)) ES0_ (by rw [hml]; rfl) (lenOf pd_10 rfl) rfl (hb hby dc681) (B_ rfl) (B_ rfl) rfl rfl (B_ rfl) (B_ rfl) rfl fun T539 W539 => ?_
     refine g_istore (pc' := 35) (Ls' := #[.val (.ref a), .val (.ref b417), .val (.int 1), .val (.int 1), .val (.int sj.toInt32), .val (.int i.toInt32), .val (.int ci)]) W539.here hx (hb hby dc682) (XS.store1 (o := o6) rfl ho6 rfl) rfl ?_
     refine g_iloadN (pc' := 36) W539.here hx (hb hby dc683) rfl rfl ?_
     refine g_ifN (pc' := 39) W539.here hx (hb hby dc684) rfl (feq (show ¬ ((1 : Int32) = (0 : Int32)) from (by decide))).1 ?_
     refine g_iconst (0 : Int32) (pc' := 40) W539.here hx (hb hby dc703) rfl rfl ?_
     refine g_istoreN (pc' := 41) (Ls' := #[.val (.ref a), .val (.ref b417), .val (.int 1), .val (.int 0), .val (.int sj.toInt32), .val (.int i.toInt32), .val (.int ci)]) W539.here hx (hb hby dc704) rfl rfl ?_
     refine g_goto (pc' := 112) W539.here hx (hb hby dc705) rfl ?_
     refine g_iincV (i + 1).toInt32 (pc' := 115) (Ls' := #[.val (.ref a), .val (.ref b417), .val (.int 1), .val (.int 0), .val (.int sj.toInt32), .val (.int (i + 1).toInt32), .val (.int ci)]) W539.here hx (hb hby dc696) (own_succ i) rfl rfl rfl ?_
     refine g_goto (pc' := 18) W539.here hx (hb hby dc697) rfl ?_
     exact ih (i + 1) (by omega) _ _ true false sj _  (One.val rfl) W539 E_ FM_ FD_ FS_ S0_   (by omega) (by rw [own_dropc hci, own_s1, own_snocd hst hci] at HI; exact HI)
 have c540 := ((S0.keep K417 nin0 nin0).keep K418 (ninS ne_a_b417 nin0) (ninS ne_b_b417 nin0))
 exact LV0 cs.length 0 (by omega) _ _ false false 0 _ One.u W418 E419 FM419 FD419 FS419 c540 (Nat.le_refl _) HS
set_option maxRecDepth 65536 in
set_option maxHeartbeats 40000000 in
theorem c_put0 (l : Launch) (Z : State) (a0 : Array Value) (hw : ∀ d ∈ tables_1, d.before a0 Z = true) (hE : EW Z a0 consts_1) (ca ea : Nat) (jo : Int32) (h0 : Heap) (O : Ext Z.heap h0) (VE : Ary Z h0 ea .char []) :
    Con l Z consts_1 n_42 method_7_code 3 (Option.some Jvm.ClassFile.FieldType.int) ({ frames := 0, cells := 0, slots := 0, locals := 0 } : Room) #[(.ref ca), (.int jo), (.ref ea)] h0 [] (pureQ (some (.int jo)) h0) := by
 refine Con.of (a0 := a0) #[.val (.ref ca), .val (.int jo), .val (.ref ea)] (plainFor_of_name pn_4) hE O all0 (fun m => by first | (simp [entryFrame, mkF, argsToLocals, Value.category]; done) | rfl) ?_
 intro p e s m below meth c T0 hx hby hml hnm hret hlk hh W0
 refine g_aloadN (pc' := 1) W0.here hx (hb hby dc724) rfl rfl rfl ?_
 refine w_len (pc' := 2) W0 hx VE (hb hby dc725) rfl ?_
 refine g_name (w := .int (0 : Int32)) rfl ?_
 refine g_iconst (4 : Int32) (pc' := 3) W0.here hx (hb hby dc726) rfl rfl ?_
 refine g_icmpY (pc' := 40) W0.here hx (hb hby dc727) rfl (feq (show ¬ ((0 : Int32) = (4 : Int32)) from (by decide))).2 ?_
 refine g_iloadN (pc' := 41) W0.here hx (hb hby dc728) rfl rfl ?_
 refine w_retI W0 hx hh hlk hret (hb hby dc729) (B_ rfl) (B_ rfl) ?_
 exact ⟨rfl, rfl⟩
theorem own_n3 (x : Int32) : 1 + (x &&& 3) % 3 = 1 ∨ 1 + (x &&& 3) % 3 = 2 ∨ 1 + (x &&& 3) % 3 = 3 := by
  have a := c_mask x 3 2 (by decide) (by decide)
  have b := (c_irem (x &&& 3) 3 3 rfl).1 (by omega)
  have c := c_iadd 1 ((x &&& 3) % 3)
  have r := rng32 (1 + (x &&& 3) % 3)
  have t1 := own_t1
  have k : (1 + (x &&& 3) % 3).toInt = 1 ∨ (1 + (x &&& 3) % 3).toInt = 2 ∨ (1 + (x &&& 3) % 3).toInt = 3 := by omega
  rcases k with k | k | k
  · exact Or.inl (Int32.toInt_inj.mp k)
  · exact Or.inr (Or.inl (Int32.toInt_inj.mp k))
  · exact Or.inr (Or.inr (Int32.toInt_inj.mp k))
theorem own_lap {xs ys : List Int32} (h : ∀ c ∈ xs, 0 ≤ c.toInt ∧ c.toInt ≤ 255) (h2 : ∀ c ∈ ys, 0 ≤ c.toInt ∧ c.toInt ≤ 255) : ∀ c ∈ xs ++ 44 :: ys, 0 ≤ c.toInt ∧ c.toInt ≤ 255 := fun c q => by
  rcases List.mem_append.mp q with z | z
  · exact h c z
  · rcases List.mem_cons.mp z with z | z
    · rw [z]; decide
    · exact h2 c z
theorem own_len04 {es : List Int32} (h : es.length = 0 ∨ es.length = 4) : es.length ≤ 4 := by omega
set_option maxRecDepth 65536 in
set_option maxHeartbeats 40000000 in
theorem c_alloc0 (l : Launch) (Z : State) (a0 : Array Value) (hw : ∀ d ∈ tables_1, d.before a0 Z = true) (hE : EW Z a0 consts_1)  (h0 : Heap) (O : Ext Z.heap h0)  :
    ConF l Z consts_1 n_43 method_8_code 1 (Option.some (Jvm.ClassFile.FieldType.array Jvm.ClassFile.FieldType.char)) ({ frames := 0, cells := 1, slots := 14, locals := 0 } : Room) #[(.int 0)] h0 [] (fun N v h => ∃ ca : Nat, N = [ca] ∧ v = some (.ref ca) ∧ Ary Z h ca .char []) := by
 refine ConF.of (a0 := a0) #[.val (.int 0)] (plainFor_of_name pn_4) hE O all0 (fun m => by first | (simp [entryFrame, mkF, argsToLocals, Value.category]; done) | rfl) ?_
 intro p e s m below meth c T0 hx hby hml hnm hret hlk hh W0
 refine g_iloadN (pc' := 1) W0.here hx (hb hby dc730) rfl rfl ?_
 refine g_ifN (pc' := 4) W0.here hx (hb hby dc731) rfl (teq (show (0 : Int32) = (0 : Int32) from (by decide))).2 ?_
 refine g_iconst (0 : Int32) (pc' := 5) W0.here hx (hb hby dc732) rfl rfl ?_
 refine w_newarr (pc' := 7) (cap := 0) W0 hx (M_ hw w_5) (hb hby dc733) (by decide) (Nat.le_refl _) (B_ rfl) (B_ rfl) (B_ rfl) rfl rfl fun T563 h563 b563 g563 W563 K563 V563 => ?_
 have z_K563 : h0.size ≤ h563.size := K563.1
 have lt_b563 : b563 < h563.size := W563.lt (List.mem_cons_self ..)
 have V563 : Ary Z h563 b563 .char [] := V563
 refine w_retAF W563 hx hh hlk hret rfl rfl (hb hby dc734) (B_ rfl) (B_ rfl) [b563] (allS (List.mem_of_getElem? (i := 0) rfl) all0) ?_
 exact ⟨_, rfl, rfl, V563⟩
set_option maxRecDepth 65536 in
set_option maxHeartbeats 40000000 in
theorem c_alloc4 (l : Launch) (Z : State) (a0 : Array Value) (hw : ∀ d ∈ tables_1, d.before a0 Z = true) (hE : EW Z a0 consts_1)  (h0 : Heap) (O : Ext Z.heap h0)  :
    ConF l Z consts_1 n_43 method_8_code 1 (Option.some (Jvm.ClassFile.FieldType.array Jvm.ClassFile.FieldType.char)) ({ frames := 0, cells := 1, slots := 14, locals := 0 } : Room) #[(.int 4)] h0 [] (fun N v h => ∃ ca : Nat, N = [ca] ∧ v = some (.ref ca) ∧ Ary Z h ca .char [(.int 0), (.int 0), (.int 0), (.int 0)]) := by
 refine ConF.of (a0 := a0) #[.val (.int 4)] (plainFor_of_name pn_4) hE O all0 (fun m => by first | (simp [entryFrame, mkF, argsToLocals, Value.category]; done) | rfl) ?_
 intro p e s m below meth c T0 hx hby hml hnm hret hlk hh W0
 refine g_iloadN (pc' := 1) W0.here hx (hb hby dc730) rfl rfl ?_
 refine g_ifY (pc' := 8) W0.here hx (hb hby dc731) rfl (feq (show ¬ ((4 : Int32) = (0 : Int32)) from (by decide))).2 ?_
 refine g_iloadN (pc' := 9) W0.here hx (hb hby dc735) rfl rfl ?_
 refine g_iconst (1 : Int32) (pc' := 10) W0.here hx (hb hby dc736) rfl rfl ?_
 refine g_icmpY (pc' := 17) W0.here hx (hb hby dc737) rfl (feq (show ¬ ((4 : Int32) = (1 : Int32)) from (by decide))).2 ?_
 refine g_iloadN (pc' := 18) W0.here hx (hb hby dc738) rfl rfl ?_
 refine g_iconst (2 : Int32) (pc' := 19) W0.here hx (hb hby dc739) rfl rfl ?_
 refine g_icmpY (pc' := 26) W0.here hx (hb hby dc740) rfl (feq (show ¬ ((4 : Int32) = (2 : Int32)) from (by decide))).2 ?_
 refine g_iloadN (pc' := 27) W0.here hx (hb hby dc741) rfl rfl ?_
 refine g_iconst (4 : Int32) (pc' := 28) W0.here hx (hb hby dc742) rfl rfl ?_
 refine g_icmpN (pc' := 31) W0.here hx (hb hby dc743) rfl (teq (show (4 : Int32) = (4 : Int32) from (by decide))).2 ?_
 refine g_iconst (4 : Int32) (pc' := 32) W0.here hx (hb hby dc744) rfl rfl ?_
 refine w_newarr (pc' := 34) (cap := 4) W0 hx (M_ hw w_5) (hb hby dc745) (by decide) (Nat.le_refl _) (B_ rfl) (B_ rfl) (B_ rfl) rfl rfl fun T573 h573 b573 g573 W573 K573 V573 => ?_
 have z_K573 : h0.size ≤ h573.size := K573.1
 have lt_b573 : b573 < h573.size := W573.lt (List.mem_cons_self ..)
 have V573 : Ary Z h573 b573 .char [(.int 0), (.int 0), (.int 0), (.int 0)] := V573
 refine w_retAF W573 hx hh hlk hret rfl rfl (hb hby dc746) (B_ rfl) (B_ rfl) [b573] (allS (List.mem_of_getElem? (i := 0) rfl) all0) ?_
 exact ⟨_, rfl, rfl, V573⟩
set_option maxRecDepth 65536 in
set_option maxHeartbeats 40000000 in
theorem c_put4 (l : Launch) (Z : State) (a0 : Array Value) (hw : ∀ d ∈ tables_1, d.before a0 Z = true) (hE : EW Z a0 consts_1) (ca ea : Nat) (y0 y1 y2 y3 : Int32) (vs : List Value) (h0 : Heap) (O : Ext Z.heap h0) (hz : Z.heap.size ≤ ca) (VC : Ary Z h0 ca .char vs) (hl : 4 ≤ vs.length) (VE : Ary Z h0 ea .char [.int y0, .int y1, .int y2, .int y3]) (hne : ca ≠ ea) (l_y0 : 0 ≤ y0.toInt ∧ y0.toInt ≤ 255) (l_y1 : 0 ≤ y1.toInt ∧ y1.toInt ≤ 255) (l_y2 : 0 ≤ y2.toInt ∧ y2.toInt ≤ 255) (l_y3 : 0 ≤ y3.toInt ∧ y3.toInt ≤ 255) :
    Con l Z consts_1 n_42 method_7_code 3 (Option.some Jvm.ClassFile.FieldType.int) ({ frames := 0, cells := 0, slots := 0, locals := 0 } : Room) #[(.ref ca), (.int 0), (.ref ea)] h0 [ca] (fun v h => v = some (.int 4) ∧ Ary Z h ca .char ((((vs.set 0 (.int y0)).set 1 (.int y1)).set 2 (.int y2)).set 3 (.int y3))) := by
 refine Con.of (a0 := a0) #[.val (.ref ca), .val (.int 0), .val (.ref ea)] (plainFor_of_name pn_4) hE O (allS ⟨hz, VC.lt⟩ all0) (fun m => by first | (simp [entryFrame, mkF, argsToLocals, Value.category]; done) | rfl) ?_
 intro p e s m below meth c T0 hx hby hml hnm hret hlk hh W0
 refine g_aloadN (pc' := 1) W0.here hx (hb hby dc724) rfl rfl rfl ?_
 refine w_len (pc' := 2) W0 hx VE (hb hby dc725) rfl ?_
 refine g_name (w := .int (4 : Int32)) rfl ?_
 refine g_iconst (4 : Int32) (pc' := 3) W0.here hx (hb hby dc726) rfl rfl ?_
 refine g_icmpN (pc' := 6) W0.here hx (hb hby dc727) rfl (teq (show (4 : Int32) = (4 : Int32) from (by decide))).2 ?_
 refine g_aloadN (pc' := 7) W0.here hx (hb hby dc747) rfl rfl rfl ?_
 refine g_iloadN (pc' := 8) W0.here hx (hb hby dc748) rfl rfl ?_
 refine g_aloadN (pc' := 9) W0.here hx (hb hby dc749) rfl rfl rfl ?_
 refine g_iconst (0 : Int32) (pc' := 10) W0.here hx (hb hby dc750) rfl rfl ?_
 refine w_caload (pc' := 11) (v := (.int y0)) W0 hx VE (by decide) rfl (hb hby dc751) rfl ?_
 refine w_castore (pc' := 12) (x' := y0) W0 hx VC (by decide) (by (try simp only [List.length_set]); exact Nat.lt_of_lt_of_le (by decide) hl) (List.mem_of_getElem? (i := 0) rfl) (own_nchar (own_c16 l_y0)) (hb hby dc752) rfl fun T578 h578 W578 K578 V578 => ?_
 have z_K578 : h0.size ≤ h578.size := K578.1
 have V578 : Ary Z h578 ca .char (vs.set 0 (.int y0)) := V578
 refine g_aloadN (pc' := 13) W578.here hx (hb hby dc753) rfl rfl rfl ?_
 refine g_iloadN (pc' := 14) W578.here hx (hb hby dc754) rfl rfl ?_
 refine g_iconst (1 : Int32) (pc' := 15) W578.here hx (hb hby dc755) rfl rfl ?_
 refine g_iadd (pc' := 16) W578.here hx (hb hby dc756) rfl ?_
 refine g_name (w := .int (1 : Int32)) (congrArg Value.int (by decide)) ?_
 refine g_aloadN (pc' := 17) W578.here hx (hb hby dc757) rfl rfl rfl ?_
 refine g_iconst (1 : Int32) (pc' := 18) W578.here hx (hb hby dc758) rfl rfl ?_
 have c579 := (VE.keep K578 (ninS (Ne.symm hne) nin0))
 refine w_caload (pc' := 19) (v := (.int y1)) W578 hx c579 (by decide) rfl (hb hby dc759) rfl ?_
 refine w_castore (pc' := 20) (x' := y1) W578 hx V578 (by decide) (by (try simp only [List.length_set]); exact Nat.lt_of_lt_of_le (by decide) hl) (List.mem_of_getElem? (i := 0) rfl) (own_nchar (own_c16 l_y1)) (hb hby dc760) rfl fun T580 h580 W580 K580 V580 => ?_
 have z_K580 : h578.size ≤ h580.size := K580.1
 have V580 : Ary Z h580 ca .char ((vs.set 0 (.int y0)).set 1 (.int y1)) := V580
 refine g_aloadN (pc' := 21) W580.here hx (hb hby dc761) rfl rfl rfl ?_
 refine g_iloadN (pc' := 22) W580.here hx (hb hby dc762) rfl rfl ?_
 refine g_iconst (2 : Int32) (pc' := 23) W580.here hx (hb hby dc763) rfl rfl ?_
 refine g_iadd (pc' := 24) W580.here hx (hb hby dc764) rfl ?_
 refine g_name (w := .int (2 : Int32)) (congrArg Value.int (by decide)) ?_
 refine g_aloadN (pc' := 25) W580.here hx (hb hby dc765) rfl rfl rfl ?_
 refine g_iconst (2 : Int32) (pc' := 26) W580.here hx (hb hby dc766) rfl rfl ?_
 have c581 := (c579.keep K580 (ninS (Ne.symm hne) nin0))
 refine w_caload (pc' := 27) (v := (.int y2)) W580 hx c581 (by decide) rfl (hb hby dc767) rfl ?_
 refine w_castore (pc' := 28) (x' := y2) W580 hx V580 (by decide) (by (try simp only [List.length_set]); exact Nat.lt_of_lt_of_le (by decide) hl) (List.mem_of_getElem? (i := 0) rfl) (own_nchar (own_c16 l_y2)) (hb hby dc768) rfl fun T582 h582 W582 K582 V582 => ?_
 have z_K582 : h580.size ≤ h582.size := K582.1
 have V582 : Ary Z h582 ca .char (((vs.set 0 (.int y0)).set 1 (.int y1)).set 2 (.int y2)) := V582
 refine g_aloadN (pc' := 29) W582.here hx (hb hby dc769) rfl rfl rfl ?_
 refine g_iloadN (pc' := 30) W582.here hx (hb hby dc770) rfl rfl ?_
 refine g_iconst (3 : Int32) (pc' := 31) W582.here hx (hb hby dc771) rfl rfl ?_
 refine g_iadd (pc' := 32) W582.here hx (hb hby dc772) rfl ?_
 refine g_name (w := .int (3 : Int32)) (congrArg Value.int (by decide)) ?_
 refine g_aloadN (pc' := 33) W582.here hx (hb hby dc773) rfl rfl rfl ?_
 refine g_iconst (3 : Int32) (pc' := 34) W582.here hx (hb hby dc774) rfl rfl ?_
 have c583 := (c581.keep K582 (ninS (Ne.symm hne) nin0))
 refine w_caload (pc' := 35) (v := (.int y3)) W582 hx c583 (by decide) rfl (hb hby dc775) rfl ?_
 refine w_castore (pc' := 36) (x' := y3) W582 hx V582 (by decide) (by (try simp only [List.length_set]); exact Nat.lt_of_lt_of_le (by decide) hl) (List.mem_of_getElem? (i := 0) rfl) (own_nchar (own_c16 l_y3)) (hb hby dc776) rfl fun T584 h584 W584 K584 V584 => ?_
 have z_K584 : h582.size ≤ h584.size := K584.1
 have V584 : Ary Z h584 ca .char ((((vs.set 0 (.int y0)).set 1 (.int y1)).set 2 (.int y2)).set 3 (.int y3)) := V584
 refine g_iloadN (pc' := 37) W584.here hx (hb hby dc777) rfl rfl ?_
 refine g_iconst (4 : Int32) (pc' := 38) W584.here hx (hb hby dc778) rfl rfl ?_
 refine g_iadd (pc' := 39) W584.here hx (hb hby dc779) rfl ?_
 refine g_name (w := .int (4 : Int32)) (congrArg Value.int (by decide)) ?_
 refine w_retI W584 hx hh hlk hret (hb hby dc780) (B_ rfl) (B_ rfl) ?_
 exact ⟨rfl, V584⟩
set_option maxRecDepth 65536 in
set_option maxHeartbeats 40000000 in
theorem c_alloc1 (l : Launch) (Z : State) (a0 : Array Value) (hw : ∀ d ∈ tables_1, d.before a0 Z = true) (hE : EW Z a0 consts_1)  (h0 : Heap) (O : Ext Z.heap h0)  :
    ConF l Z consts_1 n_43 method_8_code 1 (Option.some (Jvm.ClassFile.FieldType.array Jvm.ClassFile.FieldType.char)) ({ frames := 0, cells := 1, slots := 14, locals := 0 } : Room) #[(.int 1)] h0 [] (fun N v h => ∃ ca : Nat, N = [ca] ∧ v = some (.ref ca) ∧ Ary Z h ca .char [(.int 0)]) := by
 refine ConF.of (a0 := a0) #[.val (.int 1)] (plainFor_of_name pn_4) hE O all0 (fun m => by first | (simp [entryFrame, mkF, argsToLocals, Value.category]; done) | rfl) ?_
 intro p e s m below meth c T0 hx hby hml hnm hret hlk hh W0
 refine g_iloadN (pc' := 1) W0.here hx (hb hby dc730) rfl rfl ?_
 refine g_ifY (pc' := 8) W0.here hx (hb hby dc731) rfl (feq (show ¬ ((1 : Int32) = (0 : Int32)) from (by decide))).2 ?_
 refine g_iloadN (pc' := 9) W0.here hx (hb hby dc735) rfl rfl ?_
 refine g_iconst (1 : Int32) (pc' := 10) W0.here hx (hb hby dc736) rfl rfl ?_
 refine g_icmpN (pc' := 13) W0.here hx (hb hby dc737) rfl (teq (show (1 : Int32) = (1 : Int32) from (by decide))).2 ?_
 refine g_iconst (1 : Int32) (pc' := 14) W0.here hx (hb hby dc781) rfl rfl ?_
 refine w_newarr (pc' := 16) (cap := 1) W0 hx (M_ hw w_5) (hb hby dc782) (by decide) (Nat.le_refl _) (B_ rfl) (B_ rfl) (B_ rfl) rfl rfl fun T625 h625 b625 g625 W625 K625 V625 => ?_
 have z_K625 : h0.size ≤ h625.size := K625.1
 have lt_b625 : b625 < h625.size := W625.lt (List.mem_cons_self ..)
 have V625 : Ary Z h625 b625 .char [(.int 0)] := V625
 refine w_retAF W625 hx hh hlk hret rfl rfl (hb hby dc783) (B_ rfl) (B_ rfl) [b625] (allS (List.mem_of_getElem? (i := 0) rfl) all0) ?_
 exact ⟨_, rfl, rfl, V625⟩
set_option maxRecDepth 65536 in
set_option maxHeartbeats 40000000 in
theorem c_alloc5 (l : Launch) (Z : State) (a0 : Array Value) (hw : ∀ d ∈ tables_1, d.before a0 Z = true) (hE : EW Z a0 consts_1)  (h0 : Heap) (O : Ext Z.heap h0)  :
    ConF l Z consts_1 n_43 method_8_code 1 (Option.some (Jvm.ClassFile.FieldType.array Jvm.ClassFile.FieldType.char)) ({ frames := 0, cells := 1, slots := 14, locals := 0 } : Room) #[(.int 5)] h0 [] (fun N v h => ∃ ca : Nat, N = [ca] ∧ v = some (.ref ca) ∧ Ary Z h ca .char [(.int 0), (.int 0), (.int 0), (.int 0), (.int 0)]) := by
 refine ConF.of (a0 := a0) #[.val (.int 5)] (plainFor_of_name pn_4) hE O all0 (fun m => by first | (simp [entryFrame, mkF, argsToLocals, Value.category]; done) | rfl) ?_
 intro p e s m below meth c T0 hx hby hml hnm hret hlk hh W0
 refine g_iloadN (pc' := 1) W0.here hx (hb hby dc730) rfl rfl ?_
 refine g_ifY (pc' := 8) W0.here hx (hb hby dc731) rfl (feq (show ¬ ((5 : Int32) = (0 : Int32)) from (by decide))).2 ?_
 refine g_iloadN (pc' := 9) W0.here hx (hb hby dc735) rfl rfl ?_
 refine g_iconst (1 : Int32) (pc' := 10) W0.here hx (hb hby dc736) rfl rfl ?_
 refine g_icmpY (pc' := 17) W0.here hx (hb hby dc737) rfl (feq (show ¬ ((5 : Int32) = (1 : Int32)) from (by decide))).2 ?_
 refine g_iloadN (pc' := 18) W0.here hx (hb hby dc738) rfl rfl ?_
 refine g_iconst (2 : Int32) (pc' := 19) W0.here hx (hb hby dc739) rfl rfl ?_
 refine g_icmpY (pc' := 26) W0.here hx (hb hby dc740) rfl (feq (show ¬ ((5 : Int32) = (2 : Int32)) from (by decide))).2 ?_
 refine g_iloadN (pc' := 27) W0.here hx (hb hby dc741) rfl rfl ?_
 refine g_iconst (4 : Int32) (pc' := 28) W0.here hx (hb hby dc742) rfl rfl ?_
 refine g_icmpY (pc' := 35) W0.here hx (hb hby dc743) rfl (feq (show ¬ ((5 : Int32) = (4 : Int32)) from (by decide))).2 ?_
 refine g_iloadN (pc' := 36) W0.here hx (hb hby dc784) rfl rfl ?_
 refine g_iconst (5 : Int32) (pc' := 37) W0.here hx (hb hby dc785) rfl rfl ?_
 refine g_icmpN (pc' := 40) W0.here hx (hb hby dc786) rfl (teq (show (5 : Int32) = (5 : Int32) from (by decide))).2 ?_
 refine g_iconst (5 : Int32) (pc' := 41) W0.here hx (hb hby dc787) rfl rfl ?_
 refine w_newarr (pc' := 43) (cap := 5) W0 hx (M_ hw w_5) (hb hby dc788) (by decide) (Nat.le_refl _) (B_ rfl) (B_ rfl) (B_ rfl) rfl rfl fun T638 h638 b638 g638 W638 K638 V638 => ?_
 have z_K638 : h0.size ≤ h638.size := K638.1
 have lt_b638 : b638 < h638.size := W638.lt (List.mem_cons_self ..)
 have V638 : Ary Z h638 b638 .char [(.int 0), (.int 0), (.int 0), (.int 0), (.int 0)] := V638
 refine w_retAF W638 hx hh hlk hret rfl rfl (hb hby dc789) (B_ rfl) (B_ rfl) [b638] (allS (List.mem_of_getElem? (i := 0) rfl) all0) ?_
 exact ⟨_, rfl, rfl, V638⟩
set_option maxRecDepth 65536 in
set_option maxHeartbeats 40000000 in
theorem c_put5 (l : Launch) (Z : State) (a0 : Array Value) (hw : ∀ d ∈ tables_1, d.before a0 Z = true) (hE : EW Z a0 consts_1) (ca ea : Nat) (y0 y1 y2 y3 : Int32) (vs : List Value) (h0 : Heap) (O : Ext Z.heap h0) (hz : Z.heap.size ≤ ca) (VC : Ary Z h0 ca .char vs) (hl : 5 ≤ vs.length) (VE : Ary Z h0 ea .char [.int y0, .int y1, .int y2, .int y3]) (hne : ca ≠ ea) (l_y0 : 0 ≤ y0.toInt ∧ y0.toInt ≤ 255) (l_y1 : 0 ≤ y1.toInt ∧ y1.toInt ≤ 255) (l_y2 : 0 ≤ y2.toInt ∧ y2.toInt ≤ 255) (l_y3 : 0 ≤ y3.toInt ∧ y3.toInt ≤ 255) :
    Con l Z consts_1 n_42 method_7_code 3 (Option.some Jvm.ClassFile.FieldType.int) ({ frames := 0, cells := 0, slots := 0, locals := 0 } : Room) #[(.ref ca), (.int 1), (.ref ea)] h0 [ca] (fun v h => v = some (.int 5) ∧ Ary Z h ca .char ((((vs.set 1 (.int y0)).set 2 (.int y1)).set 3 (.int y2)).set 4 (.int y3))) := by
 refine Con.of (a0 := a0) #[.val (.ref ca), .val (.int 1), .val (.ref ea)] (plainFor_of_name pn_4) hE O (allS ⟨hz, VC.lt⟩ all0) (fun m => by first | (simp [entryFrame, mkF, argsToLocals, Value.category]; done) | rfl) ?_
 intro p e s m below meth c T0 hx hby hml hnm hret hlk hh W0
 refine g_aloadN (pc' := 1) W0.here hx (hb hby dc724) rfl rfl rfl ?_
 refine w_len (pc' := 2) W0 hx VE (hb hby dc725) rfl ?_
 refine g_name (w := .int (4 : Int32)) rfl ?_
 refine g_iconst (4 : Int32) (pc' := 3) W0.here hx (hb hby dc726) rfl rfl ?_
 refine g_icmpN (pc' := 6) W0.here hx (hb hby dc727) rfl (teq (show (4 : Int32) = (4 : Int32) from (by decide))).2 ?_
 refine g_aloadN (pc' := 7) W0.here hx (hb hby dc747) rfl rfl rfl ?_
 refine g_iloadN (pc' := 8) W0.here hx (hb hby dc748) rfl rfl ?_
 refine g_aloadN (pc' := 9) W0.here hx (hb hby dc749) rfl rfl rfl ?_
 refine g_iconst (0 : Int32) (pc' := 10) W0.here hx (hb hby dc750) rfl rfl ?_
 refine w_caload (pc' := 11) (v := (.int y0)) W0 hx VE (by decide) rfl (hb hby dc751) rfl ?_
 refine w_castore (pc' := 12) (x' := y0) W0 hx VC (by decide) (by (try simp only [List.length_set]); exact Nat.lt_of_lt_of_le (by decide) hl) (List.mem_of_getElem? (i := 0) rfl) (own_nchar (own_c16 l_y0)) (hb hby dc752) rfl fun T646 h646 W646 K646 V646 => ?_
 have z_K646 : h0.size ≤ h646.size := K646.1
 have V646 : Ary Z h646 ca .char (vs.set 1 (.int y0)) := V646
 refine g_aloadN (pc' := 13) W646.here hx (hb hby dc753) rfl rfl rfl ?_
 refine g_iloadN (pc' := 14) W646.here hx (hb hby dc754) rfl rfl ?_
 refine g_iconst (1 : Int32) (pc' := 15) W646.here hx (hb hby dc755) rfl rfl ?_
 refine g_iadd (pc' := 16) W646.here hx (hb hby dc756) rfl ?_
 refine g_name (w := .int (2 : Int32)) (congrArg Value.int (by decide)) ?_
 refine g_aloadN (pc' := 17) W646.here hx (hb hby dc757) rfl rfl rfl ?_
 refine g_iconst (1 : Int32) (pc' := 18) W646.here hx (hb hby dc758) rfl rfl ?_
 have c647 := (VE.keep K646 (ninS (Ne.symm hne) nin0))
 refine w_caload (pc' := 19) (v := (.int y1)) W646 hx c647 (by decide) rfl (hb hby dc759) rfl ?_
 refine w_castore (pc' := 20) (x' := y1) W646 hx V646 (by decide) (by (try simp only [List.length_set]); exact Nat.lt_of_lt_of_le (by decide) hl) (List.mem_of_getElem? (i := 0) rfl) (own_nchar (own_c16 l_y1)) (hb hby dc760) rfl fun T648 h648 W648 K648 V648 => ?_
 have z_K648 : h646.size ≤ h648.size := K648.1
 have V648 : Ary Z h648 ca .char ((vs.set 1 (.int y0)).set 2 (.int y1)) := V648
 refine g_aloadN (pc' := 21) W648.here hx (hb hby dc761) rfl rfl rfl ?_
 refine g_iloadN (pc' := 22) W648.here hx (hb hby dc762) rfl rfl ?_
 refine g_iconst (2 : Int32) (pc' := 23) W648.here hx (hb hby dc763) rfl rfl ?_
 refine g_iadd (pc' := 24) W648.here hx (hb hby dc764) rfl ?_
 refine g_name (w := .int (3 : Int32)) (congrArg Value.int (by decide)) ?_
 refine g_aloadN (pc' := 25) W648.here hx (hb hby dc765) rfl rfl rfl ?_
 refine g_iconst (2 : Int32) (pc' := 26) W648.here hx (hb hby dc766) rfl rfl ?_
 have c649 := (c647.keep K648 (ninS (Ne.symm hne) nin0))
 refine w_caload (pc' := 27) (v := (.int y2)) W648 hx c649 (by decide) rfl (hb hby dc767) rfl ?_
 refine w_castore (pc' := 28) (x' := y2) W648 hx V648 (by decide) (by (try simp only [List.length_set]); exact Nat.lt_of_lt_of_le (by decide) hl) (List.mem_of_getElem? (i := 0) rfl) (own_nchar (own_c16 l_y2)) (hb hby dc768) rfl fun T650 h650 W650 K650 V650 => ?_
 have z_K650 : h648.size ≤ h650.size := K650.1
 have V650 : Ary Z h650 ca .char (((vs.set 1 (.int y0)).set 2 (.int y1)).set 3 (.int y2)) := V650
 refine g_aloadN (pc' := 29) W650.here hx (hb hby dc769) rfl rfl rfl ?_
 refine g_iloadN (pc' := 30) W650.here hx (hb hby dc770) rfl rfl ?_
 refine g_iconst (3 : Int32) (pc' := 31) W650.here hx (hb hby dc771) rfl rfl ?_
 refine g_iadd (pc' := 32) W650.here hx (hb hby dc772) rfl ?_
 refine g_name (w := .int (4 : Int32)) (congrArg Value.int (by decide)) ?_
 refine g_aloadN (pc' := 33) W650.here hx (hb hby dc773) rfl rfl rfl ?_
 refine g_iconst (3 : Int32) (pc' := 34) W650.here hx (hb hby dc774) rfl rfl ?_
 have c651 := (c649.keep K650 (ninS (Ne.symm hne) nin0))
 refine w_caload (pc' := 35) (v := (.int y3)) W650 hx c651 (by decide) rfl (hb hby dc775) rfl ?_
 refine w_castore (pc' := 36) (x' := y3) W650 hx V650 (by decide) (by (try simp only [List.length_set]); exact Nat.lt_of_lt_of_le (by decide) hl) (List.mem_of_getElem? (i := 0) rfl) (own_nchar (own_c16 l_y3)) (hb hby dc776) rfl fun T652 h652 W652 K652 V652 => ?_
 have z_K652 : h650.size ≤ h652.size := K652.1
 have V652 : Ary Z h652 ca .char ((((vs.set 1 (.int y0)).set 2 (.int y1)).set 3 (.int y2)).set 4 (.int y3)) := V652
 refine g_iloadN (pc' := 37) W652.here hx (hb hby dc777) rfl rfl ?_
 refine g_iconst (4 : Int32) (pc' := 38) W652.here hx (hb hby dc778) rfl rfl ?_
 refine g_iadd (pc' := 39) W652.here hx (hb hby dc779) rfl ?_
 refine g_name (w := .int (5 : Int32)) (congrArg Value.int (by decide)) ?_
 refine w_retI W652 hx hh hlk hret (hb hby dc780) (B_ rfl) (B_ rfl) ?_
 exact ⟨rfl, V652⟩
set_option maxRecDepth 65536 in
set_option maxHeartbeats 40000000 in
theorem c_alloc9 (l : Launch) (Z : State) (a0 : Array Value) (hw : ∀ d ∈ tables_1, d.before a0 Z = true) (hE : EW Z a0 consts_1)  (h0 : Heap) (O : Ext Z.heap h0)  :
    ConF l Z consts_1 n_43 method_8_code 1 (Option.some (Jvm.ClassFile.FieldType.array Jvm.ClassFile.FieldType.char)) ({ frames := 0, cells := 1, slots := 14, locals := 0 } : Room) #[(.int 9)] h0 [] (fun N v h => ∃ ca : Nat, N = [ca] ∧ v = some (.ref ca) ∧ Ary Z h ca .char [(.int 0), (.int 0), (.int 0), (.int 0), (.int 0), (.int 0), (.int 0), (.int 0), (.int 0)]) := by
 refine ConF.of (a0 := a0) #[.val (.int 9)] (plainFor_of_name pn_4) hE O all0 (fun m => by first | (simp [entryFrame, mkF, argsToLocals, Value.category]; done) | rfl) ?_
 intro p e s m below meth c T0 hx hby hml hnm hret hlk hh W0
 refine g_iloadN (pc' := 1) W0.here hx (hb hby dc730) rfl rfl ?_
 refine g_ifY (pc' := 8) W0.here hx (hb hby dc731) rfl (feq (show ¬ ((9 : Int32) = (0 : Int32)) from (by decide))).2 ?_
 refine g_iloadN (pc' := 9) W0.here hx (hb hby dc735) rfl rfl ?_
 refine g_iconst (1 : Int32) (pc' := 10) W0.here hx (hb hby dc736) rfl rfl ?_
 refine g_icmpY (pc' := 17) W0.here hx (hb hby dc737) rfl (feq (show ¬ ((9 : Int32) = (1 : Int32)) from (by decide))).2 ?_
 refine g_iloadN (pc' := 18) W0.here hx (hb hby dc738) rfl rfl ?_
 refine g_iconst (2 : Int32) (pc' := 19) W0.here hx (hb hby dc739) rfl rfl ?_
 refine g_icmpY (pc' := 26) W0.here hx (hb hby dc740) rfl (feq (show ¬ ((9 : Int32) = (2 : Int32)) from (by decide))).2 ?_
 refine g_iloadN (pc' := 27) W0.here hx (hb hby dc741) rfl rfl ?_
 refine g_iconst (4 : Int32) (pc' := 28) W0.here hx (hb hby dc742) rfl rfl ?_
 refine g_icmpY (pc' := 35) W0.here hx (hb hby dc743) rfl (feq (show ¬ ((9 : Int32) = (4 : Int32)) from (by decide))).2 ?_
 refine g_iloadN (pc' := 36) W0.here hx (hb hby dc784) rfl rfl ?_
 refine g_iconst (5 : Int32) (pc' := 37) W0.here hx (hb hby dc785) rfl rfl ?_
 refine g_icmpY (pc' := 44) W0.here hx (hb hby dc786) rfl (feq (show ¬ ((9 : Int32) = (5 : Int32)) from (by decide))).2 ?_
 refine g_iloadN (pc' := 45) W0.here hx (hb hby dc790) rfl rfl ?_
 refine g_bipush (6 : Int32) (pc' := 47) W0.here hx (hb hby dc791) rfl rfl ?_
 refine g_icmpY (pc' := 55) W0.here hx (hb hby dc792) rfl (feq (show ¬ ((9 : Int32) = (6 : Int32)) from (by decide))).2 ?_
 refine g_iloadN (pc' := 56) W0.here hx (hb hby dc793) rfl rfl ?_
 refine g_bipush (9 : Int32) (pc' := 58) W0.here hx (hb hby dc794) rfl rfl ?_
 refine g_icmpN (pc' := 61) W0.here hx (hb hby dc795) rfl (teq (show (9 : Int32) = (9 : Int32) from (by decide))).2 ?_
 refine g_bipush (9 : Int32) (pc' := 63) W0.here hx (hb hby dc796) rfl rfl ?_
 refine w_newarr (pc' := 65) (cap := 9) W0 hx (M_ hw w_5) (hb hby dc797) (by decide) (Nat.le_refl _) (B_ rfl) (B_ rfl) (B_ rfl) rfl rfl fun T675 h675 b675 g675 W675 K675 V675 => ?_
 have z_K675 : h0.size ≤ h675.size := K675.1
 have lt_b675 : b675 < h675.size := W675.lt (List.mem_cons_self ..)
 have V675 : Ary Z h675 b675 .char [(.int 0), (.int 0), (.int 0), (.int 0), (.int 0), (.int 0), (.int 0), (.int 0), (.int 0)] := V675
 refine w_retAF W675 hx hh hlk hret rfl rfl (hb hby dc798) (B_ rfl) (B_ rfl) [b675] (allS (List.mem_of_getElem? (i := 0) rfl) all0) ?_
 exact ⟨_, rfl, rfl, V675⟩
set_option maxRecDepth 65536 in
set_option maxHeartbeats 40000000 in
theorem c_put9 (l : Launch) (Z : State) (a0 : Array Value) (hw : ∀ d ∈ tables_1, d.before a0 Z = true) (hE : EW Z a0 consts_1) (ca ea : Nat) (y0 y1 y2 y3 : Int32) (vs : List Value) (h0 : Heap) (O : Ext Z.heap h0) (hz : Z.heap.size ≤ ca) (VC : Ary Z h0 ca .char vs) (hl : 9 ≤ vs.length) (VE : Ary Z h0 ea .char [.int y0, .int y1, .int y2, .int y3]) (hne : ca ≠ ea) (l_y0 : 0 ≤ y0.toInt ∧ y0.toInt ≤ 255) (l_y1 : 0 ≤ y1.toInt ∧ y1.toInt ≤ 255) (l_y2 : 0 ≤ y2.toInt ∧ y2.toInt ≤ 255) (l_y3 : 0 ≤ y3.toInt ∧ y3.toInt ≤ 255) :
    Con l Z consts_1 n_42 method_7_code 3 (Option.some Jvm.ClassFile.FieldType.int) ({ frames := 0, cells := 0, slots := 0, locals := 0 } : Room) #[(.ref ca), (.int 5), (.ref ea)] h0 [ca] (fun v h => v = some (.int 9) ∧ Ary Z h ca .char ((((vs.set 5 (.int y0)).set 6 (.int y1)).set 7 (.int y2)).set 8 (.int y3))) := by
 refine Con.of (a0 := a0) #[.val (.ref ca), .val (.int 5), .val (.ref ea)] (plainFor_of_name pn_4) hE O (allS ⟨hz, VC.lt⟩ all0) (fun m => by first | (simp [entryFrame, mkF, argsToLocals, Value.category]; done) | rfl) ?_
 intro p e s m below meth c T0 hx hby hml hnm hret hlk hh W0
 refine g_aloadN (pc' := 1) W0.here hx (hb hby dc724) rfl rfl rfl ?_
 refine w_len (pc' := 2) W0 hx VE (hb hby dc725) rfl ?_
 refine g_name (w := .int (4 : Int32)) rfl ?_
 refine g_iconst (4 : Int32) (pc' := 3) W0.here hx (hb hby dc726) rfl rfl ?_
 refine g_icmpN (pc' := 6) W0.here hx (hb hby dc727) rfl (teq (show (4 : Int32) = (4 : Int32) from (by decide))).2 ?_
 refine g_aloadN (pc' := 7) W0.here hx (hb hby dc747) rfl rfl rfl ?_
 refine g_iloadN (pc' := 8) W0.here hx (hb hby dc748) rfl rfl ?_
 refine g_aloadN (pc' := 9) W0.here hx (hb hby dc749) rfl rfl rfl ?_
 refine g_iconst (0 : Int32) (pc' := 10) W0.here hx (hb hby dc750) rfl rfl ?_
 refine w_caload (pc' := 11) (v := (.int y0)) W0 hx VE (by decide) rfl (hb hby dc751) rfl ?_
 refine w_castore (pc' := 12) (x' := y0) W0 hx VC (by decide) (by (try simp only [List.length_set]); exact Nat.lt_of_lt_of_le (by decide) hl) (List.mem_of_getElem? (i := 0) rfl) (own_nchar (own_c16 l_y0)) (hb hby dc752) rfl fun T684 h684 W684 K684 V684 => ?_
 have z_K684 : h0.size ≤ h684.size := K684.1
 have V684 : Ary Z h684 ca .char (vs.set 5 (.int y0)) := V684
 refine g_aloadN (pc' := 13) W684.here hx (hb hby dc753) rfl rfl rfl ?_
 refine g_iloadN (pc' := 14) W684.here hx (hb hby dc754) rfl rfl ?_
 refine g_iconst (1 : Int32) (pc' := 15) W684.here hx (hb hby dc755) rfl rfl ?_
 refine g_iadd (pc' := 16) W684.here hx (hb hby dc756) rfl ?_
 refine g_name (w := .int (6 : Int32)) (congrArg Value.int (by decide)) ?_
 refine g_aloadN (pc' := 17) W684.here hx (hb hby dc757) rfl rfl rfl ?_
 refine g_iconst (1 : Int32) (pc' := 18) W684.here hx (hb hby dc758) rfl rfl ?_
 have c685 := (VE.keep K684 (ninS (Ne.symm hne) nin0))
 refine w_caload (pc' := 19) (v := (.int y1)) W684 hx c685 (by decide) rfl (hb hby dc759) rfl ?_
 refine w_castore (pc' := 20) (x' := y1) W684 hx V684 (by decide) (by (try simp only [List.length_set]); exact Nat.lt_of_lt_of_le (by decide) hl) (List.mem_of_getElem? (i := 0) rfl) (own_nchar (own_c16 l_y1)) (hb hby dc760) rfl fun T686 h686 W686 K686 V686 => ?_
 have z_K686 : h684.size ≤ h686.size := K686.1
 have V686 : Ary Z h686 ca .char ((vs.set 5 (.int y0)).set 6 (.int y1)) := V686
 refine g_aloadN (pc' := 21) W686.here hx (hb hby dc761) rfl rfl rfl ?_
 refine g_iloadN (pc' := 22) W686.here hx (hb hby dc762) rfl rfl ?_
 refine g_iconst (2 : Int32) (pc' := 23) W686.here hx (hb hby dc763) rfl rfl ?_
 refine g_iadd (pc' := 24) W686.here hx (hb hby dc764) rfl ?_
 refine g_name (w := .int (7 : Int32)) (congrArg Value.int (by decide)) ?_
 refine g_aloadN (pc' := 25) W686.here hx (hb hby dc765) rfl rfl rfl ?_
 refine g_iconst (2 : Int32) (pc' := 26) W686.here hx (hb hby dc766) rfl rfl ?_
 have c687 := (c685.keep K686 (ninS (Ne.symm hne) nin0))
 refine w_caload (pc' := 27) (v := (.int y2)) W686 hx c687 (by decide) rfl (hb hby dc767) rfl ?_
 refine w_castore (pc' := 28) (x' := y2) W686 hx V686 (by decide) (by (try simp only [List.length_set]); exact Nat.lt_of_lt_of_le (by decide) hl) (List.mem_of_getElem? (i := 0) rfl) (own_nchar (own_c16 l_y2)) (hb hby dc768) rfl fun T688 h688 W688 K688 V688 => ?_
 have z_K688 : h686.size ≤ h688.size := K688.1
 have V688 : Ary Z h688 ca .char (((vs.set 5 (.int y0)).set 6 (.int y1)).set 7 (.int y2)) := V688
 refine g_aloadN (pc' := 29) W688.here hx (hb hby dc769) rfl rfl rfl ?_
 refine g_iloadN (pc' := 30) W688.here hx (hb hby dc770) rfl rfl ?_
 refine g_iconst (3 : Int32) (pc' := 31) W688.here hx (hb hby dc771) rfl rfl ?_
 refine g_iadd (pc' := 32) W688.here hx (hb hby dc772) rfl ?_
 refine g_name (w := .int (8 : Int32)) (congrArg Value.int (by decide)) ?_
 refine g_aloadN (pc' := 33) W688.here hx (hb hby dc773) rfl rfl rfl ?_
 refine g_iconst (3 : Int32) (pc' := 34) W688.here hx (hb hby dc774) rfl rfl ?_
 have c689 := (c687.keep K688 (ninS (Ne.symm hne) nin0))
 refine w_caload (pc' := 35) (v := (.int y3)) W688 hx c689 (by decide) rfl (hb hby dc775) rfl ?_
 refine w_castore (pc' := 36) (x' := y3) W688 hx V688 (by decide) (by (try simp only [List.length_set]); exact Nat.lt_of_lt_of_le (by decide) hl) (List.mem_of_getElem? (i := 0) rfl) (own_nchar (own_c16 l_y3)) (hb hby dc776) rfl fun T690 h690 W690 K690 V690 => ?_
 have z_K690 : h688.size ≤ h690.size := K690.1
 have V690 : Ary Z h690 ca .char ((((vs.set 5 (.int y0)).set 6 (.int y1)).set 7 (.int y2)).set 8 (.int y3)) := V690
 refine g_iloadN (pc' := 37) W690.here hx (hb hby dc777) rfl rfl ?_
 refine g_iconst (4 : Int32) (pc' := 38) W690.here hx (hb hby dc778) rfl rfl ?_
 refine g_iadd (pc' := 39) W690.here hx (hb hby dc779) rfl ?_
 refine g_name (w := .int (9 : Int32)) (congrArg Value.int (by decide)) ?_
 refine w_retI W690 hx hh hlk hret (hb hby dc780) (B_ rfl) (B_ rfl) ?_
 exact ⟨rfl, V690⟩
set_option maxRecDepth 65536 in
set_option maxHeartbeats 40000000 in
theorem c_alloc2 (l : Launch) (Z : State) (a0 : Array Value) (hw : ∀ d ∈ tables_1, d.before a0 Z = true) (hE : EW Z a0 consts_1)  (h0 : Heap) (O : Ext Z.heap h0)  :
    ConF l Z consts_1 n_43 method_8_code 1 (Option.some (Jvm.ClassFile.FieldType.array Jvm.ClassFile.FieldType.char)) ({ frames := 0, cells := 1, slots := 14, locals := 0 } : Room) #[(.int 2)] h0 [] (fun N v h => ∃ ca : Nat, N = [ca] ∧ v = some (.ref ca) ∧ Ary Z h ca .char [(.int 0), (.int 0)]) := by
 refine ConF.of (a0 := a0) #[.val (.int 2)] (plainFor_of_name pn_4) hE O all0 (fun m => by first | (simp [entryFrame, mkF, argsToLocals, Value.category]; done) | rfl) ?_
 intro p e s m below meth c T0 hx hby hml hnm hret hlk hh W0
 refine g_iloadN (pc' := 1) W0.here hx (hb hby dc730) rfl rfl ?_
 refine g_ifY (pc' := 8) W0.here hx (hb hby dc731) rfl (feq (show ¬ ((2 : Int32) = (0 : Int32)) from (by decide))).2 ?_
 refine g_iloadN (pc' := 9) W0.here hx (hb hby dc735) rfl rfl ?_
 refine g_iconst (1 : Int32) (pc' := 10) W0.here hx (hb hby dc736) rfl rfl ?_
 refine g_icmpY (pc' := 17) W0.here hx (hb hby dc737) rfl (feq (show ¬ ((2 : Int32) = (1 : Int32)) from (by decide))).2 ?_
 refine g_iloadN (pc' := 18) W0.here hx (hb hby dc738) rfl rfl ?_
 refine g_iconst (2 : Int32) (pc' := 19) W0.here hx (hb hby dc739) rfl rfl ?_
 refine g_icmpN (pc' := 22) W0.here hx (hb hby dc740) rfl (teq (show (2 : Int32) = (2 : Int32) from (by decide))).2 ?_
 refine g_iconst (2 : Int32) (pc' := 23) W0.here hx (hb hby dc799) rfl rfl ?_
 refine w_newarr (pc' := 25) (cap := 2) W0 hx (M_ hw w_5) (hb hby dc800) (by decide) (Nat.le_refl _) (B_ rfl) (B_ rfl) (B_ rfl) rfl rfl fun T747 h747 b747 g747 W747 K747 V747 => ?_
 have z_K747 : h0.size ≤ h747.size := K747.1
 have lt_b747 : b747 < h747.size := W747.lt (List.mem_cons_self ..)
 have V747 : Ary Z h747 b747 .char [(.int 0), (.int 0)] := V747
 refine w_retAF W747 hx hh hlk hret rfl rfl (hb hby dc801) (B_ rfl) (B_ rfl) [b747] (allS (List.mem_of_getElem? (i := 0) rfl) all0) ?_
 exact ⟨_, rfl, rfl, V747⟩
set_option maxRecDepth 65536 in
set_option maxHeartbeats 40000000 in
theorem c_alloc6 (l : Launch) (Z : State) (a0 : Array Value) (hw : ∀ d ∈ tables_1, d.before a0 Z = true) (hE : EW Z a0 consts_1)  (h0 : Heap) (O : Ext Z.heap h0)  :
    ConF l Z consts_1 n_43 method_8_code 1 (Option.some (Jvm.ClassFile.FieldType.array Jvm.ClassFile.FieldType.char)) ({ frames := 0, cells := 1, slots := 14, locals := 0 } : Room) #[(.int 6)] h0 [] (fun N v h => ∃ ca : Nat, N = [ca] ∧ v = some (.ref ca) ∧ Ary Z h ca .char [(.int 0), (.int 0), (.int 0), (.int 0), (.int 0), (.int 0)]) := by
 refine ConF.of (a0 := a0) #[.val (.int 6)] (plainFor_of_name pn_4) hE O all0 (fun m => by first | (simp [entryFrame, mkF, argsToLocals, Value.category]; done) | rfl) ?_
 intro p e s m below meth c T0 hx hby hml hnm hret hlk hh W0
 refine g_iloadN (pc' := 1) W0.here hx (hb hby dc730) rfl rfl ?_
 refine g_ifY (pc' := 8) W0.here hx (hb hby dc731) rfl (feq (show ¬ ((6 : Int32) = (0 : Int32)) from (by decide))).2 ?_
 refine g_iloadN (pc' := 9) W0.here hx (hb hby dc735) rfl rfl ?_
 refine g_iconst (1 : Int32) (pc' := 10) W0.here hx (hb hby dc736) rfl rfl ?_
 refine g_icmpY (pc' := 17) W0.here hx (hb hby dc737) rfl (feq (show ¬ ((6 : Int32) = (1 : Int32)) from (by decide))).2 ?_
 refine g_iloadN (pc' := 18) W0.here hx (hb hby dc738) rfl rfl ?_
 refine g_iconst (2 : Int32) (pc' := 19) W0.here hx (hb hby dc739) rfl rfl ?_
 refine g_icmpY (pc' := 26) W0.here hx (hb hby dc740) rfl (feq (show ¬ ((6 : Int32) = (2 : Int32)) from (by decide))).2 ?_
 refine g_iloadN (pc' := 27) W0.here hx (hb hby dc741) rfl rfl ?_
 refine g_iconst (4 : Int32) (pc' := 28) W0.here hx (hb hby dc742) rfl rfl ?_
 refine g_icmpY (pc' := 35) W0.here hx (hb hby dc743) rfl (feq (show ¬ ((6 : Int32) = (4 : Int32)) from (by decide))).2 ?_
 refine g_iloadN (pc' := 36) W0.here hx (hb hby dc784) rfl rfl ?_
 refine g_iconst (5 : Int32) (pc' := 37) W0.here hx (hb hby dc785) rfl rfl ?_
 refine g_icmpY (pc' := 44) W0.here hx (hb hby dc786) rfl (feq (show ¬ ((6 : Int32) = (5 : Int32)) from (by decide))).2 ?_
 refine g_iloadN (pc' := 45) W0.here hx (hb hby dc790) rfl rfl ?_
 refine g_bipush (6 : Int32) (pc' := 47) W0.here hx (hb hby dc791) rfl rfl ?_
 refine g_icmpN (pc' := 50) W0.here hx (hb hby dc792) rfl (teq (show (6 : Int32) = (6 : Int32) from (by decide))).2 ?_
 refine g_bipush (6 : Int32) (pc' := 52) W0.here hx (hb hby dc802) rfl rfl ?_
 refine w_newarr (pc' := 54) (cap := 6) W0 hx (M_ hw w_5) (hb hby dc803) (by decide) (Nat.le_refl _) (B_ rfl) (B_ rfl) (B_ rfl) rfl rfl fun T763 h763 b763 g763 W763 K763 V763 => ?_
 have z_K763 : h0.size ≤ h763.size := K763.1
 have lt_b763 : b763 < h763.size := W763.lt (List.mem_cons_self ..)
 have V763 : Ary Z h763 b763 .char [(.int 0), (.int 0), (.int 0), (.int 0), (.int 0), (.int 0)] := V763
 refine w_retAF W763 hx hh hlk hret rfl rfl (hb hby dc804) (B_ rfl) (B_ rfl) [b763] (allS (List.mem_of_getElem? (i := 0) rfl) all0) ?_
 exact ⟨_, rfl, rfl, V763⟩
set_option maxRecDepth 65536 in
set_option maxHeartbeats 40000000 in
theorem c_put6 (l : Launch) (Z : State) (a0 : Array Value) (hw : ∀ d ∈ tables_1, d.before a0 Z = true) (hE : EW Z a0 consts_1) (ca ea : Nat) (y0 y1 y2 y3 : Int32) (vs : List Value) (h0 : Heap) (O : Ext Z.heap h0) (hz : Z.heap.size ≤ ca) (VC : Ary Z h0 ca .char vs) (hl : 6 ≤ vs.length) (VE : Ary Z h0 ea .char [.int y0, .int y1, .int y2, .int y3]) (hne : ca ≠ ea) (l_y0 : 0 ≤ y0.toInt ∧ y0.toInt ≤ 255) (l_y1 : 0 ≤ y1.toInt ∧ y1.toInt ≤ 255) (l_y2 : 0 ≤ y2.toInt ∧ y2.toInt ≤ 255) (l_y3 : 0 ≤ y3.toInt ∧ y3.toInt ≤ 255) :
    Con l Z consts_1 n_42 method_7_code 3 (Option.some Jvm.ClassFile.FieldType.int) ({ frames := 0, cells := 0, slots := 0, locals := 0 } : Room) #[(.ref ca), (.int 2), (.ref ea)] h0 [ca] (fun v h => v = some (.int 6) ∧ Ary Z h ca .char ((((vs.set 2 (.int y0)).set 3 (.int y1)).set 4 (.int y2)).set 5 (.int y3))) := by
 refine Con.of (a0 := a0) #[.val (.ref ca), .val (.int 2), .val (.ref ea)] (plainFor_of_name pn_4) hE O (allS ⟨hz, VC.lt⟩ all0) (fun m => by first | (simp [entryFrame, mkF, argsToLocals, Value.category]; done) | rfl) ?_
 intro p e s m below meth c T0 hx hby hml hnm hret hlk hh W0
 refine g_aloadN (pc' := 1) W0.here hx (hb hby dc724) rfl rfl rfl ?_
 refine w_len (pc' := 2) W0 hx VE (hb hby dc725) rfl ?_
 refine g_name (w := .int (4 : Int32)) rfl ?_
 refine g_iconst (4 : Int32) (pc' := 3) W0.here hx (hb hby dc726) rfl rfl ?_
 refine g_icmpN (pc' := 6) W0.here hx (hb hby dc727) rfl (teq (show (4 : Int32) = (4 : Int32) from (by decide))).2 ?_
 refine g_aloadN (pc' := 7) W0.here hx (hb hby dc747) rfl rfl rfl ?_
 refine g_iloadN (pc' := 8) W0.here hx (hb hby dc748) rfl rfl ?_
 refine g_aloadN (pc' := 9) W0.here hx (hb hby dc749) rfl rfl rfl ?_
 refine g_iconst (0 : Int32) (pc' := 10) W0.here hx (hb hby dc750) rfl rfl ?_
 refine w_caload (pc' := 11) (v := (.int y0)) W0 hx VE (by decide) rfl (hb hby dc751) rfl ?_
 refine w_castore (pc' := 12) (x' := y0) W0 hx VC (by decide) (by (try simp only [List.length_set]); exact Nat.lt_of_lt_of_le (by decide) hl) (List.mem_of_getElem? (i := 0) rfl) (own_nchar (own_c16 l_y0)) (hb hby dc752) rfl fun T774 h774 W774 K774 V774 => ?_
 have z_K774 : h0.size ≤ h774.size := K774.1
 have V774 : Ary Z h774 ca .char (vs.set 2 (.int y0)) := V774
 refine g_aloadN (pc' := 13) W774.here hx (hb hby dc753) rfl rfl rfl ?_
 refine g_iloadN (pc' := 14) W774.here hx (hb hby dc754) rfl rfl ?_
 refine g_iconst (1 : Int32) (pc' := 15) W774.here hx (hb hby dc755) rfl rfl ?_
 refine g_iadd (pc' := 16) W774.here hx (hb hby dc756) rfl ?_
 refine g_name (w := .int (3 : Int32)) (congrArg Value.int (by decide)) ?_
 refine g_aloadN (pc' := 17) W774.here hx (hb hby dc757) rfl rfl rfl ?_
 refine g_iconst (1 : Int32) (pc' := 18) W774.here hx (hb hby dc758) rfl rfl ?_
 have c775 := (VE.keep K774 (ninS (Ne.symm hne) nin0))
 refine w_caload (pc' := 19) (v := (.int y1)) W774 hx c775 (by decide) rfl (hb hby dc759) rfl ?_
 refine w_castore (pc' := 20) (x' := y1) W774 hx V774 (by decide) (by (try simp only [List.length_set]); exact Nat.lt_of_lt_of_le (by decide) hl) (List.mem_of_getElem? (i := 0) rfl) (own_nchar (own_c16 l_y1)) (hb hby dc760) rfl fun T776 h776 W776 K776 V776 => ?_
 have z_K776 : h774.size ≤ h776.size := K776.1
 have V776 : Ary Z h776 ca .char ((vs.set 2 (.int y0)).set 3 (.int y1)) := V776
 refine g_aloadN (pc' := 21) W776.here hx (hb hby dc761) rfl rfl rfl ?_
 refine g_iloadN (pc' := 22) W776.here hx (hb hby dc762) rfl rfl ?_
 refine g_iconst (2 : Int32) (pc' := 23) W776.here hx (hb hby dc763) rfl rfl ?_
 refine g_iadd (pc' := 24) W776.here hx (hb hby dc764) rfl ?_
 refine g_name (w := .int (4 : Int32)) (congrArg Value.int (by decide)) ?_
 refine g_aloadN (pc' := 25) W776.here hx (hb hby dc765) rfl rfl rfl ?_
 refine g_iconst (2 : Int32) (pc' := 26) W776.here hx (hb hby dc766) rfl rfl ?_
 have c777 := (c775.keep K776 (ninS (Ne.symm hne) nin0))
 refine w_caload (pc' := 27) (v := (.int y2)) W776 hx c777 (by decide) rfl (hb hby dc767) rfl ?_
 refine w_castore (pc' := 28) (x' := y2) W776 hx V776 (by decide) (by (try simp only [List.length_set]); exact Nat.lt_of_lt_of_le (by decide) hl) (List.mem_of_getElem? (i := 0) rfl) (own_nchar (own_c16 l_y2)) (hb hby dc768) rfl fun T778 h778 W778 K778 V778 => ?_
 have z_K778 : h776.size ≤ h778.size := K778.1
 have V778 : Ary Z h778 ca .char (((vs.set 2 (.int y0)).set 3 (.int y1)).set 4 (.int y2)) := V778
 refine g_aloadN (pc' := 29) W778.here hx (hb hby dc769) rfl rfl rfl ?_
 refine g_iloadN (pc' := 30) W778.here hx (hb hby dc770) rfl rfl ?_
 refine g_iconst (3 : Int32) (pc' := 31) W778.here hx (hb hby dc771) rfl rfl ?_
 refine g_iadd (pc' := 32) W778.here hx (hb hby dc772) rfl ?_
 refine g_name (w := .int (5 : Int32)) (congrArg Value.int (by decide)) ?_
 refine g_aloadN (pc' := 33) W778.here hx (hb hby dc773) rfl rfl rfl ?_
 refine g_iconst (3 : Int32) (pc' := 34) W778.here hx (hb hby dc774) rfl rfl ?_
 have c779 := (c777.keep K778 (ninS (Ne.symm hne) nin0))
 refine w_caload (pc' := 35) (v := (.int y3)) W778 hx c779 (by decide) rfl (hb hby dc775) rfl ?_
 refine w_castore (pc' := 36) (x' := y3) W778 hx V778 (by decide) (by (try simp only [List.length_set]); exact Nat.lt_of_lt_of_le (by decide) hl) (List.mem_of_getElem? (i := 0) rfl) (own_nchar (own_c16 l_y3)) (hb hby dc776) rfl fun T780 h780 W780 K780 V780 => ?_
 have z_K780 : h778.size ≤ h780.size := K780.1
 have V780 : Ary Z h780 ca .char ((((vs.set 2 (.int y0)).set 3 (.int y1)).set 4 (.int y2)).set 5 (.int y3)) := V780
 refine g_iloadN (pc' := 37) W780.here hx (hb hby dc777) rfl rfl ?_
 refine g_iconst (4 : Int32) (pc' := 38) W780.here hx (hb hby dc778) rfl rfl ?_
 refine g_iadd (pc' := 39) W780.here hx (hb hby dc779) rfl ?_
 refine g_name (w := .int (6 : Int32)) (congrArg Value.int (by decide)) ?_
 refine w_retI W780 hx hh hlk hret (hb hby dc780) (B_ rfl) (B_ rfl) ?_
 exact ⟨rfl, V780⟩
set_option maxRecDepth 65536 in
set_option maxHeartbeats 40000000 in
theorem c_alloc10 (l : Launch) (Z : State) (a0 : Array Value) (hw : ∀ d ∈ tables_1, d.before a0 Z = true) (hE : EW Z a0 consts_1)  (h0 : Heap) (O : Ext Z.heap h0)  :
    ConF l Z consts_1 n_43 method_8_code 1 (Option.some (Jvm.ClassFile.FieldType.array Jvm.ClassFile.FieldType.char)) ({ frames := 0, cells := 1, slots := 14, locals := 0 } : Room) #[(.int 10)] h0 [] (fun N v h => ∃ ca : Nat, N = [ca] ∧ v = some (.ref ca) ∧ Ary Z h ca .char [(.int 0), (.int 0), (.int 0), (.int 0), (.int 0), (.int 0), (.int 0), (.int 0), (.int 0), (.int 0)]) := by
 refine ConF.of (a0 := a0) #[.val (.int 10)] (plainFor_of_name pn_4) hE O all0 (fun m => by first | (simp [entryFrame, mkF, argsToLocals, Value.category]; done) | rfl) ?_
 intro p e s m below meth c T0 hx hby hml hnm hret hlk hh W0
 refine g_iloadN (pc' := 1) W0.here hx (hb hby dc730) rfl rfl ?_
 refine g_ifY (pc' := 8) W0.here hx (hb hby dc731) rfl (feq (show ¬ ((10 : Int32) = (0 : Int32)) from (by decide))).2 ?_
 refine g_iloadN (pc' := 9) W0.here hx (hb hby dc735) rfl rfl ?_
 refine g_iconst (1 : Int32) (pc' := 10) W0.here hx (hb hby dc736) rfl rfl ?_
 refine g_icmpY (pc' := 17) W0.here hx (hb hby dc737) rfl (feq (show ¬ ((10 : Int32) = (1 : Int32)) from (by decide))).2 ?_
 refine g_iloadN (pc' := 18) W0.here hx (hb hby dc738) rfl rfl ?_
 refine g_iconst (2 : Int32) (pc' := 19) W0.here hx (hb hby dc739) rfl rfl ?_
 refine g_icmpY (pc' := 26) W0.here hx (hb hby dc740) rfl (feq (show ¬ ((10 : Int32) = (2 : Int32)) from (by decide))).2 ?_
 refine g_iloadN (pc' := 27) W0.here hx (hb hby dc741) rfl rfl ?_
 refine g_iconst (4 : Int32) (pc' := 28) W0.here hx (hb hby dc742) rfl rfl ?_
 refine g_icmpY (pc' := 35) W0.here hx (hb hby dc743) rfl (feq (show ¬ ((10 : Int32) = (4 : Int32)) from (by decide))).2 ?_
 refine g_iloadN (pc' := 36) W0.here hx (hb hby dc784) rfl rfl ?_
 refine g_iconst (5 : Int32) (pc' := 37) W0.here hx (hb hby dc785) rfl rfl ?_
 refine g_icmpY (pc' := 44) W0.here hx (hb hby dc786) rfl (feq (show ¬ ((10 : Int32) = (5 : Int32)) from (by decide))).2 ?_
 refine g_iloadN (pc' := 45) W0.here hx (hb hby dc790) rfl rfl ?_
 refine g_bipush (6 : Int32) (pc' := 47) W0.here hx (hb hby dc791) rfl rfl ?_
 refine g_icmpY (pc' := 55) W0.here hx (hb hby dc792) rfl (feq (show ¬ ((10 : Int32) = (6 : Int32)) from (by decide))).2 ?_
 refine g_iloadN (pc' := 56) W0.here hx (hb hby dc793) rfl rfl ?_
 refine g_bipush (9 : Int32) (pc' := 58) W0.here hx (hb hby dc794) rfl rfl ?_
 refine g_icmpY (pc' := 66) W0.here hx (hb hby dc795) rfl (feq (show ¬ ((10 : Int32) = (9 : Int32)) from (by decide))).2 ?_
 refine g_iloadN (pc' := 67) W0.here hx (hb hby dc805) rfl rfl ?_
 refine g_bipush (10 : Int32) (pc' := 69) W0.here hx (hb hby dc806) rfl rfl ?_
 refine g_icmpN (pc' := 72) W0.here hx (hb hby dc807) rfl (teq (show (10 : Int32) = (10 : Int32) from (by decide))).2 ?_
 refine g_bipush (10 : Int32) (pc' := 74) W0.here hx (hb hby dc808) rfl rfl ?_
 refine w_newarr (pc' := 76) (cap := 10) W0 hx (M_ hw w_5) (hb hby dc809) (by decide) (Nat.le_refl _) (B_ rfl) (B_ rfl) (B_ rfl) rfl rfl fun T806 h806 b806 g806 W806 K806 V806 => ?_
 have z_K806 : h0.size ≤ h806.size := K806.1
 have lt_b806 : b806 < h806.size := W806.lt (List.mem_cons_self ..)
 have V806 : Ary Z h806 b806 .char [(.int 0), (.int 0), (.int 0), (.int 0), (.int 0), (.int 0), (.int 0), (.int 0), (.int 0), (.int 0)] := V806
 refine w_retAF W806 hx hh hlk hret rfl rfl (hb hby dc810) (B_ rfl) (B_ rfl) [b806] (allS (List.mem_of_getElem? (i := 0) rfl) all0) ?_
 exact ⟨_, rfl, rfl, V806⟩
set_option maxRecDepth 65536 in
set_option maxHeartbeats 40000000 in
theorem c_put10 (l : Launch) (Z : State) (a0 : Array Value) (hw : ∀ d ∈ tables_1, d.before a0 Z = true) (hE : EW Z a0 consts_1) (ca ea : Nat) (y0 y1 y2 y3 : Int32) (vs : List Value) (h0 : Heap) (O : Ext Z.heap h0) (hz : Z.heap.size ≤ ca) (VC : Ary Z h0 ca .char vs) (hl : 10 ≤ vs.length) (VE : Ary Z h0 ea .char [.int y0, .int y1, .int y2, .int y3]) (hne : ca ≠ ea) (l_y0 : 0 ≤ y0.toInt ∧ y0.toInt ≤ 255) (l_y1 : 0 ≤ y1.toInt ∧ y1.toInt ≤ 255) (l_y2 : 0 ≤ y2.toInt ∧ y2.toInt ≤ 255) (l_y3 : 0 ≤ y3.toInt ∧ y3.toInt ≤ 255) :
    Con l Z consts_1 n_42 method_7_code 3 (Option.some Jvm.ClassFile.FieldType.int) ({ frames := 0, cells := 0, slots := 0, locals := 0 } : Room) #[(.ref ca), (.int 6), (.ref ea)] h0 [ca] (fun v h => v = some (.int 10) ∧ Ary Z h ca .char ((((vs.set 6 (.int y0)).set 7 (.int y1)).set 8 (.int y2)).set 9 (.int y3))) := by
 refine Con.of (a0 := a0) #[.val (.ref ca), .val (.int 6), .val (.ref ea)] (plainFor_of_name pn_4) hE O (allS ⟨hz, VC.lt⟩ all0) (fun m => by first | (simp [entryFrame, mkF, argsToLocals, Value.category]; done) | rfl) ?_
 intro p e s m below meth c T0 hx hby hml hnm hret hlk hh W0
 refine g_aloadN (pc' := 1) W0.here hx (hb hby dc724) rfl rfl rfl ?_
 refine w_len (pc' := 2) W0 hx VE (hb hby dc725) rfl ?_
 refine g_name (w := .int (4 : Int32)) rfl ?_
 refine g_iconst (4 : Int32) (pc' := 3) W0.here hx (hb hby dc726) rfl rfl ?_
 refine g_icmpN (pc' := 6) W0.here hx (hb hby dc727) rfl (teq (show (4 : Int32) = (4 : Int32) from (by decide))).2 ?_
 refine g_aloadN (pc' := 7) W0.here hx (hb hby dc747) rfl rfl rfl ?_
 refine g_iloadN (pc' := 8) W0.here hx (hb hby dc748) rfl rfl ?_
 refine g_aloadN (pc' := 9) W0.here hx (hb hby dc749) rfl rfl rfl ?_
 refine g_iconst (0 : Int32) (pc' := 10) W0.here hx (hb hby dc750) rfl rfl ?_
 refine w_caload (pc' := 11) (v := (.int y0)) W0 hx VE (by decide) rfl (hb hby dc751) rfl ?_
 refine w_castore (pc' := 12) (x' := y0) W0 hx VC (by decide) (by (try simp only [List.length_set]); exact Nat.lt_of_lt_of_le (by decide) hl) (List.mem_of_getElem? (i := 0) rfl) (own_nchar (own_c16 l_y0)) (hb hby dc752) rfl fun T818 h818 W818 K818 V818 => ?_
 have z_K818 : h0.size ≤ h818.size := K818.1
 have V818 : Ary Z h818 ca .char (vs.set 6 (.int y0)) := V818
 refine g_aloadN (pc' := 13) W818.here hx (hb hby dc753) rfl rfl rfl ?_
 refine g_iloadN (pc' := 14) W818.here hx (hb hby dc754) rfl rfl ?_
 refine g_iconst (1 : Int32) (pc' := 15) W818.here hx (hb hby dc755) rfl rfl ?_
 refine g_iadd (pc' := 16) W818.here hx (hb hby dc756) rfl ?_
 refine g_name (w := .int (7 : Int32)) (congrArg Value.int (by decide)) ?_
 refine g_aloadN (pc' := 17) W818.here hx (hb hby dc757) rfl rfl rfl ?_
 refine g_iconst (1 : Int32) (pc' := 18) W818.here hx (hb hby dc758) rfl rfl ?_
 have c819 := (VE.keep K818 (ninS (Ne.symm hne) nin0))
 refine w_caload (pc' := 19) (v := (.int y1)) W818 hx c819 (by decide) rfl (hb hby dc759) rfl ?_
 refine w_castore (pc' := 20) (x' := y1) W818 hx V818 (by decide) (by (try simp only [List.length_set]); exact Nat.lt_of_lt_of_le (by decide) hl) (List.mem_of_getElem? (i := 0) rfl) (own_nchar (own_c16 l_y1)) (hb hby dc760) rfl fun T820 h820 W820 K820 V820 => ?_
 have z_K820 : h818.size ≤ h820.size := K820.1
 have V820 : Ary Z h820 ca .char ((vs.set 6 (.int y0)).set 7 (.int y1)) := V820
 refine g_aloadN (pc' := 21) W820.here hx (hb hby dc761) rfl rfl rfl ?_
 refine g_iloadN (pc' := 22) W820.here hx (hb hby dc762) rfl rfl ?_
 refine g_iconst (2 : Int32) (pc' := 23) W820.here hx (hb hby dc763) rfl rfl ?_
 refine g_iadd (pc' := 24) W820.here hx (hb hby dc764) rfl ?_
 refine g_name (w := .int (8 : Int32)) (congrArg Value.int (by decide)) ?_
 refine g_aloadN (pc' := 25) W820.here hx (hb hby dc765) rfl rfl rfl ?_
 refine g_iconst (2 : Int32) (pc' := 26) W820.here hx (hb hby dc766) rfl rfl ?_
 have c821 := (c819.keep K820 (ninS (Ne.symm hne) nin0))
 refine w_caload (pc' := 27) (v := (.int y2)) W820 hx c821 (by decide) rfl (hb hby dc767) rfl ?_
 refine w_castore (pc' := 28) (x' := y2) W820 hx V820 (by decide) (by (try simp only [List.length_set]); exact Nat.lt_of_lt_of_le (by decide) hl) (List.mem_of_getElem? (i := 0) rfl) (own_nchar (own_c16 l_y2)) (hb hby dc768) rfl fun T822 h822 W822 K822 V822 => ?_
 have z_K822 : h820.size ≤ h822.size := K822.1
 have V822 : Ary Z h822 ca .char (((vs.set 6 (.int y0)).set 7 (.int y1)).set 8 (.int y2)) := V822
 refine g_aloadN (pc' := 29) W822.here hx (hb hby dc769) rfl rfl rfl ?_
 refine g_iloadN (pc' := 30) W822.here hx (hb hby dc770) rfl rfl ?_
 refine g_iconst (3 : Int32) (pc' := 31) W822.here hx (hb hby dc771) rfl rfl ?_
 refine g_iadd (pc' := 32) W822.here hx (hb hby dc772) rfl ?_
 refine g_name (w := .int (9 : Int32)) (congrArg Value.int (by decide)) ?_
 refine g_aloadN (pc' := 33) W822.here hx (hb hby dc773) rfl rfl rfl ?_
 refine g_iconst (3 : Int32) (pc' := 34) W822.here hx (hb hby dc774) rfl rfl ?_
 have c823 := (c821.keep K822 (ninS (Ne.symm hne) nin0))
 refine w_caload (pc' := 35) (v := (.int y3)) W822 hx c823 (by decide) rfl (hb hby dc775) rfl ?_
 refine w_castore (pc' := 36) (x' := y3) W822 hx V822 (by decide) (by (try simp only [List.length_set]); exact Nat.lt_of_lt_of_le (by decide) hl) (List.mem_of_getElem? (i := 0) rfl) (own_nchar (own_c16 l_y3)) (hb hby dc776) rfl fun T824 h824 W824 K824 V824 => ?_
 have z_K824 : h822.size ≤ h824.size := K824.1
 have V824 : Ary Z h824 ca .char ((((vs.set 6 (.int y0)).set 7 (.int y1)).set 8 (.int y2)).set 9 (.int y3)) := V824
 refine g_iloadN (pc' := 37) W824.here hx (hb hby dc777) rfl rfl ?_
 refine g_iconst (4 : Int32) (pc' := 38) W824.here hx (hb hby dc778) rfl rfl ?_
 refine g_iadd (pc' := 39) W824.here hx (hb hby dc779) rfl ?_
 refine g_name (w := .int (10 : Int32)) (congrArg Value.int (by decide)) ?_
 refine w_retI W824 hx hh hlk hret (hb hby dc780) (B_ rfl) (B_ rfl) ?_
 exact ⟨rfl, V824⟩
set_option maxRecDepth 65536 in
set_option maxHeartbeats 40000000 in
theorem c_alloc14 (l : Launch) (Z : State) (a0 : Array Value) (hw : ∀ d ∈ tables_1, d.before a0 Z = true) (hE : EW Z a0 consts_1)  (h0 : Heap) (O : Ext Z.heap h0)  :
    ConF l Z consts_1 n_43 method_8_code 1 (Option.some (Jvm.ClassFile.FieldType.array Jvm.ClassFile.FieldType.char)) ({ frames := 0, cells := 1, slots := 14, locals := 0 } : Room) #[(.int 14)] h0 [] (fun N v h => ∃ ca : Nat, N = [ca] ∧ v = some (.ref ca) ∧ Ary Z h ca .char [(.int 0), (.int 0), (.int 0), (.int 0), (.int 0), (.int 0), (.int 0), (.int 0), (.int 0), (.int 0), (.int 0), (.int 0), (.int 0), (.int 0)]) := by
 refine ConF.of (a0 := a0) #[.val (.int 14)] (plainFor_of_name pn_4) hE O all0 (fun m => by first | (simp [entryFrame, mkF, argsToLocals, Value.category]; done) | rfl) ?_
 intro p e s m below meth c T0 hx hby hml hnm hret hlk hh W0
 refine g_iloadN (pc' := 1) W0.here hx (hb hby dc730) rfl rfl ?_
 refine g_ifY (pc' := 8) W0.here hx (hb hby dc731) rfl (feq (show ¬ ((14 : Int32) = (0 : Int32)) from (by decide))).2 ?_
 refine g_iloadN (pc' := 9) W0.here hx (hb hby dc735) rfl rfl ?_
 refine g_iconst (1 : Int32) (pc' := 10) W0.here hx (hb hby dc736) rfl rfl ?_
 refine g_icmpY (pc' := 17) W0.here hx (hb hby dc737) rfl (feq (show ¬ ((14 : Int32) = (1 : Int32)) from (by decide))).2 ?_
 refine g_iloadN (pc' := 18) W0.here hx (hb hby dc738) rfl rfl ?_
 refine g_iconst (2 : Int32) (pc' := 19) W0.here hx (hb hby dc739) rfl rfl ?_
 refine g_icmpY (pc' := 26) W0.here hx (hb hby dc740) rfl (feq (show ¬ ((14 : Int32) = (2 : Int32)) from (by decide))).2 ?_
 refine g_iloadN (pc' := 27) W0.here hx (hb hby dc741) rfl rfl ?_
 refine g_iconst (4 : Int32) (pc' := 28) W0.here hx (hb hby dc742) rfl rfl ?_
 refine g_icmpY (pc' := 35) W0.here hx (hb hby dc743) rfl (feq (show ¬ ((14 : Int32) = (4 : Int32)) from (by decide))).2 ?_
 refine g_iloadN (pc' := 36) W0.here hx (hb hby dc784) rfl rfl ?_
 refine g_iconst (5 : Int32) (pc' := 37) W0.here hx (hb hby dc785) rfl rfl ?_
 refine g_icmpY (pc' := 44) W0.here hx (hb hby dc786) rfl (feq (show ¬ ((14 : Int32) = (5 : Int32)) from (by decide))).2 ?_
 refine g_iloadN (pc' := 45) W0.here hx (hb hby dc790) rfl rfl ?_
 refine g_bipush (6 : Int32) (pc' := 47) W0.here hx (hb hby dc791) rfl rfl ?_
 refine g_icmpY (pc' := 55) W0.here hx (hb hby dc792) rfl (feq (show ¬ ((14 : Int32) = (6 : Int32)) from (by decide))).2 ?_
 refine g_iloadN (pc' := 56) W0.here hx (hb hby dc793) rfl rfl ?_
 refine g_bipush (9 : Int32) (pc' := 58) W0.here hx (hb hby dc794) rfl rfl ?_
 refine g_icmpY (pc' := 66) W0.here hx (hb hby dc795) rfl (feq (show ¬ ((14 : Int32) = (9 : Int32)) from (by decide))).2 ?_
 refine g_iloadN (pc' := 67) W0.here hx (hb hby dc805) rfl rfl ?_
 refine g_bipush (10 : Int32) (pc' := 69) W0.here hx (hb hby dc806) rfl rfl ?_
 refine g_icmpY (pc' := 77) W0.here hx (hb hby dc807) rfl (feq (show ¬ ((14 : Int32) = (10 : Int32)) from (by decide))).2 ?_
 refine g_bipush (14 : Int32) (pc' := 79) W0.here hx (hb hby dc811) rfl rfl ?_
 refine w_newarr (pc' := 81) (cap := 14) W0 hx (M_ hw w_5) (hb hby dc812) (by decide) (Nat.le_refl _) (B_ rfl) (B_ rfl) (B_ rfl) rfl rfl fun T889 h889 b889 g889 W889 K889 V889 => ?_
 have z_K889 : h0.size ≤ h889.size := K889.1
 have lt_b889 : b889 < h889.size := W889.lt (List.mem_cons_self ..)
 have V889 : Ary Z h889 b889 .char [(.int 0), (.int 0), (.int 0), (.int 0), (.int 0), (.int 0), (.int 0), (.int 0), (.int 0), (.int 0), (.int 0), (.int 0), (.int 0), (.int 0)] := V889
 refine w_retAF W889 hx hh hlk hret rfl rfl (hb hby dc813) (B_ rfl) (B_ rfl) [b889] (allS (List.mem_of_getElem? (i := 0) rfl) all0) ?_
 exact ⟨_, rfl, rfl, V889⟩
set_option maxRecDepth 65536 in
set_option maxHeartbeats 40000000 in
theorem c_put14 (l : Launch) (Z : State) (a0 : Array Value) (hw : ∀ d ∈ tables_1, d.before a0 Z = true) (hE : EW Z a0 consts_1) (ca ea : Nat) (y0 y1 y2 y3 : Int32) (vs : List Value) (h0 : Heap) (O : Ext Z.heap h0) (hz : Z.heap.size ≤ ca) (VC : Ary Z h0 ca .char vs) (hl : 14 ≤ vs.length) (VE : Ary Z h0 ea .char [.int y0, .int y1, .int y2, .int y3]) (hne : ca ≠ ea) (l_y0 : 0 ≤ y0.toInt ∧ y0.toInt ≤ 255) (l_y1 : 0 ≤ y1.toInt ∧ y1.toInt ≤ 255) (l_y2 : 0 ≤ y2.toInt ∧ y2.toInt ≤ 255) (l_y3 : 0 ≤ y3.toInt ∧ y3.toInt ≤ 255) :
    Con l Z consts_1 n_42 method_7_code 3 (Option.some Jvm.ClassFile.FieldType.int) ({ frames := 0, cells := 0, slots := 0, locals := 0 } : Room) #[(.ref ca), (.int 10), (.ref ea)] h0 [ca] (fun v h => v = some (.int 14) ∧ Ary Z h ca .char ((((vs.set 10 (.int y0)).set 11 (.int y1)).set 12 (.int y2)).set 13 (.int y3))) := by
 refine Con.of (a0 := a0) #[.val (.ref ca), .val (.int 10), .val (.ref ea)] (plainFor_of_name pn_4) hE O (allS ⟨hz, VC.lt⟩ all0) (fun m => by first | (simp [entryFrame, mkF, argsToLocals, Value.category]; done) | rfl) ?_
 intro p e s m below meth c T0 hx hby hml hnm hret hlk hh W0
 refine g_aloadN (pc' := 1) W0.here hx (hb hby dc724) rfl rfl rfl ?_
 refine w_len (pc' := 2) W0 hx VE (hb hby dc725) rfl ?_
 refine g_name (w := .int (4 : Int32)) rfl ?_
 refine g_iconst (4 : Int32) (pc' := 3) W0.here hx (hb hby dc726) rfl rfl ?_
 refine g_icmpN (pc' := 6) W0.here hx (hb hby dc727) rfl (teq (show (4 : Int32) = (4 : Int32) from (by decide))).2 ?_
 refine g_aloadN (pc' := 7) W0.here hx (hb hby dc747) rfl rfl rfl ?_
 refine g_iloadN (pc' := 8) W0.here hx (hb hby dc748) rfl rfl ?_
 refine g_aloadN (pc' := 9) W0.here hx (hb hby dc749) rfl rfl rfl ?_
 refine g_iconst (0 : Int32) (pc' := 10) W0.here hx (hb hby dc750) rfl rfl ?_
 refine w_caload (pc' := 11) (v := (.int y0)) W0 hx VE (by decide) rfl (hb hby dc751) rfl ?_
 refine w_castore (pc' := 12) (x' := y0) W0 hx VC (by decide) (by (try simp only [List.length_set]); exact Nat.lt_of_lt_of_le (by decide) hl) (List.mem_of_getElem? (i := 0) rfl) (own_nchar (own_c16 l_y0)) (hb hby dc752) rfl fun T902 h902 W902 K902 V902 => ?_
 have z_K902 : h0.size ≤ h902.size := K902.1
 have V902 : Ary Z h902 ca .char (vs.set 10 (.int y0)) := V902
 refine g_aloadN (pc' := 13) W902.here hx (hb hby dc753) rfl rfl rfl ?_
 refine g_iloadN (pc' := 14) W902.here hx (hb hby dc754) rfl rfl ?_
 refine g_iconst (1 : Int32) (pc' := 15) W902.here hx (hb hby dc755) rfl rfl ?_
 refine g_iadd (pc' := 16) W902.here hx (hb hby dc756) rfl ?_
 refine g_name (w := .int (11 : Int32)) (congrArg Value.int (by decide)) ?_
 refine g_aloadN (pc' := 17) W902.here hx (hb hby dc757) rfl rfl rfl ?_
 refine g_iconst (1 : Int32) (pc' := 18) W902.here hx (hb hby dc758) rfl rfl ?_
 have c903 := (VE.keep K902 (ninS (Ne.symm hne) nin0))
 refine w_caload (pc' := 19) (v := (.int y1)) W902 hx c903 (by decide) rfl (hb hby dc759) rfl ?_
 refine w_castore (pc' := 20) (x' := y1) W902 hx V902 (by decide) (by (try simp only [List.length_set]); exact Nat.lt_of_lt_of_le (by decide) hl) (List.mem_of_getElem? (i := 0) rfl) (own_nchar (own_c16 l_y1)) (hb hby dc760) rfl fun T904 h904 W904 K904 V904 => ?_
 have z_K904 : h902.size ≤ h904.size := K904.1
 have V904 : Ary Z h904 ca .char ((vs.set 10 (.int y0)).set 11 (.int y1)) := V904
 refine g_aloadN (pc' := 21) W904.here hx (hb hby dc761) rfl rfl rfl ?_
 refine g_iloadN (pc' := 22) W904.here hx (hb hby dc762) rfl rfl ?_
 refine g_iconst (2 : Int32) (pc' := 23) W904.here hx (hb hby dc763) rfl rfl ?_
 refine g_iadd (pc' := 24) W904.here hx (hb hby dc764) rfl ?_
 refine g_name (w := .int (12 : Int32)) (congrArg Value.int (by decide)) ?_
 refine g_aloadN (pc' := 25) W904.here hx (hb hby dc765) rfl rfl rfl ?_
 refine g_iconst (2 : Int32) (pc' := 26) W904.here hx (hb hby dc766) rfl rfl ?_
 have c905 := (c903.keep K904 (ninS (Ne.symm hne) nin0))
 refine w_caload (pc' := 27) (v := (.int y2)) W904 hx c905 (by decide) rfl (hb hby dc767) rfl ?_
 refine w_castore (pc' := 28) (x' := y2) W904 hx V904 (by decide) (by (try simp only [List.length_set]); exact Nat.lt_of_lt_of_le (by decide) hl) (List.mem_of_getElem? (i := 0) rfl) (own_nchar (own_c16 l_y2)) (hb hby dc768) rfl fun T906 h906 W906 K906 V906 => ?_
 have z_K906 : h904.size ≤ h906.size := K906.1
 have V906 : Ary Z h906 ca .char (((vs.set 10 (.int y0)).set 11 (.int y1)).set 12 (.int y2)) := V906
 refine g_aloadN (pc' := 29) W906.here hx (hb hby dc769) rfl rfl rfl ?_
 refine g_iloadN (pc' := 30) W906.here hx (hb hby dc770) rfl rfl ?_
 refine g_iconst (3 : Int32) (pc' := 31) W906.here hx (hb hby dc771) rfl rfl ?_
 refine g_iadd (pc' := 32) W906.here hx (hb hby dc772) rfl ?_
 refine g_name (w := .int (13 : Int32)) (congrArg Value.int (by decide)) ?_
 refine g_aloadN (pc' := 33) W906.here hx (hb hby dc773) rfl rfl rfl ?_
 refine g_iconst (3 : Int32) (pc' := 34) W906.here hx (hb hby dc774) rfl rfl ?_
 have c907 := (c905.keep K906 (ninS (Ne.symm hne) nin0))
 refine w_caload (pc' := 35) (v := (.int y3)) W906 hx c907 (by decide) rfl (hb hby dc775) rfl ?_
 refine w_castore (pc' := 36) (x' := y3) W906 hx V906 (by decide) (by (try simp only [List.length_set]); exact Nat.lt_of_lt_of_le (by decide) hl) (List.mem_of_getElem? (i := 0) rfl) (own_nchar (own_c16 l_y3)) (hb hby dc776) rfl fun T908 h908 W908 K908 V908 => ?_
 have z_K908 : h906.size ≤ h908.size := K908.1
 have V908 : Ary Z h908 ca .char ((((vs.set 10 (.int y0)).set 11 (.int y1)).set 12 (.int y2)).set 13 (.int y3)) := V908
 refine g_iloadN (pc' := 37) W908.here hx (hb hby dc777) rfl rfl ?_
 refine g_iconst (4 : Int32) (pc' := 38) W908.here hx (hb hby dc778) rfl rfl ?_
 refine g_iadd (pc' := 39) W908.here hx (hb hby dc779) rfl ?_
 refine g_name (w := .int (14 : Int32)) (congrArg Value.int (by decide)) ?_
 refine w_retI W908 hx hh hlk hret (hb hby dc780) (B_ rfl) (B_ rfl) ?_
 exact ⟨rfl, V908⟩
set_option maxRecDepth 65536 in
set_option maxHeartbeats 40000000 in
theorem c_law (l : Launch) (Z : State) (a0 : Array Value) (hw : ∀ d ∈ tables_1, d.before a0 Z = true) (hE : EW Z a0 consts_1) (cc : Int32) (fm : Value) (p0 : Int32) (p1 p2 p3 : Int64) (oD : Nat) (h0 : Heap) (O : Ext Z.heap h0) (G : SEnv Z cc fm) (SD : Sta Z Z.heap "java/util/ArrayList" "DEFAULTCAPACITY_EMPTY_ELEMENTDATA" "[Ljava/lang/Object;" (.ref oD)) (VD0 : Ary Z Z.heap oD (.object "java/lang/Object") [])  :
    ConL tables_1 l Z consts_1 x code maxLocals ret room_1 #[(.int p0), (.long p1), (.long p2), (.long p3)] h0 [] (fun v _ => v = some (.int 1)) := by
 refine Con.of (a0 := a0) #[.val (.int p0), .val (.long p1), .second, .val (.long p2), .second, .val (.long p3), .second, .unset, .unset, .unset, .unset, .unset, .unset, .unset, .unset, .unset, .unset, .unset] (plainFor_of_name pn_4) hE O all0 (fun m => by first | (simp [entryFrame, mkF, argsToLocals, Value.category, maxLocals]; done) | rfl) ?_
 intro p e s m below meth c T0 hx hby hml hnm hret hlk hh W0
 have VDh := VD0.ext O
 refine g_iconst (1 : Int32) (pc' := 1) W0.here hx (hb hby at_0) rfl rfl ?_
 refine g_iloadN (pc' := 2) W0.here hx (hb hby at_1) rfl rfl ?_
 refine g_iconst (3 : Int32) (pc' := 3) W0.here hx (hb hby at_2) rfl rfl ?_
 refine g_iand (pc' := 4) W0.here hx (hb hby at_3) rfl ?_
 refine g_iconst (3 : Int32) (pc' := 5) W0.here hx (hb hby at_4) rfl rfl ?_
 refine g_irem (pc' := 6) W0.here hx (hb hby at_5) (by decide) rfl ?_
 refine g_iadd (pc' := 7) W0.here hx (hb hby at_6) rfl ?_
 rcases own_n3 p0 with hn | hn | hn
 ·
  refine g_name (w := .int (1 : Int32)) (congrArg Value.int hn.symm) ?_
  have TAIL : ∀ (TL : State) (hL : Heap) (nwL : List Addr) (va eb0 eb1 eb2 : Nat) (xs0 xs1 xs2 xle xat : Int32) (f0 : List Int32), Wk p l e room_1 s m #[(.int p0), (.long p1), (.long p2), (.long p3)] below meth c Z consts_1 "com/example/despatch/despatch/http/HeaderListElementsPinLaw" [] nwL TL hL 4 18 → Ary Z hL va .char (f0.map Value.int) → Ary Z hL eb0 .char (f0.map Value.int) → (∀ c ∈ f0, 0 ≤ c.toInt ∧ c.toInt ≤ 255) → f0.length ≤ 4 → spl false false [] f0 = [f0] → Gets p.tables e below (Post s Z consts_1 room_1 h0 [] (fun v _ => v = some (.int 1))) TL (mkF m 193 #[.val (.int p0), .val (.long p1), .second, .val (.long p2), .second, .val (.long p3), .second, .val (.int 1), .val (.int xs0), .val (.int xs1), .val (.int xs2), .val (.ref eb0), .val (.ref eb1), .val (.ref eb2), .val (.int xle), .val (.ref va), .val (.int xat), .unset] []) := by
   intro TL hL nwL va eb0 eb1 eb2 xs0 xs1 xs2 xle xat f0 WL VA VE0 hl0 hg0 HS
   have hcl : f0.length ≤ 14 := by omega
   have lt_va : va < hL.size := VA.lt
   have lt_eb0 : eb0 < hL.size := VE0.lt
   have hzL := WL.old.1
   refine w_new (pc' := 196) WL hx (M_ hw w_12) (M_ hw w_13) (M_ hw w_14) (hb hby at_193) (B_ rfl) (B_ rfl) rfl fun T541 h541 b541 g541 W541 K541 A541 D541 => ?_
   have z_K541 : hL.size ≤ h541.size := K541.1
   have ne_va_b541 : va ≠ b541 := by omega
   have ne_eb0_b541 : eb0 ≠ b541 := by omega
   have lt_b541 : b541 < h541.size := W541.lt (List.mem_cons_self ..)
   have F541_value : Fld Z h541 b541 "java/lang/String" "value" "[B" .null := D541 (Or.inr (M_ hw w_27)) (ty := (.array .byte)) (by decide)
   have F541_coder : Fld Z h541 b541 "java/lang/String" "coder" "B" (.int 0) := D541 (Or.inr (M_ hw w_28)) (ty := .byte) (by decide)
   refine g_dup (pc' := 197) W541.here hx (hb hby at_196) rfl rfl ?_
   refine g_aload (pc' := 199) W541.here hx (hb hby at_197) rfl rfl rfl ?_
   have c542 := (VA.keep K541 nin0)
   refine w_special (pc' := 202) (st := [(.ref b541)]) (y := n_4) (a := b541) W541 hx [(.ref va)] rfl (M_ hw w_15) (M_ hw w_16) (M_ hw w_14) (M_ hw w_17) (by decide) (c_strC l Z a0 hw hE cc fm b541 va f0 h541 W541.old G hcl hl0 c542 (by have := O.1; omega) A541 _ _ F541_coder F541_value (Ne.symm ne_va_b541)) (allS (List.mem_of_getElem? (i := 0) rfl) all0) (by rw [hml]; rfl) (lenOf pd_26 rfl) rfl (hb hby at_199) (B_ rfl) (B_ rfl) (B_ rfl) (B_ rfl) rfl fun v543 T543 h543 W543 K543 Q543 => ?_
   have z_K543 : h541.size ≤ h543.size := K543.1
   obtain ⟨rfl, sb544, S544⟩ := Q543
   have ES544 := S544.1
   have lt_sb544 : sb544 < h543.size := S544.ltb
   refine w_callS (pc' := 205) (st := []) (y := n_40) W543 hx [(.ref b541)] (M_ hw w_33) (M_ hw w_34) (M_ hw w_35) (M_ hw w_36) (by decide) (c_elems1 l Z a0 hw hE cc fm b541 sb544 f0 oD f0 h543 W543.old G SD VD0 S544 hcl HS) all0 (by rw [hml]; rfl) (lenOf pd_27 rfl) rfl (hb hby at_202) (B_ rfl) (B_ rfl) (B_ rfl) (B_ rfl) rfl fun v545 T545 h545 W545 K545 Q545 => ?_
   have z_K545 : h543.size ≤ h545.size := K545.1
   obtain ⟨al546, da546, tt546_0, uu546_0, rfl, E546, FD546, FS546, VD546, SS546_0⟩ := Q545
   have lt_al546 : al546 < h545.size := E546.lt
   have lt_da546 : da546 < h545.size := VD546.lt
   have ESS546_0 := SS546_0.1
   have lt_tt546_0 : tt546_0 < h545.size := SS546_0.lt
   have lt_uu546_0 : uu546_0 < h545.size := SS546_0.ltb
   refine g_astore (pc' := 207) (Ls' := #[.val (.int p0), .val (.long p1), .second, .val (.long p2), .second, .val (.long p3), .second, .val (.int 1), .val (.int xs0), .val (.int xs1), .val (.int xs2), .val (.ref eb0), .val (.ref eb1), .val (.ref eb2), .val (.int xle), .val (.ref va), .val (.int xat), .val (.ref al546)]) W545.here hx (hb hby at_205) rfl rfl rfl ?_
   refine g_aload (pc' := 209) W545.here hx (hb hby at_207) rfl rfl rfl ?_
   refine w_ifacep (pc' := 214) (st := []) (y := n_44) (z := n_36) (a := al546) W545 hx [] (M_ hw w_126) (M_ hw w_127) (M_ hw w_128) (M_ hw w_129) (M_ hw w_130) (M_ hw w_131) (M_ hw w_132) (M_ hw w_98) (M_ hw w_39) (M_ hw w_133) (by decide) (c_size l Z a0 hw hE al546 (1 : Int32) h545 W545.old FS546) E546 (by rw [hml]; rfl) (lenOf pd_15 rfl) rfl (hb hby at_209) (B_ rfl) (B_ rfl) rfl rfl (B_ rfl) (B_ rfl) rfl fun T547 W547 => ?_
   refine g_iload (pc' := 216) W547.here hx (hb hby at_214) rfl rfl ?_
   refine g_icmpN (pc' := 219) W547.here hx (hb hby at_216) rfl (teq (show (1 : Int32) = (1 : Int32) from (by decide))).2 ?_
   refine g_aload (pc' := 221) W547.here hx (hb hby at_219) rfl rfl rfl ?_
   refine g_iconst (0 : Int32) (pc' := 222) W547.here hx (hb hby at_221) rfl rfl ?_
   refine w_ifacep (pc' := 227) (st := []) (y := n_45) (z := n_39) (a := al546) W547 hx [(.int 0)] (M_ hw w_134) (M_ hw w_135) (M_ hw w_136) (M_ hw w_137) (M_ hw w_138) (M_ hw w_139) (M_ hw w_140) (M_ hw w_98) (M_ hw w_39) (M_ hw w_141) (by decide) (c_get l Z a0 hw hE al546 da546 tt546_0 (0 : Int32) (1 : Int32) _ h545 W547.old FD546 VD546 (by decide) rfl E546 FS546 (by decide)) E546 (by rw [hml]; rfl) (lenOf pd_23 rfl) rfl (hb hby at_222) (B_ rfl) (B_ rfl) rfl rfl (B_ rfl) (B_ rfl) rfl fun T548 W548 => ?_
   refine w_cast (pc' := 230) W548 hx (M_ hw w_12) (Ins.self ESS546_0) (hb hby at_227) rfl fun T549 W549 => ?_
   refine w_new (pc' := 233) W549 hx (M_ hw w_12) (M_ hw w_13) (M_ hw w_14) (hb hby at_230) (B_ rfl) (B_ rfl) rfl fun T550 h550 b550 g550 W550 K550 A550 D550 => ?_
   have z_K550 : h545.size ≤ h550.size := K550.1
   have ne_va_b550 : va ≠ b550 := by omega
   have ne_eb0_b550 : eb0 ≠ b550 := by omega
   have ne_b541_b550 : b541 ≠ b550 := by omega
   have ne_sb544_b550 : sb544 ≠ b550 := by omega
   have ne_al546_b550 : al546 ≠ b550 := by omega
   have ne_da546_b550 : da546 ≠ b550 := by omega
   have ne_tt546_0_b550 : tt546_0 ≠ b550 := by omega
   have ne_uu546_0_b550 : uu546_0 ≠ b550 := by omega
   have lt_b550 : b550 < h550.size := W550.lt (List.mem_cons_self ..)
   have F550_value : Fld Z h550 b550 "java/lang/String" "value" "[B" .null := D550 (Or.inr (M_ hw w_27)) (ty := (.array .byte)) (by decide)
   have F550_coder : Fld Z h550 b550 "java/lang/String" "coder" "B" (.int 0) := D550 (Or.inr (M_ hw w_28)) (ty := .byte) (by decide)
   refine g_dup (pc' := 234) W550.here hx (hb hby at_233) rfl rfl ?_
   refine g_aload (pc' := 236) W550.here hx (hb hby at_234) rfl rfl rfl ?_
   have c551 := ((((VE0.keep K541 nin0).keep K543 (ninS ne_eb0_b541 nin0)).keep K545 nin0).keep K550 nin0)
   refine w_special (pc' := 239) (st := [(.ref b550), (.ref tt546_0)]) (y := n_4) (a := b550) W550 hx [(.ref eb0)] rfl (M_ hw w_15) (M_ hw w_16) (M_ hw w_14) (M_ hw w_17) (by decide) (c_strC l Z a0 hw hE cc fm b550 eb0 f0 h550 W550.old G (by omega) hl0 c551 (by have := O.1; omega) A550 _ _ F550_coder F550_value (Ne.symm ne_eb0_b550)) (allS (List.mem_of_getElem? (i := 0) rfl) all0) (by rw [hml]; rfl) (lenOf pd_26 rfl) rfl (hb hby at_236) (B_ rfl) (B_ rfl) (B_ rfl) (B_ rfl) rfl fun v552 T552 h552 W552 K552 Q552 => ?_
   have z_K552 : h550.size ≤ h552.size := K552.1
   obtain ⟨rfl, sb553, S553⟩ := Q552
   have ES553 := S553.1
   have lt_sb553 : sb553 < h552.size := S553.ltb
   have c554 := ((SS546_0.keep K550 nin0 nin0).keep K552 (ninS ne_tt546_0_b550 nin0) (ninS ne_uu546_0_b550 nin0))
   have c556 := ((ESS546_0.keep K550).keep K552)
   refine w_virtualp (pc' := 242) (st := []) (y := n_13) (z := n_13) (a := tt546_0) W552 hx [(.ref b550)] (M_ hw w_154) (M_ hw w_155) (nfS (z := n_13) (M_ hw w_157)) (M_ hw w_157) (M_ hw w_156) (M_ hw w_14) (M_ hw w_158) (by decide) (c_equals l Z a0 hw hE cc fm tt546_0 uu546_0 f0 b550 sb553 f0  h552 W552.old G c554 S553 ne_tt546_0_b550) c556 (by rw [hml]; rfl) (lenOf pd_25 rfl) rfl (hb hby at_239) (B_ rfl) (B_ rfl) rfl rfl (B_ rfl) (B_ rfl) rfl fun T555 W555 => ?_
   refine g_ifN (pc' := 245) W555.here hx (hb hby at_242) rfl (feq (show ¬ ((if f0 = f0 then (1 : Int32) else 0) = (0 : Int32)) from (by rw [if_pos rfl]; decide))).1 ?_
   refine g_iload (pc' := 247) W555.here hx (hb hby at_245) rfl rfl ?_
   refine g_iconst (2 : Int32) (pc' := 248) W555.here hx (hb hby at_247) rfl rfl ?_
   refine g_icmpY (pc' := 277) W555.here hx (hb hby at_248) rfl (tlt (show (1 : Int32) < (2 : Int32) from (by decide))).1 ?_
   refine g_iload (pc' := 279) W555.here hx (hb hby at_277) rfl rfl ?_
   refine g_iconst (3 : Int32) (pc' := 280) W555.here hx (hb hby at_279) rfl rfl ?_
   refine g_icmpY (pc' := 309) W555.here hx (hb hby at_280) rfl (tlt (show (1 : Int32) < (3 : Int32) from (by decide))).1 ?_
   refine g_iconst (1 : Int32) (pc' := 310) W555.here hx (hb hby at_309) rfl rfl ?_
   refine g_goto (pc' := 314) W555.here hx (hb hby at_310) rfl ?_
   refine w_retN (t := .boolean) W555 hx hh hlk hret (by simp) (hb hby at_314) (B_ rfl) (B_ rfl) ?_
   exact rfl
  refine g_istore (pc' := 9) (Ls' := #[.val (.int p0), .val (.long p1), .second, .val (.long p2), .second, .val (.long p3), .second, .val (.int 1), .unset, .unset, .unset, .unset, .unset, .unset, .unset, .unset, .unset, .unset]) W0.here hx (hb hby at_7) rfl rfl ?_
  refine g_iloadN (pc' := 10) W0.here hx (hb hby at_9) rfl rfl ?_
  refine g_iconst (2 : Int32) (pc' := 11) W0.here hx (hb hby at_10) rfl rfl ?_
  refine g_iushr (pc' := 12) W0.here hx (hb hby at_11) rfl ?_
  refine g_bipush (7 : Int32) (pc' := 14) W0.here hx (hb hby at_12) rfl rfl ?_
  refine g_iand (pc' := 15) W0.here hx (hb hby at_14) rfl ?_
  obtain ⟨xq0, hxq0⟩ : ∃ zz_ : Int32, zz_ = (((p0.toUInt32 >>> ((2 : Int32) &&& 31).toUInt32).toInt32) &&& (7 : Int32)) := ⟨_, rfl⟩
  refine g_name (congrArg Value.int hxq0) ?_
  refine g_istore (pc' := 17) (Ls' := #[.val (.int p0), .val (.long p1), .second, .val (.long p2), .second, .val (.long p3), .second, .val (.int 1), .val (.int xq0), .unset, .unset, .unset, .unset, .unset, .unset, .unset, .unset, .unset]) W0.here hx (hb hby at_15) rfl rfl ?_
  refine g_iloadN (pc' := 18) W0.here hx (hb hby at_17) rfl rfl ?_
  refine g_iconst (5 : Int32) (pc' := 19) W0.here hx (hb hby at_18) rfl rfl ?_
  refine g_iushr (pc' := 20) W0.here hx (hb hby at_19) rfl ?_
  refine g_bipush (7 : Int32) (pc' := 22) W0.here hx (hb hby at_20) rfl rfl ?_
  refine g_iand (pc' := 23) W0.here hx (hb hby at_22) rfl ?_
  obtain ⟨xq1, hxq1⟩ : ∃ zz_ : Int32, zz_ = (((p0.toUInt32 >>> ((5 : Int32) &&& 31).toUInt32).toInt32) &&& (7 : Int32)) := ⟨_, rfl⟩
  refine g_name (congrArg Value.int hxq1) ?_
  refine g_istore (pc' := 25) (Ls' := #[.val (.int p0), .val (.long p1), .second, .val (.long p2), .second, .val (.long p3), .second, .val (.int 1), .val (.int xq0), .val (.int xq1), .unset, .unset, .unset, .unset, .unset, .unset, .unset, .unset]) W0.here hx (hb hby at_23) rfl rfl ?_
  refine g_iloadN (pc' := 26) W0.here hx (hb hby at_25) rfl rfl ?_
  refine g_bipush (8 : Int32) (pc' := 28) W0.here hx (hb hby at_26) rfl rfl ?_
  refine g_iushr (pc' := 29) W0.here hx (hb hby at_28) rfl ?_
  refine g_bipush (7 : Int32) (pc' := 31) W0.here hx (hb hby at_29) rfl rfl ?_
  refine g_iand (pc' := 32) W0.here hx (hb hby at_31) rfl ?_
  obtain ⟨xq2, hxq2⟩ : ∃ zz_ : Int32, zz_ = (((p0.toUInt32 >>> ((8 : Int32) &&& 31).toUInt32).toInt32) &&& (7 : Int32)) := ⟨_, rfl⟩
  refine g_name (congrArg Value.int hxq2) ?_
  refine g_istore (pc' := 34) (Ls' := #[.val (.int p0), .val (.long p1), .second, .val (.long p2), .second, .val (.long p3), .second, .val (.int 1), .val (.int xq0), .val (.int xq1), .val (.int xq2), .unset, .unset, .unset, .unset, .unset, .unset, .unset]) W0.here hx (hb hby at_32) rfl rfl ?_
  refine g_iload (pc' := 36) W0.here hx (hb hby at_34) rfl rfl ?_
  refine g_lloadN (pc' := 37) W0.here hx (hb hby at_36) rfl rfl ?_
  refine g_iload (pc' := 39) W0.here hx (hb hby at_37) rfl rfl ?_
  refine g_iconst (1 : Int32) (pc' := 40) W0.here hx (hb hby at_39) rfl rfl ?_
  refine g_icmpN (pc' := 43) W0.here hx (hb hby at_40) rfl (teq (show (1 : Int32) = (1 : Int32) from (by decide))).2 ?_
  refine g_iconst (1 : Int32) (pc' := 44) W0.here hx (hb hby at_43) rfl rfl ?_
  refine g_goto (pc' := 48) W0.here hx (hb hby at_44) rfl ?_
  refine w_callS (pc' := 51) (st := []) (y := n_17) W0 hx [(.int xq0), (.long p1), (.int 1)] (M_ hw w_0) (M_ hw w_1) (M_ hw w_2) (M_ hw w_3) (by decide) (c_elem l Z a0 hw hE xq0 p1 (1 : Int32) h0 W0.old) all0 (by rw [hml]; rfl) (lenOf pd_28 rfl) rfl (hb hby at_48) (B_ rfl) (B_ rfl) (B_ rfl) (B_ rfl) rfl fun v557 T557 h557 W557 K557 Q557 => ?_
  have z_K557 : h0.size ≤ h557.size := K557.1
  obtain ⟨ea558, es558, rfl, gz558, VE558, hle558, hla558, gl558, gn558⟩ := Q557
  have lt_ea558 : ea558 < h557.size := VE558.lt
  rcases hle558 with hle558 | hle558
  ·
   obtain rfl := List.eq_nil_of_length_eq_zero hle558
   have V558 : Ary Z h557 ea558 .char [] := VE558
   refine g_astore (pc' := 53) (Ls' := #[.val (.int p0), .val (.long p1), .second, .val (.long p2), .second, .val (.long p3), .second, .val (.int 1), .val (.int xq0), .val (.int xq1), .val (.int xq2), .val (.ref ea558), .unset, .unset, .unset, .unset, .unset, .unset]) W557.here hx (hb hby at_51) rfl rfl rfl ?_
   refine g_iload (pc' := 55) W557.here hx (hb hby at_53) rfl rfl ?_
   refine g_iconst (2 : Int32) (pc' := 56) W557.here hx (hb hby at_55) rfl rfl ?_
   refine g_icmpY (pc' := 79) W557.here hx (hb hby at_56) rfl (tlt (show (1 : Int32) < (2 : Int32) from (by decide))).1 ?_
   refine g_iconst (0 : Int32) (pc' := 80) W557.here hx (hb hby at_79) rfl rfl ?_
   refine w_newarr (pc' := 82) (cap := 0) W557 hx (M_ hw w_5) (hb hby at_80) (by decide) (Nat.le_refl _) (B_ rfl) (B_ rfl) (B_ rfl) rfl rfl fun T559 h559 b559 g559 W559 K559 V559 => ?_
   have z_K559 : h557.size ≤ h559.size := K559.1
   have ne_ea558_b559 : ea558 ≠ b559 := by omega
   have lt_b559 : b559 < h559.size := W559.lt (List.mem_cons_self ..)
   have V559 : Ary Z h559 b559 .char [] := V559
   refine g_astore (pc' := 84) (Ls' := #[.val (.int p0), .val (.long p1), .second, .val (.long p2), .second, .val (.long p3), .second, .val (.int 1), .val (.int xq0), .val (.int xq1), .val (.int xq2), .val (.ref ea558), .val (.ref b559), .unset, .unset, .unset, .unset, .unset]) W559.here hx (hb hby at_82) rfl rfl rfl ?_
   refine g_iload (pc' := 86) W559.here hx (hb hby at_84) rfl rfl ?_
   refine g_iconst (3 : Int32) (pc' := 87) W559.here hx (hb hby at_86) rfl rfl ?_
   refine g_icmpY (pc' := 101) W559.here hx (hb hby at_87) rfl (feq (show ¬ ((1 : Int32) = (3 : Int32)) from (by decide))).2 ?_
   refine g_iconst (0 : Int32) (pc' := 102) W559.here hx (hb hby at_101) rfl rfl ?_
   refine w_newarr (pc' := 104) (cap := 0) W559 hx (M_ hw w_5) (hb hby at_102) (by decide) (Nat.le_refl _) (B_ rfl) (B_ rfl) (B_ rfl) rfl rfl fun T560 h560 b560 g560 W560 K560 V560 => ?_
   have z_K560 : h559.size ≤ h560.size := K560.1
   have ne_ea558_b560 : ea558 ≠ b560 := by omega
   have ne_b559_b560 : b559 ≠ b560 := by omega
   have lt_b560 : b560 < h560.size := W560.lt (List.mem_cons_self ..)
   have V560 : Ary Z h560 b560 .char [] := V560
   refine g_astore (pc' := 106) (Ls' := #[.val (.int p0), .val (.long p1), .second, .val (.long p2), .second, .val (.long p3), .second, .val (.int 1), .val (.int xq0), .val (.int xq1), .val (.int xq2), .val (.ref ea558), .val (.ref b559), .val (.ref b560), .unset, .unset, .unset, .unset]) W560.here hx (hb hby at_104) rfl rfl rfl ?_
   refine g_aload (pc' := 108) W560.here hx (hb hby at_106) rfl rfl rfl ?_
   have c561 := ((V558.keep K559 nin0).keep K560 nin0)
   refine w_len (pc' := 109) W560 hx c561 (hb hby at_108) rfl ?_
   refine g_name (w := .int (0 : Int32)) rfl ?_
   refine g_aload (pc' := 111) W560.here hx (hb hby at_109) rfl rfl rfl ?_
   have c562 := (V559.keep K560 nin0)
   refine w_len (pc' := 112) W560 hx c562 (hb hby at_111) rfl ?_
   refine g_name (w := .int (0 : Int32)) rfl ?_
   refine g_iadd (pc' := 113) W560.here hx (hb hby at_112) rfl ?_
   refine g_name (w := .int (0 : Int32)) (congrArg Value.int (by decide)) ?_
   refine g_aload (pc' := 115) W560.here hx (hb hby at_113) rfl rfl rfl ?_
   refine w_len (pc' := 116) W560 hx V560 (hb hby at_115) rfl ?_
   refine g_name (w := .int (0 : Int32)) rfl ?_
   refine g_iadd (pc' := 117) W560.here hx (hb hby at_116) rfl ?_
   refine g_name (w := .int (0 : Int32)) (congrArg Value.int (by decide)) ?_
   refine g_iload (pc' := 119) W560.here hx (hb hby at_117) rfl rfl ?_
   refine g_iconst (1 : Int32) (pc' := 120) W560.here hx (hb hby at_119) rfl rfl ?_
   refine g_isub (pc' := 121) W560.here hx (hb hby at_120) rfl ?_
   refine g_name (w := .int (0 : Int32)) (congrArg Value.int (by decide)) ?_
   refine g_iadd (pc' := 122) W560.here hx (hb hby at_121) rfl ?_
   refine g_name (w := .int (0 : Int32)) (congrArg Value.int (by decide)) ?_
   refine g_istore (pc' := 124) (Ls' := #[.val (.int p0), .val (.long p1), .second, .val (.long p2), .second, .val (.long p3), .second, .val (.int 1), .val (.int xq0), .val (.int xq1), .val (.int xq2), .val (.ref ea558), .val (.ref b559), .val (.ref b560), .val (.int 0), .unset, .unset, .unset]) W560.here hx (hb hby at_122) rfl rfl ?_
   refine g_iload (pc' := 126) W560.here hx (hb hby at_124) rfl rfl ?_
   refine w_callSF (pc' := 129) (st := []) (y := n_43) W560 hx [(.int 0)] (M_ hw w_6) (M_ hw w_7) (M_ hw w_2) (M_ hw w_8) (by decide) (c_alloc0 l Z a0 hw hE h560 W560.old) all0 (by rw [hml]; rfl) (lenOf pd_29 rfl) rfl (hb hby at_126) (B_ rfl) (B_ rfl) (B_ rfl) (B_ rfl) rfl fun N564 v564 T564 h564 W564 K564 G564 Q564 => ?_
   have z_K564 : h560.size ≤ h564.size := K564.1
   obtain ⟨va565, rfl, rfl, V565⟩ := Q564
   have gz566 := (G564 va565 (List.mem_cons_self ..)).1
   have lt_va565 := (G564 va565 (List.mem_cons_self ..)).2
   have ne_ea558_va565 : ea558 ≠ va565 := by omega
   have ne_b559_va565 : b559 ≠ va565 := by omega
   have ne_b560_va565 : b560 ≠ va565 := by omega
   refine g_astore (pc' := 131) (Ls' := #[.val (.int p0), .val (.long p1), .second, .val (.long p2), .second, .val (.long p3), .second, .val (.int 1), .val (.int xq0), .val (.int xq1), .val (.int xq2), .val (.ref ea558), .val (.ref b559), .val (.ref b560), .val (.int 0), .val (.ref va565), .unset, .unset]) W564.here hx (hb hby at_129) rfl rfl rfl ?_
   refine g_aload (pc' := 133) W564.here hx (hb hby at_131) rfl rfl rfl ?_
   refine g_iconst (0 : Int32) (pc' := 134) W564.here hx (hb hby at_133) rfl rfl ?_
   refine g_aload (pc' := 136) W564.here hx (hb hby at_134) rfl rfl rfl ?_
   have c567 := (c561.keep K564 nin0)
   refine w_callSp (pc' := 139) (st := []) (y := n_42) W564 hx [(.ref va565), (.int 0), (.ref ea558)] (M_ hw w_9) (M_ hw w_10) (M_ hw w_2) (M_ hw w_11) (by decide) (c_put0 l Z a0 hw hE va565 ea558 (0 : Int32) h564 W564.old c567) (by rw [hml]; rfl) (lenOf pd_30 rfl) rfl (hb hby at_136) (B_ rfl) (B_ rfl) rfl rfl (B_ rfl) (B_ rfl) rfl fun T568 W568 => ?_
   refine g_istore (pc' := 141) (Ls' := #[.val (.int p0), .val (.long p1), .second, .val (.long p2), .second, .val (.long p3), .second, .val (.int 1), .val (.int xq0), .val (.int xq1), .val (.int xq2), .val (.ref ea558), .val (.ref b559), .val (.ref b560), .val (.int 0), .val (.ref va565), .val (.int 0), .unset]) W568.here hx (hb hby at_139) rfl rfl ?_
   refine g_iload (pc' := 143) W568.here hx (hb hby at_141) rfl rfl ?_
   refine g_iconst (2 : Int32) (pc' := 144) W568.here hx (hb hby at_143) rfl rfl ?_
   refine g_icmpY (pc' := 167) W568.here hx (hb hby at_144) rfl (tlt (show (1 : Int32) < (2 : Int32) from (by decide))).1 ?_
   refine g_iload (pc' := 169) W568.here hx (hb hby at_167) rfl rfl ?_
   refine g_iconst (3 : Int32) (pc' := 170) W568.here hx (hb hby at_169) rfl rfl ?_
   refine g_icmpY (pc' := 193) W568.here hx (hb hby at_170) rfl (feq (show ¬ ((1 : Int32) = (3 : Int32)) from (by decide))).2 ?_
   exact TAIL _ _ _ va565 ea558 b559 b560 xq0 xq1 xq2 (0 : Int32) (0 : Int32) [] W568 V565 c567 hla558 (B_ rfl) gl558
  ·
   obtain ⟨y558_0, y558_1, y558_2, y558_3, rfl⟩ := own_len4 hle558
   have V558 : Ary Z h557 ea558 .char [(.int y558_0), (.int y558_1), (.int y558_2), (.int y558_3)] := VE558
   have l_y558_0 := hla558 y558_0 (by simp)
   have l_y558_1 := hla558 y558_1 (by simp)
   have l_y558_2 := hla558 y558_2 (by simp)
   have l_y558_3 := hla558 y558_3 (by simp)
   refine g_astore (pc' := 53) (Ls' := #[.val (.int p0), .val (.long p1), .second, .val (.long p2), .second, .val (.long p3), .second, .val (.int 1), .val (.int xq0), .val (.int xq1), .val (.int xq2), .val (.ref ea558), .unset, .unset, .unset, .unset, .unset, .unset]) W557.here hx (hb hby at_51) rfl rfl rfl ?_
   refine g_iload (pc' := 55) W557.here hx (hb hby at_53) rfl rfl ?_
   refine g_iconst (2 : Int32) (pc' := 56) W557.here hx (hb hby at_55) rfl rfl ?_
   refine g_icmpY (pc' := 79) W557.here hx (hb hby at_56) rfl (tlt (show (1 : Int32) < (2 : Int32) from (by decide))).1 ?_
   refine g_iconst (0 : Int32) (pc' := 80) W557.here hx (hb hby at_79) rfl rfl ?_
   refine w_newarr (pc' := 82) (cap := 0) W557 hx (M_ hw w_5) (hb hby at_80) (by decide) (Nat.le_refl _) (B_ rfl) (B_ rfl) (B_ rfl) rfl rfl fun T569 h569 b569 g569 W569 K569 V569 => ?_
   have z_K569 : h557.size ≤ h569.size := K569.1
   have ne_ea558_b569 : ea558 ≠ b569 := by omega
   have lt_b569 : b569 < h569.size := W569.lt (List.mem_cons_self ..)
   have V569 : Ary Z h569 b569 .char [] := V569
   refine g_astore (pc' := 84) (Ls' := #[.val (.int p0), .val (.long p1), .second, .val (.long p2), .second, .val (.long p3), .second, .val (.int 1), .val (.int xq0), .val (.int xq1), .val (.int xq2), .val (.ref ea558), .val (.ref b569), .unset, .unset, .unset, .unset, .unset]) W569.here hx (hb hby at_82) rfl rfl rfl ?_
   refine g_iload (pc' := 86) W569.here hx (hb hby at_84) rfl rfl ?_
   refine g_iconst (3 : Int32) (pc' := 87) W569.here hx (hb hby at_86) rfl rfl ?_
   refine g_icmpY (pc' := 101) W569.here hx (hb hby at_87) rfl (feq (show ¬ ((1 : Int32) = (3 : Int32)) from (by decide))).2 ?_
   refine g_iconst (0 : Int32) (pc' := 102) W569.here hx (hb hby at_101) rfl rfl ?_
   refine w_newarr (pc' := 104) (cap := 0) W569 hx (M_ hw w_5) (hb hby at_102) (by decide) (Nat.le_refl _) (B_ rfl) (B_ rfl) (B_ rfl) rfl rfl fun T570 h570 b570 g570 W570 K570 V570 => ?_
   have z_K570 : h569.size ≤ h570.size := K570.1
   have ne_ea558_b570 : ea558 ≠ b570 := by omega
   have ne_b569_b570 : b569 ≠ b570 := by omega
   have lt_b570 : b570 < h570.size := W570.lt (List.mem_cons_self ..)
   have V570 : Ary Z h570 b570 .char [] := V570
   refine g_astore (pc' := 106) (Ls' := #[.val (.int p0), .val (.long p1), .second, .val (.long p2), .second, .val (.long p3), .second, .val (.int 1), .val (.int xq0), .val (.int xq1), .val (.int xq2), .val (.ref ea558), .val (.ref b569), .val (.ref b570), .unset, .unset, .unset, .unset]) W570.here hx (hb hby at_104) rfl rfl rfl ?_
   refine g_aload (pc' := 108) W570.here hx (hb hby at_106) rfl rfl rfl ?_
   have c571 := ((V558.keep K569 nin0).keep K570 nin0)
   refine w_len (pc' := 109) W570 hx c571 (hb hby at_108) rfl ?_
   refine g_name (w := .int (4 : Int32)) rfl ?_
   refine g_aload (pc' := 111) W570.here hx (hb hby at_109) rfl rfl rfl ?_
   have c572 := (V569.keep K570 nin0)
   refine w_len (pc' := 112) W570 hx c572 (hb hby at_111) rfl ?_
   refine g_name (w := .int (0 : Int32)) rfl ?_
   refine g_iadd (pc' := 113) W570.here hx (hb hby at_112) rfl ?_
   refine g_name (w := .int (4 : Int32)) (congrArg Value.int (by decide)) ?_
   refine g_aload (pc' := 115) W570.here hx (hb hby at_113) rfl rfl rfl ?_
   refine w_len (pc' := 116) W570 hx V570 (hb hby at_115) rfl ?_
   refine g_name (w := .int (0 : Int32)) rfl ?_
   refine g_iadd (pc' := 117) W570.here hx (hb hby at_116) rfl ?_
   refine g_name (w := .int (4 : Int32)) (congrArg Value.int (by decide)) ?_
   refine g_iload (pc' := 119) W570.here hx (hb hby at_117) rfl rfl ?_
   refine g_iconst (1 : Int32) (pc' := 120) W570.here hx (hb hby at_119) rfl rfl ?_
   refine g_isub (pc' := 121) W570.here hx (hb hby at_120) rfl ?_
   refine g_name (w := .int (0 : Int32)) (congrArg Value.int (by decide)) ?_
   refine g_iadd (pc' := 122) W570.here hx (hb hby at_121) rfl ?_
   refine g_name (w := .int (4 : Int32)) (congrArg Value.int (by decide)) ?_
   refine g_istore (pc' := 124) (Ls' := #[.val (.int p0), .val (.long p1), .second, .val (.long p2), .second, .val (.long p3), .second, .val (.int 1), .val (.int xq0), .val (.int xq1), .val (.int xq2), .val (.ref ea558), .val (.ref b569), .val (.ref b570), .val (.int 4), .unset, .unset, .unset]) W570.here hx (hb hby at_122) rfl rfl ?_
   refine g_iload (pc' := 126) W570.here hx (hb hby at_124) rfl rfl ?_
   refine w_callSF (pc' := 129) (st := []) (y := n_43) W570 hx [(.int 4)] (M_ hw w_6) (M_ hw w_7) (M_ hw w_2) (M_ hw w_8) (by decide) (c_alloc4 l Z a0 hw hE h570 W570.old) all0 (by rw [hml]; rfl) (lenOf pd_29 rfl) rfl (hb hby at_126) (B_ rfl) (B_ rfl) (B_ rfl) (B_ rfl) rfl fun N574 v574 T574 h574 W574 K574 G574 Q574 => ?_
   have z_K574 : h570.size ≤ h574.size := K574.1
   obtain ⟨va575, rfl, rfl, V575⟩ := Q574
   have gz576 := (G574 va575 (List.mem_cons_self ..)).1
   have lt_va575 := (G574 va575 (List.mem_cons_self ..)).2
   have ne_ea558_va575 : ea558 ≠ va575 := by omega
   have ne_b569_va575 : b569 ≠ va575 := by omega
   have ne_b570_va575 : b570 ≠ va575 := by omega
   refine g_astore (pc' := 131) (Ls' := #[.val (.int p0), .val (.long p1), .second, .val (.long p2), .second, .val (.long p3), .second, .val (.int 1), .val (.int xq0), .val (.int xq1), .val (.int xq2), .val (.ref ea558), .val (.ref b569), .val (.ref b570), .val (.int 4), .val (.ref va575), .unset, .unset]) W574.here hx (hb hby at_129) rfl rfl rfl ?_
   refine g_aload (pc' := 133) W574.here hx (hb hby at_131) rfl rfl rfl ?_
   refine g_iconst (0 : Int32) (pc' := 134) W574.here hx (hb hby at_133) rfl rfl ?_
   refine g_aload (pc' := 136) W574.here hx (hb hby at_134) rfl rfl rfl ?_
   have c577 := (c571.keep K574 nin0)
   refine w_callS (pc' := 139) (st := []) (y := n_42) W574 hx [(.ref va575), (.int 0), (.ref ea558)] (M_ hw w_9) (M_ hw w_10) (M_ hw w_2) (M_ hw w_11) (by decide) (c_put4 l Z a0 hw hE va575 ea558 y558_0 y558_1 y558_2 y558_3 _ h574 W574.old (by have := O.1; omega) V575 (B_ rfl) c577 (Ne.symm ne_ea558_va575) l_y558_0 l_y558_1 l_y558_2 l_y558_3) (allS (List.mem_of_getElem? (i := 0) rfl) all0) (by rw [hml]; rfl) (lenOf pd_30 rfl) rfl (hb hby at_136) (B_ rfl) (B_ rfl) (B_ rfl) (B_ rfl) rfl fun v585 T585 h585 W585 K585 Q585 => ?_
   have z_K585 : h574.size ≤ h585.size := K585.1
   obtain ⟨rfl, VX586⟩ := Q585
   have V586 : Ary Z h585 va575 .char [(.int y558_0), (.int y558_1), (.int y558_2), (.int y558_3)] := VX586
   refine g_istore (pc' := 141) (Ls' := #[.val (.int p0), .val (.long p1), .second, .val (.long p2), .second, .val (.long p3), .second, .val (.int 1), .val (.int xq0), .val (.int xq1), .val (.int xq2), .val (.ref ea558), .val (.ref b569), .val (.ref b570), .val (.int 4), .val (.ref va575), .val (.int 4), .unset]) W585.here hx (hb hby at_139) rfl rfl ?_
   refine g_iload (pc' := 143) W585.here hx (hb hby at_141) rfl rfl ?_
   refine g_iconst (2 : Int32) (pc' := 144) W585.here hx (hb hby at_143) rfl rfl ?_
   refine g_icmpY (pc' := 167) W585.here hx (hb hby at_144) rfl (tlt (show (1 : Int32) < (2 : Int32) from (by decide))).1 ?_
   refine g_iload (pc' := 169) W585.here hx (hb hby at_167) rfl rfl ?_
   refine g_iconst (3 : Int32) (pc' := 170) W585.here hx (hb hby at_169) rfl rfl ?_
   refine g_icmpY (pc' := 193) W585.here hx (hb hby at_170) rfl (feq (show ¬ ((1 : Int32) = (3 : Int32)) from (by decide))).2 ?_
   have c587 := (c577.keep K585 (ninS ne_ea558_va575 nin0))
   exact TAIL _ _ _ va575 ea558 b569 b570 xq0 xq1 xq2 (4 : Int32) (4 : Int32) [y558_0, y558_1, y558_2, y558_3] W585 V586 c587 hla558 (B_ rfl) gl558
 ·
  refine g_name (w := .int (2 : Int32)) (congrArg Value.int hn.symm) ?_
  have TAIL : ∀ (TL : State) (hL : Heap) (nwL : List Addr) (va eb0 eb1 eb2 : Nat) (xs0 xs1 xs2 xle xat : Int32) (f0 f1 : List Int32), Wk p l e room_1 s m #[(.int p0), (.long p1), (.long p2), (.long p3)] below meth c Z consts_1 "com/example/despatch/despatch/http/HeaderListElementsPinLaw" [] nwL TL hL 4 22 → Ary Z hL va .char ((f0 ++ 44 :: f1).map Value.int) → Ary Z hL eb0 .char (f0.map Value.int) → Ary Z hL eb1 .char (f1.map Value.int) → (∀ c ∈ f0, 0 ≤ c.toInt ∧ c.toInt ≤ 255) → (∀ c ∈ f1, 0 ≤ c.toInt ∧ c.toInt ≤ 255) → f0.length ≤ 4 → f1.length ≤ 4 → spl false false [] (f0 ++ 44 :: f1) = [f0, f1] → Gets p.tables e below (Post s Z consts_1 room_1 h0 [] (fun v _ => v = some (.int 1))) TL (mkF m 193 #[.val (.int p0), .val (.long p1), .second, .val (.long p2), .second, .val (.long p3), .second, .val (.int 2), .val (.int xs0), .val (.int xs1), .val (.int xs2), .val (.ref eb0), .val (.ref eb1), .val (.ref eb2), .val (.int xle), .val (.ref va), .val (.int xat), .unset] []) := by
   intro TL hL nwL va eb0 eb1 eb2 xs0 xs1 xs2 xle xat f0 f1 WL VA VE0 VE1 hl0 hl1 hg0 hg1 HS
   have hcl : (f0 ++ 44 :: f1).length ≤ 14 := by simp only [List.length_append, List.length_cons]; omega
   have lt_va : va < hL.size := VA.lt
   have lt_eb0 : eb0 < hL.size := VE0.lt
   have lt_eb1 : eb1 < hL.size := VE1.lt
   have hzL := WL.old.1
   refine w_new (pc' := 196) WL hx (M_ hw w_12) (M_ hw w_13) (M_ hw w_14) (hb hby at_193) (B_ rfl) (B_ rfl) rfl fun T588 h588 b588 g588 W588 K588 A588 D588 => ?_
   have z_K588 : hL.size ≤ h588.size := K588.1
   have ne_va_b588 : va ≠ b588 := by omega
   have ne_eb0_b588 : eb0 ≠ b588 := by omega
   have ne_eb1_b588 : eb1 ≠ b588 := by omega
   have lt_b588 : b588 < h588.size := W588.lt (List.mem_cons_self ..)
   have F588_value : Fld Z h588 b588 "java/lang/String" "value" "[B" .null := D588 (Or.inr (M_ hw w_27)) (ty := (.array .byte)) (by decide)
   have F588_coder : Fld Z h588 b588 "java/lang/String" "coder" "B" (.int 0) := D588 (Or.inr (M_ hw w_28)) (ty := .byte) (by decide)
   refine g_dup (pc' := 197) W588.here hx (hb hby at_196) rfl rfl ?_
   refine g_aload (pc' := 199) W588.here hx (hb hby at_197) rfl rfl rfl ?_
   have c589 := (VA.keep K588 nin0)
   refine w_special (pc' := 202) (st := [(.ref b588)]) (y := n_4) (a := b588) W588 hx [(.ref va)] rfl (M_ hw w_15) (M_ hw w_16) (M_ hw w_14) (M_ hw w_17) (by decide) (c_strC l Z a0 hw hE cc fm b588 va (f0 ++ 44 :: f1) h588 W588.old G hcl (own_lap hl0 hl1) c589 (by have := O.1; omega) A588 _ _ F588_coder F588_value (Ne.symm ne_va_b588)) (allS (List.mem_of_getElem? (i := 0) rfl) all0) (by rw [hml]; rfl) (lenOf pd_26 rfl) rfl (hb hby at_199) (B_ rfl) (B_ rfl) (B_ rfl) (B_ rfl) rfl fun v590 T590 h590 W590 K590 Q590 => ?_
   have z_K590 : h588.size ≤ h590.size := K590.1
   obtain ⟨rfl, sb591, S591⟩ := Q590
   have ES591 := S591.1
   have lt_sb591 : sb591 < h590.size := S591.ltb
   refine w_callS (pc' := 205) (st := []) (y := n_40) W590 hx [(.ref b588)] (M_ hw w_33) (M_ hw w_34) (M_ hw w_35) (M_ hw w_36) (by decide) (c_elems2 l Z a0 hw hE cc fm b588 sb591 (f0 ++ 44 :: f1) oD f0 f1 h590 W590.old G SD VD0 S591 hcl HS) all0 (by rw [hml]; rfl) (lenOf pd_27 rfl) rfl (hb hby at_202) (B_ rfl) (B_ rfl) (B_ rfl) (B_ rfl) rfl fun v592 T592 h592 W592 K592 Q592 => ?_
   have z_K592 : h590.size ≤ h592.size := K592.1
   obtain ⟨al593, da593, tt593_0, uu593_0, tt593_1, uu593_1, rfl, E593, FD593, FS593, VD593, SS593_0, SS593_1⟩ := Q592
   have lt_al593 : al593 < h592.size := E593.lt
   have lt_da593 : da593 < h592.size := VD593.lt
   have ESS593_0 := SS593_0.1
   have lt_tt593_0 : tt593_0 < h592.size := SS593_0.lt
   have lt_uu593_0 : uu593_0 < h592.size := SS593_0.ltb
   have ESS593_1 := SS593_1.1
   have lt_tt593_1 : tt593_1 < h592.size := SS593_1.lt
   have lt_uu593_1 : uu593_1 < h592.size := SS593_1.ltb
   refine g_astore (pc' := 207) (Ls' := #[.val (.int p0), .val (.long p1), .second, .val (.long p2), .second, .val (.long p3), .second, .val (.int 2), .val (.int xs0), .val (.int xs1), .val (.int xs2), .val (.ref eb0), .val (.ref eb1), .val (.ref eb2), .val (.int xle), .val (.ref va), .val (.int xat), .val (.ref al593)]) W592.here hx (hb hby at_205) rfl rfl rfl ?_
   refine g_aload (pc' := 209) W592.here hx (hb hby at_207) rfl rfl rfl ?_
   refine w_ifacep (pc' := 214) (st := []) (y := n_44) (z := n_36) (a := al593) W592 hx [] (M_ hw w_126) (M_ hw w_127) (M_ hw w_128) (M_ hw w_129) (M_ hw w_130) (M_ hw w_131) (M_ hw w_132) (M_ hw w_98) (M_ hw w_39) (M_ hw w_133) (by decide) (c_size l Z a0 hw hE al593 (2 : Int32) h592 W592.old FS593) E593 (by rw [hml]; rfl) (lenOf pd_15 rfl) rfl (hb hby at_209) (B_ rfl) (B_ rfl) rfl rfl (B_ rfl) (B_ rfl) rfl fun T594 W594 => ?_
   refine g_iload (pc' := 216) W594.here hx (hb hby at_214) rfl rfl ?_
   refine g_icmpN (pc' := 219) W594.here hx (hb hby at_216) rfl (teq (show (2 : Int32) = (2 : Int32) from (by decide))).2 ?_
   refine g_aload (pc' := 221) W594.here hx (hb hby at_219) rfl rfl rfl ?_
   refine g_iconst (0 : Int32) (pc' := 222) W594.here hx (hb hby at_221) rfl rfl ?_
   refine w_ifacep (pc' := 227) (st := []) (y := n_45) (z := n_39) (a := al593) W594 hx [(.int 0)] (M_ hw w_134) (M_ hw w_135) (M_ hw w_136) (M_ hw w_137) (M_ hw w_138) (M_ hw w_139) (M_ hw w_140) (M_ hw w_98) (M_ hw w_39) (M_ hw w_141) (by decide) (c_get l Z a0 hw hE al593 da593 tt593_0 (0 : Int32) (2 : Int32) _ h592 W594.old FD593 VD593 (by decide) rfl E593 FS593 (by decide)) E593 (by rw [hml]; rfl) (lenOf pd_23 rfl) rfl (hb hby at_222) (B_ rfl) (B_ rfl) rfl rfl (B_ rfl) (B_ rfl) rfl fun T595 W595 => ?_
   refine w_cast (pc' := 230) W595 hx (M_ hw w_12) (Ins.self ESS593_0) (hb hby at_227) rfl fun T596 W596 => ?_
   refine w_new (pc' := 233) W596 hx (M_ hw w_12) (M_ hw w_13) (M_ hw w_14) (hb hby at_230) (B_ rfl) (B_ rfl) rfl fun T597 h597 b597 g597 W597 K597 A597 D597 => ?_
   have z_K597 : h592.size ≤ h597.size := K597.1
   have ne_va_b597 : va ≠ b597 := by omega
   have ne_eb0_b597 : eb0 ≠ b597 := by omega
   have ne_eb1_b597 : eb1 ≠ b597 := by omega
   have ne_b588_b597 : b588 ≠ b597 := by omega
   have ne_sb591_b597 : sb591 ≠ b597 := by omega
   have ne_al593_b597 : al593 ≠ b597 := by omega
   have ne_da593_b597 : da593 ≠ b597 := by omega
   have ne_tt593_0_b597 : tt593_0 ≠ b597 := by omega
   have ne_uu593_0_b597 : uu593_0 ≠ b597 := by omega
   have ne_tt593_1_b597 : tt593_1 ≠ b597 := by omega
   have ne_uu593_1_b597 : uu593_1 ≠ b597 := by omega
   have lt_b597 : b597 < h597.size := W597.lt (List.mem_cons_self ..)
   have F597_value : Fld Z h597 b597 "java/lang/String" "value" "[B" .null := D597 (Or.inr (M_ hw w_27)) (ty := (.array .byte)) (by decide)
   have F597_coder : Fld Z h597 b597 "java/lang/String" "coder" "B" (.int 0) := D597 (Or.inr (M_ hw w_28)) (ty := .byte) (by decide)
   refine g_dup (pc' := 234) W597.here hx (hb hby at_233) rfl rfl ?_
   refine g_aload (pc' := 236) W597.here hx (hb hby at_234) rfl rfl rfl ?_
   have c598 := ((((VE0.keep K588 nin0).keep K590 (ninS ne_eb0_b588 nin0)).keep K592 nin0).keep K597 nin0)
   refine w_special (pc' := 239) (st := [(.ref b597), (.ref tt593_0)]) (y := n_4) (a := b597) W597 hx [(.ref eb0)] rfl (M_ hw w_15) (M_ hw w_16) (M_ hw w_14) (M_ hw w_17) (by decide) (c_strC l Z a0 hw hE cc fm b597 eb0 f0 h597 W597.old G (by omega) hl0 c598 (by have := O.1; omega) A597 _ _ F597_coder F597_value (Ne.symm ne_eb0_b597)) (allS (List.mem_of_getElem? (i := 0) rfl) all0) (by rw [hml]; rfl) (lenOf pd_26 rfl) rfl (hb hby at_236) (B_ rfl) (B_ rfl) (B_ rfl) (B_ rfl) rfl fun v599 T599 h599 W599 K599 Q599 => ?_
   have z_K599 : h597.size ≤ h599.size := K599.1
   obtain ⟨rfl, sb600, S600⟩ := Q599
   have ES600 := S600.1
   have lt_sb600 : sb600 < h599.size := S600.ltb
   have c601 := ((SS593_0.keep K597 nin0 nin0).keep K599 (ninS ne_tt593_0_b597 nin0) (ninS ne_uu593_0_b597 nin0))
   have c603 := ((ESS593_0.keep K597).keep K599)
   refine w_virtualp (pc' := 242) (st := []) (y := n_13) (z := n_13) (a := tt593_0) W599 hx [(.ref b597)] (M_ hw w_154) (M_ hw w_155) (nfS (z := n_13) (M_ hw w_157)) (M_ hw w_157) (M_ hw w_156) (M_ hw w_14) (M_ hw w_158) (by decide) (c_equals l Z a0 hw hE cc fm tt593_0 uu593_0 f0 b597 sb600 f0  h599 W599.old G c601 S600 ne_tt593_0_b597) c603 (by rw [hml]; rfl) (lenOf pd_25 rfl) rfl (hb hby at_239) (B_ rfl) (B_ rfl) rfl rfl (B_ rfl) (B_ rfl) rfl fun T602 W602 => ?_
   refine g_ifN (pc' := 245) W602.here hx (hb hby at_242) rfl (feq (show ¬ ((if f0 = f0 then (1 : Int32) else 0) = (0 : Int32)) from (by rw [if_pos rfl]; decide))).1 ?_
   refine g_iload (pc' := 247) W602.here hx (hb hby at_245) rfl rfl ?_
   refine g_iconst (2 : Int32) (pc' := 248) W602.here hx (hb hby at_247) rfl rfl ?_
   refine g_icmpN (pc' := 251) W602.here hx (hb hby at_248) rfl (flt (show ¬ ((2 : Int32) < (2 : Int32)) from (by decide))).1 ?_
   refine g_aload (pc' := 253) W602.here hx (hb hby at_251) rfl rfl rfl ?_
   refine g_iconst (1 : Int32) (pc' := 254) W602.here hx (hb hby at_253) rfl rfl ?_
   have c604 := ((FD593.keep K597 nin0).keep K599 (ninS ne_al593_b597 nin0))
   have c605 := ((VD593.keep K597 nin0).keep K599 (ninS ne_da593_b597 nin0))
   have c606 := ((E593.keep K597).keep K599)
   have c607 := ((FS593.keep K597 nin0).keep K599 (ninS ne_al593_b597 nin0))
   refine w_ifacep (pc' := 259) (st := []) (y := n_45) (z := n_39) (a := al593) W602 hx [(.int 1)] (M_ hw w_134) (M_ hw w_135) (M_ hw w_136) (M_ hw w_137) (M_ hw w_138) (M_ hw w_139) (M_ hw w_140) (M_ hw w_98) (M_ hw w_39) (M_ hw w_141) (by decide) (c_get l Z a0 hw hE al593 da593 tt593_1 (1 : Int32) (2 : Int32) _ h599 W602.old c604 c605 (by decide) rfl c606 c607 (by decide)) c606 (by rw [hml]; rfl) (lenOf pd_23 rfl) rfl (hb hby at_254) (B_ rfl) (B_ rfl) rfl rfl (B_ rfl) (B_ rfl) rfl fun T608 W608 => ?_
   have c609 := ((ESS593_1.keep K597).keep K599)
   refine w_cast (pc' := 262) W608 hx (M_ hw w_12) (Ins.self c609) (hb hby at_259) rfl fun T610 W610 => ?_
   refine w_new (pc' := 265) W610 hx (M_ hw w_12) (M_ hw w_13) (M_ hw w_14) (hb hby at_262) (B_ rfl) (B_ rfl) rfl fun T611 h611 b611 g611 W611 K611 A611 D611 => ?_
   have z_K611 : h599.size ≤ h611.size := K611.1
   have ne_va_b611 : va ≠ b611 := by omega
   have ne_eb0_b611 : eb0 ≠ b611 := by omega
   have ne_eb1_b611 : eb1 ≠ b611 := by omega
   have ne_b588_b611 : b588 ≠ b611 := by omega
   have ne_sb591_b611 : sb591 ≠ b611 := by omega
   have ne_al593_b611 : al593 ≠ b611 := by omega
   have ne_da593_b611 : da593 ≠ b611 := by omega
   have ne_tt593_0_b611 : tt593_0 ≠ b611 := by omega
   have ne_uu593_0_b611 : uu593_0 ≠ b611 := by omega
   have ne_tt593_1_b611 : tt593_1 ≠ b611 := by omega
   have ne_uu593_1_b611 : uu593_1 ≠ b611 := by omega
   have ne_b597_b611 : b597 ≠ b611 := by omega
   have ne_sb600_b611 : sb600 ≠ b611 := by omega
   have lt_b611 : b611 < h611.size := W611.lt (List.mem_cons_self ..)
   have F611_value : Fld Z h611 b611 "java/lang/String" "value" "[B" .null := D611 (Or.inr (M_ hw w_27)) (ty := (.array .byte)) (by decide)
   have F611_coder : Fld Z h611 b611 "java/lang/String" "coder" "B" (.int 0) := D611 (Or.inr (M_ hw w_28)) (ty := .byte) (by decide)
   refine g_dup (pc' := 266) W611.here hx (hb hby at_265) rfl rfl ?_
   refine g_aload (pc' := 268) W611.here hx (hb hby at_266) rfl rfl rfl ?_
   have c612 := ((((((VE1.keep K588 nin0).keep K590 (ninS ne_eb1_b588 nin0)).keep K592 nin0).keep K597 nin0).keep K599 (ninS ne_eb1_b597 nin0)).keep K611 nin0)
   refine w_special (pc' := 271) (st := [(.ref b611), (.ref tt593_1)]) (y := n_4) (a := b611) W611 hx [(.ref eb1)] rfl (M_ hw w_15) (M_ hw w_16) (M_ hw w_14) (M_ hw w_17) (by decide) (c_strC l Z a0 hw hE cc fm b611 eb1 f1 h611 W611.old G (by omega) hl1 c612 (by have := O.1; omega) A611 _ _ F611_coder F611_value (Ne.symm ne_eb1_b611)) (allS (List.mem_of_getElem? (i := 0) rfl) all0) (by rw [hml]; rfl) (lenOf pd_26 rfl) rfl (hb hby at_268) (B_ rfl) (B_ rfl) (B_ rfl) (B_ rfl) rfl fun v613 T613 h613 W613 K613 Q613 => ?_
   have z_K613 : h611.size ≤ h613.size := K613.1
   obtain ⟨rfl, sb614, S614⟩ := Q613
   have ES614 := S614.1
   have lt_sb614 : sb614 < h613.size := S614.ltb
   have c615 := ((((SS593_1.keep K597 nin0 nin0).keep K599 (ninS ne_tt593_1_b597 nin0) (ninS ne_uu593_1_b597 nin0)).keep K611 nin0 nin0).keep K613 (ninS ne_tt593_1_b611 nin0) (ninS ne_uu593_1_b611 nin0))
   have c617 := ((c609.keep K611).keep K613)
   refine w_virtualp (pc' := 274) (st := []) (y := n_13) (z := n_13) (a := tt593_1) W613 hx [(.ref b611)] (M_ hw w_154) (M_ hw w_155) (nfS (z := n_13) (M_ hw w_157)) (M_ hw w_157) (M_ hw w_156) (M_ hw w_14) (M_ hw w_158) (by decide) (c_equals l Z a0 hw hE cc fm tt593_1 uu593_1 f1 b611 sb614 f1  h613 W613.old G c615 S614 ne_tt593_1_b611) c617 (by rw [hml]; rfl) (lenOf pd_25 rfl) rfl (hb hby at_271) (B_ rfl) (B_ rfl) rfl rfl (B_ rfl) (B_ rfl) rfl fun T616 W616 => ?_
   refine g_ifN (pc' := 277) W616.here hx (hb hby at_274) rfl (feq (show ¬ ((if f1 = f1 then (1 : Int32) else 0) = (0 : Int32)) from (by rw [if_pos rfl]; decide))).1 ?_
   refine g_iload (pc' := 279) W616.here hx (hb hby at_277) rfl rfl ?_
   refine g_iconst (3 : Int32) (pc' := 280) W616.here hx (hb hby at_279) rfl rfl ?_
   refine g_icmpY (pc' := 309) W616.here hx (hb hby at_280) rfl (tlt (show (2 : Int32) < (3 : Int32) from (by decide))).1 ?_
   refine g_iconst (1 : Int32) (pc' := 310) W616.here hx (hb hby at_309) rfl rfl ?_
   refine g_goto (pc' := 314) W616.here hx (hb hby at_310) rfl ?_
   refine w_retN (t := .boolean) W616 hx hh hlk hret (by simp) (hb hby at_314) (B_ rfl) (B_ rfl) ?_
   exact rfl
  refine g_istore (pc' := 9) (Ls' := #[.val (.int p0), .val (.long p1), .second, .val (.long p2), .second, .val (.long p3), .second, .val (.int 2), .unset, .unset, .unset, .unset, .unset, .unset, .unset, .unset, .unset, .unset]) W0.here hx (hb hby at_7) rfl rfl ?_
  refine g_iloadN (pc' := 10) W0.here hx (hb hby at_9) rfl rfl ?_
  refine g_iconst (2 : Int32) (pc' := 11) W0.here hx (hb hby at_10) rfl rfl ?_
  refine g_iushr (pc' := 12) W0.here hx (hb hby at_11) rfl ?_
  refine g_bipush (7 : Int32) (pc' := 14) W0.here hx (hb hby at_12) rfl rfl ?_
  refine g_iand (pc' := 15) W0.here hx (hb hby at_14) rfl ?_
  obtain ⟨xq0, hxq0⟩ : ∃ zz_ : Int32, zz_ = (((p0.toUInt32 >>> ((2 : Int32) &&& 31).toUInt32).toInt32) &&& (7 : Int32)) := ⟨_, rfl⟩
  refine g_name (congrArg Value.int hxq0) ?_
  refine g_istore (pc' := 17) (Ls' := #[.val (.int p0), .val (.long p1), .second, .val (.long p2), .second, .val (.long p3), .second, .val (.int 2), .val (.int xq0), .unset, .unset, .unset, .unset, .unset, .unset, .unset, .unset, .unset]) W0.here hx (hb hby at_15) rfl rfl ?_
  refine g_iloadN (pc' := 18) W0.here hx (hb hby at_17) rfl rfl ?_
  refine g_iconst (5 : Int32) (pc' := 19) W0.here hx (hb hby at_18) rfl rfl ?_
  refine g_iushr (pc' := 20) W0.here hx (hb hby at_19) rfl ?_
  refine g_bipush (7 : Int32) (pc' := 22) W0.here hx (hb hby at_20) rfl rfl ?_
  refine g_iand (pc' := 23) W0.here hx (hb hby at_22) rfl ?_
  obtain ⟨xq1, hxq1⟩ : ∃ zz_ : Int32, zz_ = (((p0.toUInt32 >>> ((5 : Int32) &&& 31).toUInt32).toInt32) &&& (7 : Int32)) := ⟨_, rfl⟩
  refine g_name (congrArg Value.int hxq1) ?_
  refine g_istore (pc' := 25) (Ls' := #[.val (.int p0), .val (.long p1), .second, .val (.long p2), .second, .val (.long p3), .second, .val (.int 2), .val (.int xq0), .val (.int xq1), .unset, .unset, .unset, .unset, .unset, .unset, .unset, .unset]) W0.here hx (hb hby at_23) rfl rfl ?_
  refine g_iloadN (pc' := 26) W0.here hx (hb hby at_25) rfl rfl ?_
  refine g_bipush (8 : Int32) (pc' := 28) W0.here hx (hb hby at_26) rfl rfl ?_
  refine g_iushr (pc' := 29) W0.here hx (hb hby at_28) rfl ?_
  refine g_bipush (7 : Int32) (pc' := 31) W0.here hx (hb hby at_29) rfl rfl ?_
  refine g_iand (pc' := 32) W0.here hx (hb hby at_31) rfl ?_
  obtain ⟨xq2, hxq2⟩ : ∃ zz_ : Int32, zz_ = (((p0.toUInt32 >>> ((8 : Int32) &&& 31).toUInt32).toInt32) &&& (7 : Int32)) := ⟨_, rfl⟩
  refine g_name (congrArg Value.int hxq2) ?_
  refine g_istore (pc' := 34) (Ls' := #[.val (.int p0), .val (.long p1), .second, .val (.long p2), .second, .val (.long p3), .second, .val (.int 2), .val (.int xq0), .val (.int xq1), .val (.int xq2), .unset, .unset, .unset, .unset, .unset, .unset, .unset]) W0.here hx (hb hby at_32) rfl rfl ?_
  refine g_iload (pc' := 36) W0.here hx (hb hby at_34) rfl rfl ?_
  refine g_lloadN (pc' := 37) W0.here hx (hb hby at_36) rfl rfl ?_
  refine g_iload (pc' := 39) W0.here hx (hb hby at_37) rfl rfl ?_
  refine g_iconst (1 : Int32) (pc' := 40) W0.here hx (hb hby at_39) rfl rfl ?_
  refine g_icmpY (pc' := 47) W0.here hx (hb hby at_40) rfl (feq (show ¬ ((2 : Int32) = (1 : Int32)) from (by decide))).2 ?_
  refine g_iconst (0 : Int32) (pc' := 48) W0.here hx (hb hby at_47) rfl rfl ?_
  refine w_callS (pc' := 51) (st := []) (y := n_17) W0 hx [(.int xq0), (.long p1), (.int 0)] (M_ hw w_0) (M_ hw w_1) (M_ hw w_2) (M_ hw w_3) (by decide) (c_elem l Z a0 hw hE xq0 p1 (0 : Int32) h0 W0.old) all0 (by rw [hml]; rfl) (lenOf pd_28 rfl) rfl (hb hby at_48) (B_ rfl) (B_ rfl) (B_ rfl) (B_ rfl) rfl fun v618 T618 h618 W618 K618 Q618 => ?_
  have z_K618 : h0.size ≤ h618.size := K618.1
  obtain ⟨ea619, es619, rfl, gz619, VE619, hle619, hla619, gl619, gn619⟩ := Q618
  have lt_ea619 : ea619 < h618.size := VE619.lt
  rcases hle619 with hle619 | hle619
  ·
   obtain rfl := List.eq_nil_of_length_eq_zero hle619
   have V619 : Ary Z h618 ea619 .char [] := VE619
   refine g_astore (pc' := 53) (Ls' := #[.val (.int p0), .val (.long p1), .second, .val (.long p2), .second, .val (.long p3), .second, .val (.int 2), .val (.int xq0), .val (.int xq1), .val (.int xq2), .val (.ref ea619), .unset, .unset, .unset, .unset, .unset, .unset]) W618.here hx (hb hby at_51) rfl rfl rfl ?_
   refine g_iload (pc' := 55) W618.here hx (hb hby at_53) rfl rfl ?_
   refine g_iconst (2 : Int32) (pc' := 56) W618.here hx (hb hby at_55) rfl rfl ?_
   refine g_icmpN (pc' := 59) W618.here hx (hb hby at_56) rfl (flt (show ¬ ((2 : Int32) < (2 : Int32)) from (by decide))).1 ?_
   refine g_iload (pc' := 61) W618.here hx (hb hby at_59) rfl rfl ?_
   refine g_lloadN (pc' := 62) W618.here hx (hb hby at_61) rfl rfl ?_
   refine g_iload (pc' := 64) W618.here hx (hb hby at_62) rfl rfl ?_
   refine g_iconst (2 : Int32) (pc' := 65) W618.here hx (hb hby at_64) rfl rfl ?_
   refine g_icmpN (pc' := 68) W618.here hx (hb hby at_65) rfl (teq (show (2 : Int32) = (2 : Int32) from (by decide))).2 ?_
   refine g_iconst (1 : Int32) (pc' := 69) W618.here hx (hb hby at_68) rfl rfl ?_
   refine g_goto (pc' := 73) W618.here hx (hb hby at_69) rfl ?_
   refine w_callS (pc' := 76) (st := []) (y := n_17) W618 hx [(.int xq1), (.long p2), (.int 1)] (M_ hw w_0) (M_ hw w_1) (M_ hw w_2) (M_ hw w_3) (by decide) (c_elem l Z a0 hw hE xq1 p2 (1 : Int32) h618 W618.old) all0 (by rw [hml]; rfl) (lenOf pd_28 rfl) rfl (hb hby at_73) (B_ rfl) (B_ rfl) (B_ rfl) (B_ rfl) rfl fun v620 T620 h620 W620 K620 Q620 => ?_
   have z_K620 : h618.size ≤ h620.size := K620.1
   obtain ⟨ea621, es621, rfl, gz621, VE621, hle621, hla621, gl621, gn621⟩ := Q620
   have ne_ea619_ea621 : ea619 ≠ ea621 := by omega
   have lt_ea621 : ea621 < h620.size := VE621.lt
   rcases hle621 with hle621 | hle621
   ·
    obtain rfl := List.eq_nil_of_length_eq_zero hle621
    have V621 : Ary Z h620 ea621 .char [] := VE621
    refine g_goto (pc' := 82) W620.here hx (hb hby at_76) rfl ?_
    refine g_astore (pc' := 84) (Ls' := #[.val (.int p0), .val (.long p1), .second, .val (.long p2), .second, .val (.long p3), .second, .val (.int 2), .val (.int xq0), .val (.int xq1), .val (.int xq2), .val (.ref ea619), .val (.ref ea621), .unset, .unset, .unset, .unset, .unset]) W620.here hx (hb hby at_82) rfl rfl rfl ?_
    refine g_iload (pc' := 86) W620.here hx (hb hby at_84) rfl rfl ?_
    refine g_iconst (3 : Int32) (pc' := 87) W620.here hx (hb hby at_86) rfl rfl ?_
    refine g_icmpY (pc' := 101) W620.here hx (hb hby at_87) rfl (feq (show ¬ ((2 : Int32) = (3 : Int32)) from (by decide))).2 ?_
    refine g_iconst (0 : Int32) (pc' := 102) W620.here hx (hb hby at_101) rfl rfl ?_
    refine w_newarr (pc' := 104) (cap := 0) W620 hx (M_ hw w_5) (hb hby at_102) (by decide) (Nat.le_refl _) (B_ rfl) (B_ rfl) (B_ rfl) rfl rfl fun T622 h622 b622 g622 W622 K622 V622 => ?_
    have z_K622 : h620.size ≤ h622.size := K622.1
    have ne_ea619_b622 : ea619 ≠ b622 := by omega
    have ne_ea621_b622 : ea621 ≠ b622 := by omega
    have lt_b622 : b622 < h622.size := W622.lt (List.mem_cons_self ..)
    have V622 : Ary Z h622 b622 .char [] := V622
    refine g_astore (pc' := 106) (Ls' := #[.val (.int p0), .val (.long p1), .second, .val (.long p2), .second, .val (.long p3), .second, .val (.int 2), .val (.int xq0), .val (.int xq1), .val (.int xq2), .val (.ref ea619), .val (.ref ea621), .val (.ref b622), .unset, .unset, .unset, .unset]) W622.here hx (hb hby at_104) rfl rfl rfl ?_
    refine g_aload (pc' := 108) W622.here hx (hb hby at_106) rfl rfl rfl ?_
    have c623 := ((V619.keep K620 nin0).keep K622 nin0)
    refine w_len (pc' := 109) W622 hx c623 (hb hby at_108) rfl ?_
    refine g_name (w := .int (0 : Int32)) rfl ?_
    refine g_aload (pc' := 111) W622.here hx (hb hby at_109) rfl rfl rfl ?_
    have c624 := (V621.keep K622 nin0)
    refine w_len (pc' := 112) W622 hx c624 (hb hby at_111) rfl ?_
    refine g_name (w := .int (0 : Int32)) rfl ?_
    refine g_iadd (pc' := 113) W622.here hx (hb hby at_112) rfl ?_
    refine g_name (w := .int (0 : Int32)) (congrArg Value.int (by decide)) ?_
    refine g_aload (pc' := 115) W622.here hx (hb hby at_113) rfl rfl rfl ?_
    refine w_len (pc' := 116) W622 hx V622 (hb hby at_115) rfl ?_
    refine g_name (w := .int (0 : Int32)) rfl ?_
    refine g_iadd (pc' := 117) W622.here hx (hb hby at_116) rfl ?_
    refine g_name (w := .int (0 : Int32)) (congrArg Value.int (by decide)) ?_
    refine g_iload (pc' := 119) W622.here hx (hb hby at_117) rfl rfl ?_
    refine g_iconst (1 : Int32) (pc' := 120) W622.here hx (hb hby at_119) rfl rfl ?_
    refine g_isub (pc' := 121) W622.here hx (hb hby at_120) rfl ?_
    refine g_name (w := .int (1 : Int32)) (congrArg Value.int (by decide)) ?_
    refine g_iadd (pc' := 122) W622.here hx (hb hby at_121) rfl ?_
    refine g_name (w := .int (1 : Int32)) (congrArg Value.int (by decide)) ?_
    refine g_istore (pc' := 124) (Ls' := #[.val (.int p0), .val (.long p1), .second, .val (.long p2), .second, .val (.long p3), .second, .val (.int 2), .val (.int xq0), .val (.int xq1), .val (.int xq2), .val (.ref ea619), .val (.ref ea621), .val (.ref b622), .val (.int 1), .unset, .unset, .unset]) W622.here hx (hb hby at_122) rfl rfl ?_
    refine g_iload (pc' := 126) W622.here hx (hb hby at_124) rfl rfl ?_
    refine w_callSF (pc' := 129) (st := []) (y := n_43) W622 hx [(.int 1)] (M_ hw w_6) (M_ hw w_7) (M_ hw w_2) (M_ hw w_8) (by decide) (c_alloc1 l Z a0 hw hE h622 W622.old) all0 (by rw [hml]; rfl) (lenOf pd_29 rfl) rfl (hb hby at_126) (B_ rfl) (B_ rfl) (B_ rfl) (B_ rfl) rfl fun N626 v626 T626 h626 W626 K626 G626 Q626 => ?_
    have z_K626 : h622.size ≤ h626.size := K626.1
    obtain ⟨va627, rfl, rfl, V627⟩ := Q626
    have gz628 := (G626 va627 (List.mem_cons_self ..)).1
    have lt_va627 := (G626 va627 (List.mem_cons_self ..)).2
    have ne_ea619_va627 : ea619 ≠ va627 := by omega
    have ne_ea621_va627 : ea621 ≠ va627 := by omega
    have ne_b622_va627 : b622 ≠ va627 := by omega
    refine g_astore (pc' := 131) (Ls' := #[.val (.int p0), .val (.long p1), .second, .val (.long p2), .second, .val (.long p3), .second, .val (.int 2), .val (.int xq0), .val (.int xq1), .val (.int xq2), .val (.ref ea619), .val (.ref ea621), .val (.ref b622), .val (.int 1), .val (.ref va627), .unset, .unset]) W626.here hx (hb hby at_129) rfl rfl rfl ?_
    refine g_aload (pc' := 133) W626.here hx (hb hby at_131) rfl rfl rfl ?_
    refine g_iconst (0 : Int32) (pc' := 134) W626.here hx (hb hby at_133) rfl rfl ?_
    refine g_aload (pc' := 136) W626.here hx (hb hby at_134) rfl rfl rfl ?_
    have c629 := (c623.keep K626 nin0)
    refine w_callSp (pc' := 139) (st := []) (y := n_42) W626 hx [(.ref va627), (.int 0), (.ref ea619)] (M_ hw w_9) (M_ hw w_10) (M_ hw w_2) (M_ hw w_11) (by decide) (c_put0 l Z a0 hw hE va627 ea619 (0 : Int32) h626 W626.old c629) (by rw [hml]; rfl) (lenOf pd_30 rfl) rfl (hb hby at_136) (B_ rfl) (B_ rfl) rfl rfl (B_ rfl) (B_ rfl) rfl fun T630 W630 => ?_
    refine g_istore (pc' := 141) (Ls' := #[.val (.int p0), .val (.long p1), .second, .val (.long p2), .second, .val (.long p3), .second, .val (.int 2), .val (.int xq0), .val (.int xq1), .val (.int xq2), .val (.ref ea619), .val (.ref ea621), .val (.ref b622), .val (.int 1), .val (.ref va627), .val (.int 0), .unset]) W630.here hx (hb hby at_139) rfl rfl ?_
    refine g_iload (pc' := 143) W630.here hx (hb hby at_141) rfl rfl ?_
    refine g_iconst (2 : Int32) (pc' := 144) W630.here hx (hb hby at_143) rfl rfl ?_
    refine g_icmpN (pc' := 147) W630.here hx (hb hby at_144) rfl (flt (show ¬ ((2 : Int32) < (2 : Int32)) from (by decide))).1 ?_
    refine g_aload (pc' := 149) W630.here hx (hb hby at_147) rfl rfl rfl ?_
    refine g_iload (pc' := 151) W630.here hx (hb hby at_149) rfl rfl ?_
    refine g_bipush (44 : Int32) (pc' := 153) W630.here hx (hb hby at_151) rfl rfl ?_
    refine w_castore (pc' := 154) (x' := (44 : Int32)) W630 hx V627 (by decide) (Nat.lt_of_lt_of_le (Nat.lt_succ_self _) (B_ rfl)) (List.mem_of_getElem? (i := 0) rfl) (by decide) (hb hby at_153) rfl fun T631 h631 W631 K631 V631 => ?_
    have z_K631 : h626.size ≤ h631.size := K631.1
    have V631 : Ary Z h631 va627 .char [(.int 44)] := V631
    refine g_aload (pc' := 156) W631.here hx (hb hby at_154) rfl rfl rfl ?_
    refine g_iload (pc' := 158) W631.here hx (hb hby at_156) rfl rfl ?_
    refine g_iconst (1 : Int32) (pc' := 159) W631.here hx (hb hby at_158) rfl rfl ?_
    refine g_iadd (pc' := 160) W631.here hx (hb hby at_159) rfl ?_
    refine g_name (w := .int (1 : Int32)) (congrArg Value.int (by decide)) ?_
    refine g_aload (pc' := 162) W631.here hx (hb hby at_160) rfl rfl rfl ?_
    have c632 := ((c624.keep K626 nin0).keep K631 (ninS ne_ea621_va627 nin0))
    refine w_callSp (pc' := 165) (st := []) (y := n_42) W631 hx [(.ref va627), (.int 1), (.ref ea621)] (M_ hw w_9) (M_ hw w_10) (M_ hw w_2) (M_ hw w_11) (by decide) (c_put0 l Z a0 hw hE va627 ea621 (1 : Int32) h631 W631.old c632) (by rw [hml]; rfl) (lenOf pd_30 rfl) rfl (hb hby at_162) (B_ rfl) (B_ rfl) rfl rfl (B_ rfl) (B_ rfl) rfl fun T633 W633 => ?_
    refine g_istore (pc' := 167) (Ls' := #[.val (.int p0), .val (.long p1), .second, .val (.long p2), .second, .val (.long p3), .second, .val (.int 2), .val (.int xq0), .val (.int xq1), .val (.int xq2), .val (.ref ea619), .val (.ref ea621), .val (.ref b622), .val (.int 1), .val (.ref va627), .val (.int 1), .unset]) W633.here hx (hb hby at_165) rfl rfl ?_
    refine g_iload (pc' := 169) W633.here hx (hb hby at_167) rfl rfl ?_
    refine g_iconst (3 : Int32) (pc' := 170) W633.here hx (hb hby at_169) rfl rfl ?_
    refine g_icmpY (pc' := 193) W633.here hx (hb hby at_170) rfl (feq (show ¬ ((2 : Int32) = (3 : Int32)) from (by decide))).2 ?_
    have c634 := (c629.keep K631 (ninS ne_ea619_va627 nin0))
    exact TAIL _ _ _ va627 ea619 ea621 b622 xq0 xq1 xq2 (1 : Int32) (1 : Int32) [] [] W633 V631 c634 c632 hla619 hla621 (B_ rfl) (B_ rfl) (own_spl2 (gn619 rfl) gl621)
   ·
    obtain ⟨y621_0, y621_1, y621_2, y621_3, rfl⟩ := own_len4 hle621
    have V621 : Ary Z h620 ea621 .char [(.int y621_0), (.int y621_1), (.int y621_2), (.int y621_3)] := VE621
    have l_y621_0 := hla621 y621_0 (by simp)
    have l_y621_1 := hla621 y621_1 (by simp)
    have l_y621_2 := hla621 y621_2 (by simp)
    have l_y621_3 := hla621 y621_3 (by simp)
    refine g_goto (pc' := 82) W620.here hx (hb hby at_76) rfl ?_
    refine g_astore (pc' := 84) (Ls' := #[.val (.int p0), .val (.long p1), .second, .val (.long p2), .second, .val (.long p3), .second, .val (.int 2), .val (.int xq0), .val (.int xq1), .val (.int xq2), .val (.ref ea619), .val (.ref ea621), .unset, .unset, .unset, .unset, .unset]) W620.here hx (hb hby at_82) rfl rfl rfl ?_
    refine g_iload (pc' := 86) W620.here hx (hb hby at_84) rfl rfl ?_
    refine g_iconst (3 : Int32) (pc' := 87) W620.here hx (hb hby at_86) rfl rfl ?_
    refine g_icmpY (pc' := 101) W620.here hx (hb hby at_87) rfl (feq (show ¬ ((2 : Int32) = (3 : Int32)) from (by decide))).2 ?_
    refine g_iconst (0 : Int32) (pc' := 102) W620.here hx (hb hby at_101) rfl rfl ?_
    refine w_newarr (pc' := 104) (cap := 0) W620 hx (M_ hw w_5) (hb hby at_102) (by decide) (Nat.le_refl _) (B_ rfl) (B_ rfl) (B_ rfl) rfl rfl fun T635 h635 b635 g635 W635 K635 V635 => ?_
    have z_K635 : h620.size ≤ h635.size := K635.1
    have ne_ea619_b635 : ea619 ≠ b635 := by omega
    have ne_ea621_b635 : ea621 ≠ b635 := by omega
    have lt_b635 : b635 < h635.size := W635.lt (List.mem_cons_self ..)
    have V635 : Ary Z h635 b635 .char [] := V635
    refine g_astore (pc' := 106) (Ls' := #[.val (.int p0), .val (.long p1), .second, .val (.long p2), .second, .val (.long p3), .second, .val (.int 2), .val (.int xq0), .val (.int xq1), .val (.int xq2), .val (.ref ea619), .val (.ref ea621), .val (.ref b635), .unset, .unset, .unset, .unset]) W635.here hx (hb hby at_104) rfl rfl rfl ?_
    refine g_aload (pc' := 108) W635.here hx (hb hby at_106) rfl rfl rfl ?_
    have c636 := ((V619.keep K620 nin0).keep K635 nin0)
    refine w_len (pc' := 109) W635 hx c636 (hb hby at_108) rfl ?_
    refine g_name (w := .int (0 : Int32)) rfl ?_
    refine g_aload (pc' := 111) W635.here hx (hb hby at_109) rfl rfl rfl ?_
    have c637 := (V621.keep K635 nin0)
    refine w_len (pc' := 112) W635 hx c637 (hb hby at_111) rfl ?_
    refine g_name (w := .int (4 : Int32)) rfl ?_
    refine g_iadd (pc' := 113) W635.here hx (hb hby at_112) rfl ?_
    refine g_name (w := .int (4 : Int32)) (congrArg Value.int (by decide)) ?_
    refine g_aload (pc' := 115) W635.here hx (hb hby at_113) rfl rfl rfl ?_
    refine w_len (pc' := 116) W635 hx V635 (hb hby at_115) rfl ?_
    refine g_name (w := .int (0 : Int32)) rfl ?_
    refine g_iadd (pc' := 117) W635.here hx (hb hby at_116) rfl ?_
    refine g_name (w := .int (4 : Int32)) (congrArg Value.int (by decide)) ?_
    refine g_iload (pc' := 119) W635.here hx (hb hby at_117) rfl rfl ?_
    refine g_iconst (1 : Int32) (pc' := 120) W635.here hx (hb hby at_119) rfl rfl ?_
    refine g_isub (pc' := 121) W635.here hx (hb hby at_120) rfl ?_
    refine g_name (w := .int (1 : Int32)) (congrArg Value.int (by decide)) ?_
    refine g_iadd (pc' := 122) W635.here hx (hb hby at_121) rfl ?_
    refine g_name (w := .int (5 : Int32)) (congrArg Value.int (by decide)) ?_
    refine g_istore (pc' := 124) (Ls' := #[.val (.int p0), .val (.long p1), .second, .val (.long p2), .second, .val (.long p3), .second, .val (.int 2), .val (.int xq0), .val (.int xq1), .val (.int xq2), .val (.ref ea619), .val (.ref ea621), .val (.ref b635), .val (.int 5), .unset, .unset, .unset]) W635.here hx (hb hby at_122) rfl rfl ?_
    refine g_iload (pc' := 126) W635.here hx (hb hby at_124) rfl rfl ?_
    refine w_callSF (pc' := 129) (st := []) (y := n_43) W635 hx [(.int 5)] (M_ hw w_6) (M_ hw w_7) (M_ hw w_2) (M_ hw w_8) (by decide) (c_alloc5 l Z a0 hw hE h635 W635.old) all0 (by rw [hml]; rfl) (lenOf pd_29 rfl) rfl (hb hby at_126) (B_ rfl) (B_ rfl) (B_ rfl) (B_ rfl) rfl fun N639 v639 T639 h639 W639 K639 G639 Q639 => ?_
    have z_K639 : h635.size ≤ h639.size := K639.1
    obtain ⟨va640, rfl, rfl, V640⟩ := Q639
    have gz641 := (G639 va640 (List.mem_cons_self ..)).1
    have lt_va640 := (G639 va640 (List.mem_cons_self ..)).2
    have ne_ea619_va640 : ea619 ≠ va640 := by omega
    have ne_ea621_va640 : ea621 ≠ va640 := by omega
    have ne_b635_va640 : b635 ≠ va640 := by omega
    refine g_astore (pc' := 131) (Ls' := #[.val (.int p0), .val (.long p1), .second, .val (.long p2), .second, .val (.long p3), .second, .val (.int 2), .val (.int xq0), .val (.int xq1), .val (.int xq2), .val (.ref ea619), .val (.ref ea621), .val (.ref b635), .val (.int 5), .val (.ref va640), .unset, .unset]) W639.here hx (hb hby at_129) rfl rfl rfl ?_
    refine g_aload (pc' := 133) W639.here hx (hb hby at_131) rfl rfl rfl ?_
    refine g_iconst (0 : Int32) (pc' := 134) W639.here hx (hb hby at_133) rfl rfl ?_
    refine g_aload (pc' := 136) W639.here hx (hb hby at_134) rfl rfl rfl ?_
    have c642 := (c636.keep K639 nin0)
    refine w_callSp (pc' := 139) (st := []) (y := n_42) W639 hx [(.ref va640), (.int 0), (.ref ea619)] (M_ hw w_9) (M_ hw w_10) (M_ hw w_2) (M_ hw w_11) (by decide) (c_put0 l Z a0 hw hE va640 ea619 (0 : Int32) h639 W639.old c642) (by rw [hml]; rfl) (lenOf pd_30 rfl) rfl (hb hby at_136) (B_ rfl) (B_ rfl) rfl rfl (B_ rfl) (B_ rfl) rfl fun T643 W643 => ?_
    refine g_istore (pc' := 141) (Ls' := #[.val (.int p0), .val (.long p1), .second, .val (.long p2), .second, .val (.long p3), .second, .val (.int 2), .val (.int xq0), .val (.int xq1), .val (.int xq2), .val (.ref ea619), .val (.ref ea621), .val (.ref b635), .val (.int 5), .val (.ref va640), .val (.int 0), .unset]) W643.here hx (hb hby at_139) rfl rfl ?_
    refine g_iload (pc' := 143) W643.here hx (hb hby at_141) rfl rfl ?_
    refine g_iconst (2 : Int32) (pc' := 144) W643.here hx (hb hby at_143) rfl rfl ?_
    refine g_icmpN (pc' := 147) W643.here hx (hb hby at_144) rfl (flt (show ¬ ((2 : Int32) < (2 : Int32)) from (by decide))).1 ?_
    refine g_aload (pc' := 149) W643.here hx (hb hby at_147) rfl rfl rfl ?_
    refine g_iload (pc' := 151) W643.here hx (hb hby at_149) rfl rfl ?_
    refine g_bipush (44 : Int32) (pc' := 153) W643.here hx (hb hby at_151) rfl rfl ?_
    refine w_castore (pc' := 154) (x' := (44 : Int32)) W643 hx V640 (by decide) (Nat.lt_of_lt_of_le (Nat.lt_succ_self _) (B_ rfl)) (List.mem_of_getElem? (i := 0) rfl) (by decide) (hb hby at_153) rfl fun T644 h644 W644 K644 V644 => ?_
    have z_K644 : h639.size ≤ h644.size := K644.1
    have V644 : Ary Z h644 va640 .char [(.int 44), (.int 0), (.int 0), (.int 0), (.int 0)] := V644
    refine g_aload (pc' := 156) W644.here hx (hb hby at_154) rfl rfl rfl ?_
    refine g_iload (pc' := 158) W644.here hx (hb hby at_156) rfl rfl ?_
    refine g_iconst (1 : Int32) (pc' := 159) W644.here hx (hb hby at_158) rfl rfl ?_
    refine g_iadd (pc' := 160) W644.here hx (hb hby at_159) rfl ?_
    refine g_name (w := .int (1 : Int32)) (congrArg Value.int (by decide)) ?_
    refine g_aload (pc' := 162) W644.here hx (hb hby at_160) rfl rfl rfl ?_
    have c645 := ((c637.keep K639 nin0).keep K644 (ninS ne_ea621_va640 nin0))
    refine w_callS (pc' := 165) (st := []) (y := n_42) W644 hx [(.ref va640), (.int 1), (.ref ea621)] (M_ hw w_9) (M_ hw w_10) (M_ hw w_2) (M_ hw w_11) (by decide) (c_put5 l Z a0 hw hE va640 ea621 y621_0 y621_1 y621_2 y621_3 _ h644 W644.old (by have := O.1; omega) V644 (B_ rfl) c645 (Ne.symm ne_ea621_va640) l_y621_0 l_y621_1 l_y621_2 l_y621_3) (allS (List.mem_of_getElem? (i := 0) rfl) all0) (by rw [hml]; rfl) (lenOf pd_30 rfl) rfl (hb hby at_162) (B_ rfl) (B_ rfl) (B_ rfl) (B_ rfl) rfl fun v653 T653 h653 W653 K653 Q653 => ?_
    have z_K653 : h644.size ≤ h653.size := K653.1
    obtain ⟨rfl, VX654⟩ := Q653
    have V654 : Ary Z h653 va640 .char [(.int 44), (.int y621_0), (.int y621_1), (.int y621_2), (.int y621_3)] := VX654
    refine g_istore (pc' := 167) (Ls' := #[.val (.int p0), .val (.long p1), .second, .val (.long p2), .second, .val (.long p3), .second, .val (.int 2), .val (.int xq0), .val (.int xq1), .val (.int xq2), .val (.ref ea619), .val (.ref ea621), .val (.ref b635), .val (.int 5), .val (.ref va640), .val (.int 5), .unset]) W653.here hx (hb hby at_165) rfl rfl ?_
    refine g_iload (pc' := 169) W653.here hx (hb hby at_167) rfl rfl ?_
    refine g_iconst (3 : Int32) (pc' := 170) W653.here hx (hb hby at_169) rfl rfl ?_
    refine g_icmpY (pc' := 193) W653.here hx (hb hby at_170) rfl (feq (show ¬ ((2 : Int32) = (3 : Int32)) from (by decide))).2 ?_
    have c655 := ((c642.keep K644 (ninS ne_ea619_va640 nin0)).keep K653 (ninS ne_ea619_va640 nin0))
    have c656 := (c645.keep K653 (ninS ne_ea621_va640 nin0))
    exact TAIL _ _ _ va640 ea619 ea621 b635 xq0 xq1 xq2 (5 : Int32) (5 : Int32) [] [y621_0, y621_1, y621_2, y621_3] W653 V654 c655 c656 hla619 hla621 (B_ rfl) (B_ rfl) (own_spl2 (gn619 rfl) gl621)
  ·
   obtain ⟨y619_0, y619_1, y619_2, y619_3, rfl⟩ := own_len4 hle619
   have V619 : Ary Z h618 ea619 .char [(.int y619_0), (.int y619_1), (.int y619_2), (.int y619_3)] := VE619
   have l_y619_0 := hla619 y619_0 (by simp)
   have l_y619_1 := hla619 y619_1 (by simp)
   have l_y619_2 := hla619 y619_2 (by simp)
   have l_y619_3 := hla619 y619_3 (by simp)
   refine g_astore (pc' := 53) (Ls' := #[.val (.int p0), .val (.long p1), .second, .val (.long p2), .second, .val (.long p3), .second, .val (.int 2), .val (.int xq0), .val (.int xq1), .val (.int xq2), .val (.ref ea619), .unset, .unset, .unset, .unset, .unset, .unset]) W618.here hx (hb hby at_51) rfl rfl rfl ?_
   refine g_iload (pc' := 55) W618.here hx (hb hby at_53) rfl rfl ?_
   refine g_iconst (2 : Int32) (pc' := 56) W618.here hx (hb hby at_55) rfl rfl ?_
   refine g_icmpN (pc' := 59) W618.here hx (hb hby at_56) rfl (flt (show ¬ ((2 : Int32) < (2 : Int32)) from (by decide))).1 ?_
   refine g_iload (pc' := 61) W618.here hx (hb hby at_59) rfl rfl ?_
   refine g_lloadN (pc' := 62) W618.here hx (hb hby at_61) rfl rfl ?_
   refine g_iload (pc' := 64) W618.here hx (hb hby at_62) rfl rfl ?_
   refine g_iconst (2 : Int32) (pc' := 65) W618.here hx (hb hby at_64) rfl rfl ?_
   refine g_icmpN (pc' := 68) W618.here hx (hb hby at_65) rfl (teq (show (2 : Int32) = (2 : Int32) from (by decide))).2 ?_
   refine g_iconst (1 : Int32) (pc' := 69) W618.here hx (hb hby at_68) rfl rfl ?_
   refine g_goto (pc' := 73) W618.here hx (hb hby at_69) rfl ?_
   refine w_callS (pc' := 76) (st := []) (y := n_17) W618 hx [(.int xq1), (.long p2), (.int 1)] (M_ hw w_0) (M_ hw w_1) (M_ hw w_2) (M_ hw w_3) (by decide) (c_elem l Z a0 hw hE xq1 p2 (1 : Int32) h618 W618.old) all0 (by rw [hml]; rfl) (lenOf pd_28 rfl) rfl (hb hby at_73) (B_ rfl) (B_ rfl) (B_ rfl) (B_ rfl) rfl fun v657 T657 h657 W657 K657 Q657 => ?_
   have z_K657 : h618.size ≤ h657.size := K657.1
   obtain ⟨ea658, es658, rfl, gz658, VE658, hle658, hla658, gl658, gn658⟩ := Q657
   have ne_ea619_ea658 : ea619 ≠ ea658 := by omega
   have lt_ea658 : ea658 < h657.size := VE658.lt
   rcases hle658 with hle658 | hle658
   ·
    obtain rfl := List.eq_nil_of_length_eq_zero hle658
    have V658 : Ary Z h657 ea658 .char [] := VE658
    refine g_goto (pc' := 82) W657.here hx (hb hby at_76) rfl ?_
    refine g_astore (pc' := 84) (Ls' := #[.val (.int p0), .val (.long p1), .second, .val (.long p2), .second, .val (.long p3), .second, .val (.int 2), .val (.int xq0), .val (.int xq1), .val (.int xq2), .val (.ref ea619), .val (.ref ea658), .unset, .unset, .unset, .unset, .unset]) W657.here hx (hb hby at_82) rfl rfl rfl ?_
    refine g_iload (pc' := 86) W657.here hx (hb hby at_84) rfl rfl ?_
    refine g_iconst (3 : Int32) (pc' := 87) W657.here hx (hb hby at_86) rfl rfl ?_
    refine g_icmpY (pc' := 101) W657.here hx (hb hby at_87) rfl (feq (show ¬ ((2 : Int32) = (3 : Int32)) from (by decide))).2 ?_
    refine g_iconst (0 : Int32) (pc' := 102) W657.here hx (hb hby at_101) rfl rfl ?_
    refine w_newarr (pc' := 104) (cap := 0) W657 hx (M_ hw w_5) (hb hby at_102) (by decide) (Nat.le_refl _) (B_ rfl) (B_ rfl) (B_ rfl) rfl rfl fun T659 h659 b659 g659 W659 K659 V659 => ?_
    have z_K659 : h657.size ≤ h659.size := K659.1
    have ne_ea619_b659 : ea619 ≠ b659 := by omega
    have ne_ea658_b659 : ea658 ≠ b659 := by omega
    have lt_b659 : b659 < h659.size := W659.lt (List.mem_cons_self ..)
    have V659 : Ary Z h659 b659 .char [] := V659
    refine g_astore (pc' := 106) (Ls' := #[.val (.int p0), .val (.long p1), .second, .val (.long p2), .second, .val (.long p3), .second, .val (.int 2), .val (.int xq0), .val (.int xq1), .val (.int xq2), .val (.ref ea619), .val (.ref ea658), .val (.ref b659), .unset, .unset, .unset, .unset]) W659.here hx (hb hby at_104) rfl rfl rfl ?_
    refine g_aload (pc' := 108) W659.here hx (hb hby at_106) rfl rfl rfl ?_
    have c660 := ((V619.keep K657 nin0).keep K659 nin0)
    refine w_len (pc' := 109) W659 hx c660 (hb hby at_108) rfl ?_
    refine g_name (w := .int (4 : Int32)) rfl ?_
    refine g_aload (pc' := 111) W659.here hx (hb hby at_109) rfl rfl rfl ?_
    have c661 := (V658.keep K659 nin0)
    refine w_len (pc' := 112) W659 hx c661 (hb hby at_111) rfl ?_
    refine g_name (w := .int (0 : Int32)) rfl ?_
    refine g_iadd (pc' := 113) W659.here hx (hb hby at_112) rfl ?_
    refine g_name (w := .int (4 : Int32)) (congrArg Value.int (by decide)) ?_
    refine g_aload (pc' := 115) W659.here hx (hb hby at_113) rfl rfl rfl ?_
    refine w_len (pc' := 116) W659 hx V659 (hb hby at_115) rfl ?_
    refine g_name (w := .int (0 : Int32)) rfl ?_
    refine g_iadd (pc' := 117) W659.here hx (hb hby at_116) rfl ?_
    refine g_name (w := .int (4 : Int32)) (congrArg Value.int (by decide)) ?_
    refine g_iload (pc' := 119) W659.here hx (hb hby at_117) rfl rfl ?_
    refine g_iconst (1 : Int32) (pc' := 120) W659.here hx (hb hby at_119) rfl rfl ?_
    refine g_isub (pc' := 121) W659.here hx (hb hby at_120) rfl ?_
    refine g_name (w := .int (1 : Int32)) (congrArg Value.int (by decide)) ?_
    refine g_iadd (pc' := 122) W659.here hx (hb hby at_121) rfl ?_
    refine g_name (w := .int (5 : Int32)) (congrArg Value.int (by decide)) ?_
    refine g_istore (pc' := 124) (Ls' := #[.val (.int p0), .val (.long p1), .second, .val (.long p2), .second, .val (.long p3), .second, .val (.int 2), .val (.int xq0), .val (.int xq1), .val (.int xq2), .val (.ref ea619), .val (.ref ea658), .val (.ref b659), .val (.int 5), .unset, .unset, .unset]) W659.here hx (hb hby at_122) rfl rfl ?_
    refine g_iload (pc' := 126) W659.here hx (hb hby at_124) rfl rfl ?_
    refine w_callSF (pc' := 129) (st := []) (y := n_43) W659 hx [(.int 5)] (M_ hw w_6) (M_ hw w_7) (M_ hw w_2) (M_ hw w_8) (by decide) (c_alloc5 l Z a0 hw hE h659 W659.old) all0 (by rw [hml]; rfl) (lenOf pd_29 rfl) rfl (hb hby at_126) (B_ rfl) (B_ rfl) (B_ rfl) (B_ rfl) rfl fun N662 v662 T662 h662 W662 K662 G662 Q662 => ?_
    have z_K662 : h659.size ≤ h662.size := K662.1
    obtain ⟨va663, rfl, rfl, V663⟩ := Q662
    have gz664 := (G662 va663 (List.mem_cons_self ..)).1
    have lt_va663 := (G662 va663 (List.mem_cons_self ..)).2
    have ne_ea619_va663 : ea619 ≠ va663 := by omega
    have ne_ea658_va663 : ea658 ≠ va663 := by omega
    have ne_b659_va663 : b659 ≠ va663 := by omega
    refine g_astore (pc' := 131) (Ls' := #[.val (.int p0), .val (.long p1), .second, .val (.long p2), .second, .val (.long p3), .second, .val (.int 2), .val (.int xq0), .val (.int xq1), .val (.int xq2), .val (.ref ea619), .val (.ref ea658), .val (.ref b659), .val (.int 5), .val (.ref va663), .unset, .unset]) W662.here hx (hb hby at_129) rfl rfl rfl ?_
    refine g_aload (pc' := 133) W662.here hx (hb hby at_131) rfl rfl rfl ?_
    refine g_iconst (0 : Int32) (pc' := 134) W662.here hx (hb hby at_133) rfl rfl ?_
    refine g_aload (pc' := 136) W662.here hx (hb hby at_134) rfl rfl rfl ?_
    have c665 := (c660.keep K662 nin0)
    refine w_callS (pc' := 139) (st := []) (y := n_42) W662 hx [(.ref va663), (.int 0), (.ref ea619)] (M_ hw w_9) (M_ hw w_10) (M_ hw w_2) (M_ hw w_11) (by decide) (c_put4 l Z a0 hw hE va663 ea619 y619_0 y619_1 y619_2 y619_3 _ h662 W662.old (by have := O.1; omega) V663 (B_ rfl) c665 (Ne.symm ne_ea619_va663) l_y619_0 l_y619_1 l_y619_2 l_y619_3) (allS (List.mem_of_getElem? (i := 0) rfl) all0) (by rw [hml]; rfl) (lenOf pd_30 rfl) rfl (hb hby at_136) (B_ rfl) (B_ rfl) (B_ rfl) (B_ rfl) rfl fun v666 T666 h666 W666 K666 Q666 => ?_
    have z_K666 : h662.size ≤ h666.size := K666.1
    obtain ⟨rfl, VX667⟩ := Q666
    have V667 : Ary Z h666 va663 .char [(.int y619_0), (.int y619_1), (.int y619_2), (.int y619_3), (.int 0)] := VX667
    refine g_istore (pc' := 141) (Ls' := #[.val (.int p0), .val (.long p1), .second, .val (.long p2), .second, .val (.long p3), .second, .val (.int 2), .val (.int xq0), .val (.int xq1), .val (.int xq2), .val (.ref ea619), .val (.ref ea658), .val (.ref b659), .val (.int 5), .val (.ref va663), .val (.int 4), .unset]) W666.here hx (hb hby at_139) rfl rfl ?_
    refine g_iload (pc' := 143) W666.here hx (hb hby at_141) rfl rfl ?_
    refine g_iconst (2 : Int32) (pc' := 144) W666.here hx (hb hby at_143) rfl rfl ?_
    refine g_icmpN (pc' := 147) W666.here hx (hb hby at_144) rfl (flt (show ¬ ((2 : Int32) < (2 : Int32)) from (by decide))).1 ?_
    refine g_aload (pc' := 149) W666.here hx (hb hby at_147) rfl rfl rfl ?_
    refine g_iload (pc' := 151) W666.here hx (hb hby at_149) rfl rfl ?_
    refine g_bipush (44 : Int32) (pc' := 153) W666.here hx (hb hby at_151) rfl rfl ?_
    refine w_castore (pc' := 154) (x' := (44 : Int32)) W666 hx V667 (by decide) (Nat.lt_of_lt_of_le (Nat.lt_succ_self _) (B_ rfl)) (List.mem_of_getElem? (i := 0) rfl) (by decide) (hb hby at_153) rfl fun T668 h668 W668 K668 V668 => ?_
    have z_K668 : h666.size ≤ h668.size := K668.1
    have V668 : Ary Z h668 va663 .char [(.int y619_0), (.int y619_1), (.int y619_2), (.int y619_3), (.int 44)] := V668
    refine g_aload (pc' := 156) W668.here hx (hb hby at_154) rfl rfl rfl ?_
    refine g_iload (pc' := 158) W668.here hx (hb hby at_156) rfl rfl ?_
    refine g_iconst (1 : Int32) (pc' := 159) W668.here hx (hb hby at_158) rfl rfl ?_
    refine g_iadd (pc' := 160) W668.here hx (hb hby at_159) rfl ?_
    refine g_name (w := .int (5 : Int32)) (congrArg Value.int (by decide)) ?_
    refine g_aload (pc' := 162) W668.here hx (hb hby at_160) rfl rfl rfl ?_
    have c669 := (((c661.keep K662 nin0).keep K666 (ninS ne_ea658_va663 nin0)).keep K668 (ninS ne_ea658_va663 nin0))
    refine w_callSp (pc' := 165) (st := []) (y := n_42) W668 hx [(.ref va663), (.int 5), (.ref ea658)] (M_ hw w_9) (M_ hw w_10) (M_ hw w_2) (M_ hw w_11) (by decide) (c_put0 l Z a0 hw hE va663 ea658 (5 : Int32) h668 W668.old c669) (by rw [hml]; rfl) (lenOf pd_30 rfl) rfl (hb hby at_162) (B_ rfl) (B_ rfl) rfl rfl (B_ rfl) (B_ rfl) rfl fun T670 W670 => ?_
    refine g_istore (pc' := 167) (Ls' := #[.val (.int p0), .val (.long p1), .second, .val (.long p2), .second, .val (.long p3), .second, .val (.int 2), .val (.int xq0), .val (.int xq1), .val (.int xq2), .val (.ref ea619), .val (.ref ea658), .val (.ref b659), .val (.int 5), .val (.ref va663), .val (.int 5), .unset]) W670.here hx (hb hby at_165) rfl rfl ?_
    refine g_iload (pc' := 169) W670.here hx (hb hby at_167) rfl rfl ?_
    refine g_iconst (3 : Int32) (pc' := 170) W670.here hx (hb hby at_169) rfl rfl ?_
    refine g_icmpY (pc' := 193) W670.here hx (hb hby at_170) rfl (feq (show ¬ ((2 : Int32) = (3 : Int32)) from (by decide))).2 ?_
    have c671 := ((c665.keep K666 (ninS ne_ea619_va663 nin0)).keep K668 (ninS ne_ea619_va663 nin0))
    exact TAIL _ _ _ va663 ea619 ea658 b659 xq0 xq1 xq2 (5 : Int32) (5 : Int32) [y619_0, y619_1, y619_2, y619_3] [] W670 V668 c671 c669 hla619 hla658 (B_ rfl) (B_ rfl) (own_spl2 (gn619 rfl) gl658)
   ·
    obtain ⟨y658_0, y658_1, y658_2, y658_3, rfl⟩ := own_len4 hle658
    have V658 : Ary Z h657 ea658 .char [(.int y658_0), (.int y658_1), (.int y658_2), (.int y658_3)] := VE658
    have l_y658_0 := hla658 y658_0 (by simp)
    have l_y658_1 := hla658 y658_1 (by simp)
    have l_y658_2 := hla658 y658_2 (by simp)
    have l_y658_3 := hla658 y658_3 (by simp)
    refine g_goto (pc' := 82) W657.here hx (hb hby at_76) rfl ?_
    refine g_astore (pc' := 84) (Ls' := #[.val (.int p0), .val (.long p1), .second, .val (.long p2), .second, .val (.long p3), .second, .val (.int 2), .val (.int xq0), .val (.int xq1), .val (.int xq2), .val (.ref ea619), .val (.ref ea658), .unset, .unset, .unset, .unset, .unset]) W657.here hx (hb hby at_82) rfl rfl rfl ?_
    refine g_iload (pc' := 86) W657.here hx (hb hby at_84) rfl rfl ?_
    refine g_iconst (3 : Int32) (pc' := 87) W657.here hx (hb hby at_86) rfl rfl ?_
    refine g_icmpY (pc' := 101) W657.here hx (hb hby at_87) rfl (feq (show ¬ ((2 : Int32) = (3 : Int32)) from (by decide))).2 ?_
    refine g_iconst (0 : Int32) (pc' := 102) W657.here hx (hb hby at_101) rfl rfl ?_
    refine w_newarr (pc' := 104) (cap := 0) W657 hx (M_ hw w_5) (hb hby at_102) (by decide) (Nat.le_refl _) (B_ rfl) (B_ rfl) (B_ rfl) rfl rfl fun T672 h672 b672 g672 W672 K672 V672 => ?_
    have z_K672 : h657.size ≤ h672.size := K672.1
    have ne_ea619_b672 : ea619 ≠ b672 := by omega
    have ne_ea658_b672 : ea658 ≠ b672 := by omega
    have lt_b672 : b672 < h672.size := W672.lt (List.mem_cons_self ..)
    have V672 : Ary Z h672 b672 .char [] := V672
    refine g_astore (pc' := 106) (Ls' := #[.val (.int p0), .val (.long p1), .second, .val (.long p2), .second, .val (.long p3), .second, .val (.int 2), .val (.int xq0), .val (.int xq1), .val (.int xq2), .val (.ref ea619), .val (.ref ea658), .val (.ref b672), .unset, .unset, .unset, .unset]) W672.here hx (hb hby at_104) rfl rfl rfl ?_
    refine g_aload (pc' := 108) W672.here hx (hb hby at_106) rfl rfl rfl ?_
    have c673 := ((V619.keep K657 nin0).keep K672 nin0)
    refine w_len (pc' := 109) W672 hx c673 (hb hby at_108) rfl ?_
    refine g_name (w := .int (4 : Int32)) rfl ?_
    refine g_aload (pc' := 111) W672.here hx (hb hby at_109) rfl rfl rfl ?_
    have c674 := (V658.keep K672 nin0)
    refine w_len (pc' := 112) W672 hx c674 (hb hby at_111) rfl ?_
    refine g_name (w := .int (4 : Int32)) rfl ?_
    refine g_iadd (pc' := 113) W672.here hx (hb hby at_112) rfl ?_
    refine g_name (w := .int (8 : Int32)) (congrArg Value.int (by decide)) ?_
    refine g_aload (pc' := 115) W672.here hx (hb hby at_113) rfl rfl rfl ?_
    refine w_len (pc' := 116) W672 hx V672 (hb hby at_115) rfl ?_
    refine g_name (w := .int (0 : Int32)) rfl ?_
    refine g_iadd (pc' := 117) W672.here hx (hb hby at_116) rfl ?_
    refine g_name (w := .int (8 : Int32)) (congrArg Value.int (by decide)) ?_
    refine g_iload (pc' := 119) W672.here hx (hb hby at_117) rfl rfl ?_
    refine g_iconst (1 : Int32) (pc' := 120) W672.here hx (hb hby at_119) rfl rfl ?_
    refine g_isub (pc' := 121) W672.here hx (hb hby at_120) rfl ?_
    refine g_name (w := .int (1 : Int32)) (congrArg Value.int (by decide)) ?_
    refine g_iadd (pc' := 122) W672.here hx (hb hby at_121) rfl ?_
    refine g_name (w := .int (9 : Int32)) (congrArg Value.int (by decide)) ?_
    refine g_istore (pc' := 124) (Ls' := #[.val (.int p0), .val (.long p1), .second, .val (.long p2), .second, .val (.long p3), .second, .val (.int 2), .val (.int xq0), .val (.int xq1), .val (.int xq2), .val (.ref ea619), .val (.ref ea658), .val (.ref b672), .val (.int 9), .unset, .unset, .unset]) W672.here hx (hb hby at_122) rfl rfl ?_
    refine g_iload (pc' := 126) W672.here hx (hb hby at_124) rfl rfl ?_
    refine w_callSF (pc' := 129) (st := []) (y := n_43) W672 hx [(.int 9)] (M_ hw w_6) (M_ hw w_7) (M_ hw w_2) (M_ hw w_8) (by decide) (c_alloc9 l Z a0 hw hE h672 W672.old) all0 (by rw [hml]; rfl) (lenOf pd_29 rfl) rfl (hb hby at_126) (B_ rfl) (B_ rfl) (B_ rfl) (B_ rfl) rfl fun N676 v676 T676 h676 W676 K676 G676 Q676 => ?_
    have z_K676 : h672.size ≤ h676.size := K676.1
    obtain ⟨va677, rfl, rfl, V677⟩ := Q676
    have gz678 := (G676 va677 (List.mem_cons_self ..)).1
    have lt_va677 := (G676 va677 (List.mem_cons_self ..)).2
    have ne_ea619_va677 : ea619 ≠ va677 := by omega
    have ne_ea658_va677 : ea658 ≠ va677 := by omega
    have ne_b672_va677 : b672 ≠ va677 := by omega
    refine g_astore (pc' := 131) (Ls' := #[.val (.int p0), .val (.long p1), .second, .val (.long p2), .second, .val (.long p3), .second, .val (.int 2), .val (.int xq0), .val (.int xq1), .val (.int xq2), .val (.ref ea619), .val (.ref ea658), .val (.ref b672), .val (.int 9), .val (.ref va677), .unset, .unset]) W676.here hx (hb hby at_129) rfl rfl rfl ?_
    refine g_aload (pc' := 133) W676.here hx (hb hby at_131) rfl rfl rfl ?_
    refine g_iconst (0 : Int32) (pc' := 134) W676.here hx (hb hby at_133) rfl rfl ?_
    refine g_aload (pc' := 136) W676.here hx (hb hby at_134) rfl rfl rfl ?_
    have c679 := (c673.keep K676 nin0)
    refine w_callS (pc' := 139) (st := []) (y := n_42) W676 hx [(.ref va677), (.int 0), (.ref ea619)] (M_ hw w_9) (M_ hw w_10) (M_ hw w_2) (M_ hw w_11) (by decide) (c_put4 l Z a0 hw hE va677 ea619 y619_0 y619_1 y619_2 y619_3 _ h676 W676.old (by have := O.1; omega) V677 (B_ rfl) c679 (Ne.symm ne_ea619_va677) l_y619_0 l_y619_1 l_y619_2 l_y619_3) (allS (List.mem_of_getElem? (i := 0) rfl) all0) (by rw [hml]; rfl) (lenOf pd_30 rfl) rfl (hb hby at_136) (B_ rfl) (B_ rfl) (B_ rfl) (B_ rfl) rfl fun v680 T680 h680 W680 K680 Q680 => ?_
    have z_K680 : h676.size ≤ h680.size := K680.1
    obtain ⟨rfl, VX681⟩ := Q680
    have V681 : Ary Z h680 va677 .char [(.int y619_0), (.int y619_1), (.int y619_2), (.int y619_3), (.int 0), (.int 0), (.int 0), (.int 0), (.int 0)] := VX681
    refine g_istore (pc' := 141) (Ls' := #[.val (.int p0), .val (.long p1), .second, .val (.long p2), .second, .val (.long p3), .second, .val (.int 2), .val (.int xq0), .val (.int xq1), .val (.int xq2), .val (.ref ea619), .val (.ref ea658), .val (.ref b672), .val (.int 9), .val (.ref va677), .val (.int 4), .unset]) W680.here hx (hb hby at_139) rfl rfl ?_
    refine g_iload (pc' := 143) W680.here hx (hb hby at_141) rfl rfl ?_
    refine g_iconst (2 : Int32) (pc' := 144) W680.here hx (hb hby at_143) rfl rfl ?_
    refine g_icmpN (pc' := 147) W680.here hx (hb hby at_144) rfl (flt (show ¬ ((2 : Int32) < (2 : Int32)) from (by decide))).1 ?_
    refine g_aload (pc' := 149) W680.here hx (hb hby at_147) rfl rfl rfl ?_
    refine g_iload (pc' := 151) W680.here hx (hb hby at_149) rfl rfl ?_
    refine g_bipush (44 : Int32) (pc' := 153) W680.here hx (hb hby at_151) rfl rfl ?_
    refine w_castore (pc' := 154) (x' := (44 : Int32)) W680 hx V681 (by decide) (Nat.lt_of_lt_of_le (Nat.lt_succ_self _) (B_ rfl)) (List.mem_of_getElem? (i := 0) rfl) (by decide) (hb hby at_153) rfl fun T682 h682 W682 K682 V682 => ?_
    have z_K682 : h680.size ≤ h682.size := K682.1
    have V682 : Ary Z h682 va677 .char [(.int y619_0), (.int y619_1), (.int y619_2), (.int y619_3), (.int 44), (.int 0), (.int 0), (.int 0), (.int 0)] := V682
    refine g_aload (pc' := 156) W682.here hx (hb hby at_154) rfl rfl rfl ?_
    refine g_iload (pc' := 158) W682.here hx (hb hby at_156) rfl rfl ?_
    refine g_iconst (1 : Int32) (pc' := 159) W682.here hx (hb hby at_158) rfl rfl ?_
    refine g_iadd (pc' := 160) W682.here hx (hb hby at_159) rfl ?_
    refine g_name (w := .int (5 : Int32)) (congrArg Value.int (by decide)) ?_
    refine g_aload (pc' := 162) W682.here hx (hb hby at_160) rfl rfl rfl ?_
    have c683 := (((c674.keep K676 nin0).keep K680 (ninS ne_ea658_va677 nin0)).keep K682 (ninS ne_ea658_va677 nin0))
    refine w_callS (pc' := 165) (st := []) (y := n_42) W682 hx [(.ref va677), (.int 5), (.ref ea658)] (M_ hw w_9) (M_ hw w_10) (M_ hw w_2) (M_ hw w_11) (by decide) (c_put9 l Z a0 hw hE va677 ea658 y658_0 y658_1 y658_2 y658_3 _ h682 W682.old (by have := O.1; omega) V682 (B_ rfl) c683 (Ne.symm ne_ea658_va677) l_y658_0 l_y658_1 l_y658_2 l_y658_3) (allS (List.mem_of_getElem? (i := 0) rfl) all0) (by rw [hml]; rfl) (lenOf pd_30 rfl) rfl (hb hby at_162) (B_ rfl) (B_ rfl) (B_ rfl) (B_ rfl) rfl fun v691 T691 h691 W691 K691 Q691 => ?_
    have z_K691 : h682.size ≤ h691.size := K691.1
    obtain ⟨rfl, VX692⟩ := Q691
    have V692 : Ary Z h691 va677 .char [(.int y619_0), (.int y619_1), (.int y619_2), (.int y619_3), (.int 44), (.int y658_0), (.int y658_1), (.int y658_2), (.int y658_3)] := VX692
    refine g_istore (pc' := 167) (Ls' := #[.val (.int p0), .val (.long p1), .second, .val (.long p2), .second, .val (.long p3), .second, .val (.int 2), .val (.int xq0), .val (.int xq1), .val (.int xq2), .val (.ref ea619), .val (.ref ea658), .val (.ref b672), .val (.int 9), .val (.ref va677), .val (.int 9), .unset]) W691.here hx (hb hby at_165) rfl rfl ?_
    refine g_iload (pc' := 169) W691.here hx (hb hby at_167) rfl rfl ?_
    refine g_iconst (3 : Int32) (pc' := 170) W691.here hx (hb hby at_169) rfl rfl ?_
    refine g_icmpY (pc' := 193) W691.here hx (hb hby at_170) rfl (feq (show ¬ ((2 : Int32) = (3 : Int32)) from (by decide))).2 ?_
    have c693 := (((c679.keep K680 (ninS ne_ea619_va677 nin0)).keep K682 (ninS ne_ea619_va677 nin0)).keep K691 (ninS ne_ea619_va677 nin0))
    have c694 := (c683.keep K691 (ninS ne_ea658_va677 nin0))
    exact TAIL _ _ _ va677 ea619 ea658 b672 xq0 xq1 xq2 (9 : Int32) (9 : Int32) [y619_0, y619_1, y619_2, y619_3] [y658_0, y658_1, y658_2, y658_3] W691 V692 c693 c694 hla619 hla658 (B_ rfl) (B_ rfl) (own_spl2 (gn619 rfl) gl658)
 ·
  refine g_name (w := .int (3 : Int32)) (congrArg Value.int hn.symm) ?_
  have TAIL : ∀ (TL : State) (hL : Heap) (nwL : List Addr) (va eb0 eb1 eb2 : Nat) (xs0 xs1 xs2 xle xat : Int32) (f0 f1 f2 : List Int32), Wk p l e room_1 s m #[(.int p0), (.long p1), (.long p2), (.long p3)] below meth c Z consts_1 "com/example/despatch/despatch/http/HeaderListElementsPinLaw" [] nwL TL hL 4 26 → Ary Z hL va .char ((f0 ++ 44 :: (f1 ++ 44 :: f2)).map Value.int) → Ary Z hL eb0 .char (f0.map Value.int) → Ary Z hL eb1 .char (f1.map Value.int) → Ary Z hL eb2 .char (f2.map Value.int) → (∀ c ∈ f0, 0 ≤ c.toInt ∧ c.toInt ≤ 255) → (∀ c ∈ f1, 0 ≤ c.toInt ∧ c.toInt ≤ 255) → (∀ c ∈ f2, 0 ≤ c.toInt ∧ c.toInt ≤ 255) → f0.length ≤ 4 → f1.length ≤ 4 → f2.length ≤ 4 → spl false false [] (f0 ++ 44 :: (f1 ++ 44 :: f2)) = [f0, f1, f2] → Gets p.tables e below (Post s Z consts_1 room_1 h0 [] (fun v _ => v = some (.int 1))) TL (mkF m 193 #[.val (.int p0), .val (.long p1), .second, .val (.long p2), .second, .val (.long p3), .second, .val (.int 3), .val (.int xs0), .val (.int xs1), .val (.int xs2), .val (.ref eb0), .val (.ref eb1), .val (.ref eb2), .val (.int xle), .val (.ref va), .val (.int xat), .unset] []) := by
   intro TL hL nwL va eb0 eb1 eb2 xs0 xs1 xs2 xle xat f0 f1 f2 WL VA VE0 VE1 VE2 hl0 hl1 hl2 hg0 hg1 hg2 HS
   have hcl : (f0 ++ 44 :: (f1 ++ 44 :: f2)).length ≤ 14 := by simp only [List.length_append, List.length_cons]; omega
   have lt_va : va < hL.size := VA.lt
   have lt_eb0 : eb0 < hL.size := VE0.lt
   have lt_eb1 : eb1 < hL.size := VE1.lt
   have lt_eb2 : eb2 < hL.size := VE2.lt
   have hzL := WL.old.1
   refine w_new (pc' := 196) WL hx (M_ hw w_12) (M_ hw w_13) (M_ hw w_14) (hb hby at_193) (B_ rfl) (B_ rfl) rfl fun T695 h695 b695 g695 W695 K695 A695 D695 => ?_
   have z_K695 : hL.size ≤ h695.size := K695.1
   have ne_va_b695 : va ≠ b695 := by omega
   have ne_eb0_b695 : eb0 ≠ b695 := by omega
   have ne_eb1_b695 : eb1 ≠ b695 := by omega
   have ne_eb2_b695 : eb2 ≠ b695 := by omega
   have lt_b695 : b695 < h695.size := W695.lt (List.mem_cons_self ..)
   have F695_value : Fld Z h695 b695 "java/lang/String" "value" "[B" .null := D695 (Or.inr (M_ hw w_27)) (ty := (.array .byte)) (by decide)
   have F695_coder : Fld Z h695 b695 "java/lang/String" "coder" "B" (.int 0) := D695 (Or.inr (M_ hw w_28)) (ty := .byte) (by decide)
   refine g_dup (pc' := 197) W695.here hx (hb hby at_196) rfl rfl ?_
   refine g_aload (pc' := 199) W695.here hx (hb hby at_197) rfl rfl rfl ?_
   have c696 := (VA.keep K695 nin0)
   refine w_special (pc' := 202) (st := [(.ref b695)]) (y := n_4) (a := b695) W695 hx [(.ref va)] rfl (M_ hw w_15) (M_ hw w_16) (M_ hw w_14) (M_ hw w_17) (by decide) (c_strC l Z a0 hw hE cc fm b695 va (f0 ++ 44 :: (f1 ++ 44 :: f2)) h695 W695.old G hcl (own_lap hl0 (own_lap hl1 hl2)) c696 (by have := O.1; omega) A695 _ _ F695_coder F695_value (Ne.symm ne_va_b695)) (allS (List.mem_of_getElem? (i := 0) rfl) all0) (by rw [hml]; rfl) (lenOf pd_26 rfl) rfl (hb hby at_199) (B_ rfl) (B_ rfl) (B_ rfl) (B_ rfl) rfl fun v697 T697 h697 W697 K697 Q697 => ?_
   have z_K697 : h695.size ≤ h697.size := K697.1
   obtain ⟨rfl, sb698, S698⟩ := Q697
   have ES698 := S698.1
   have lt_sb698 : sb698 < h697.size := S698.ltb
   refine w_callS (pc' := 205) (st := []) (y := n_40) W697 hx [(.ref b695)] (M_ hw w_33) (M_ hw w_34) (M_ hw w_35) (M_ hw w_36) (by decide) (c_elems3 l Z a0 hw hE cc fm b695 sb698 (f0 ++ 44 :: (f1 ++ 44 :: f2)) oD f0 f1 f2 h697 W697.old G SD VD0 S698 hcl HS) all0 (by rw [hml]; rfl) (lenOf pd_27 rfl) rfl (hb hby at_202) (B_ rfl) (B_ rfl) (B_ rfl) (B_ rfl) rfl fun v699 T699 h699 W699 K699 Q699 => ?_
   have z_K699 : h697.size ≤ h699.size := K699.1
   obtain ⟨al700, da700, tt700_0, uu700_0, tt700_1, uu700_1, tt700_2, uu700_2, rfl, E700, FD700, FS700, VD700, SS700_0, SS700_1, SS700_2⟩ := Q699
   have lt_al700 : al700 < h699.size := E700.lt
   have lt_da700 : da700 < h699.size := VD700.lt
   have ESS700_0 := SS700_0.1
   have lt_tt700_0 : tt700_0 < h699.size := SS700_0.lt
   have lt_uu700_0 : uu700_0 < h699.size := SS700_0.ltb
   have ESS700_1 := SS700_1.1
   have lt_tt700_1 : tt700_1 < h699.size := SS700_1.lt
   have lt_uu700_1 : uu700_1 < h699.size := SS700_1.ltb
   have ESS700_2 := SS700_2.1
   have lt_tt700_2 : tt700_2 < h699.size := SS700_2.lt
   have lt_uu700_2 : uu700_2 < h699.size := SS700_2.ltb
   refine g_astore (pc' := 207) (Ls' := #[.val (.int p0), .val (.long p1), .second, .val (.long p2), .second, .val (.long p3), .second, .val (.int 3), .val (.int xs0), .val (.int xs1), .val (.int xs2), .val (.ref eb0), .val (.ref eb1), .val (.ref eb2), .val (.int xle), .val (.ref va), .val (.int xat), .val (.ref al700)]) W699.here hx (hb hby at_205) rfl rfl rfl ?_
   refine g_aload (pc' := 209) W699.here hx (hb hby at_207) rfl rfl rfl ?_
   refine w_ifacep (pc' := 214) (st := []) (y := n_44) (z := n_36) (a := al700) W699 hx [] (M_ hw w_126) (M_ hw w_127) (M_ hw w_128) (M_ hw w_129) (M_ hw w_130) (M_ hw w_131) (M_ hw w_132) (M_ hw w_98) (M_ hw w_39) (M_ hw w_133) (by decide) (c_size l Z a0 hw hE al700 (3 : Int32) h699 W699.old FS700) E700 (by rw [hml]; rfl) (lenOf pd_15 rfl) rfl (hb hby at_209) (B_ rfl) (B_ rfl) rfl rfl (B_ rfl) (B_ rfl) rfl fun T701 W701 => ?_
   refine g_iload (pc' := 216) W701.here hx (hb hby at_214) rfl rfl ?_
   refine g_icmpN (pc' := 219) W701.here hx (hb hby at_216) rfl (teq (show (3 : Int32) = (3 : Int32) from (by decide))).2 ?_
   refine g_aload (pc' := 221) W701.here hx (hb hby at_219) rfl rfl rfl ?_
   refine g_iconst (0 : Int32) (pc' := 222) W701.here hx (hb hby at_221) rfl rfl ?_
   refine w_ifacep (pc' := 227) (st := []) (y := n_45) (z := n_39) (a := al700) W701 hx [(.int 0)] (M_ hw w_134) (M_ hw w_135) (M_ hw w_136) (M_ hw w_137) (M_ hw w_138) (M_ hw w_139) (M_ hw w_140) (M_ hw w_98) (M_ hw w_39) (M_ hw w_141) (by decide) (c_get l Z a0 hw hE al700 da700 tt700_0 (0 : Int32) (3 : Int32) _ h699 W701.old FD700 VD700 (by decide) rfl E700 FS700 (by decide)) E700 (by rw [hml]; rfl) (lenOf pd_23 rfl) rfl (hb hby at_222) (B_ rfl) (B_ rfl) rfl rfl (B_ rfl) (B_ rfl) rfl fun T702 W702 => ?_
   refine w_cast (pc' := 230) W702 hx (M_ hw w_12) (Ins.self ESS700_0) (hb hby at_227) rfl fun T703 W703 => ?_
   refine w_new (pc' := 233) W703 hx (M_ hw w_12) (M_ hw w_13) (M_ hw w_14) (hb hby at_230) (B_ rfl) (B_ rfl) rfl fun T704 h704 b704 g704 W704 K704 A704 D704 => ?_
   have z_K704 : h699.size ≤ h704.size := K704.1
   have ne_va_b704 : va ≠ b704 := by omega
   have ne_eb0_b704 : eb0 ≠ b704 := by omega
   have ne_eb1_b704 : eb1 ≠ b704 := by omega
   have ne_eb2_b704 : eb2 ≠ b704 := by omega
   have ne_b695_b704 : b695 ≠ b704 := by omega
   have ne_sb698_b704 : sb698 ≠ b704 := by omega
   have ne_al700_b704 : al700 ≠ b704 := by omega
   have ne_da700_b704 : da700 ≠ b704 := by omega
   have ne_tt700_0_b704 : tt700_0 ≠ b704 := by omega
   have ne_uu700_0_b704 : uu700_0 ≠ b704 := by omega
   have ne_tt700_1_b704 : tt700_1 ≠ b704 := by omega
   have ne_uu700_1_b704 : uu700_1 ≠ b704 := by omega
   have ne_tt700_2_b704 : tt700_2 ≠ b704 := by omega
   have ne_uu700_2_b704 : uu700_2 ≠ b704 := by omega
   have lt_b704 : b704 < h704.size := W704.lt (List.mem_cons_self ..)
   have F704_value : Fld Z h704 b704 "java/lang/String" "value" "[B" .null := D704 (Or.inr (M_ hw w_27)) (ty := (.array .byte)) (by decide)
   have F704_coder : Fld Z h704 b704 "java/lang/String" "coder" "B" (.int 0) := D704 (Or.inr (M_ hw w_28)) (ty := .byte) (by decide)
   refine g_dup (pc' := 234) W704.here hx (hb hby at_233) rfl rfl ?_
   refine g_aload (pc' := 236) W704.here hx (hb hby at_234) rfl rfl rfl ?_
   have c705 := ((((VE0.keep K695 nin0).keep K697 (ninS ne_eb0_b695 nin0)).keep K699 nin0).keep K704 nin0)
   refine w_special (pc' := 239) (st := [(.ref b704), (.ref tt700_0)]) (y := n_4) (a := b704) W704 hx [(.ref eb0)] rfl (M_ hw w_15) (M_ hw w_16) (M_ hw w_14) (M_ hw w_17) (by decide) (c_strC l Z a0 hw hE cc fm b704 eb0 f0 h704 W704.old G (by omega) hl0 c705 (by have := O.1; omega) A704 _ _ F704_coder F704_value (Ne.symm ne_eb0_b704)) (allS (List.mem_of_getElem? (i := 0) rfl) all0) (by rw [hml]; rfl) (lenOf pd_26 rfl) rfl (hb hby at_236) (B_ rfl) (B_ rfl) (B_ rfl) (B_ rfl) rfl fun v706 T706 h706 W706 K706 Q706 => ?_
   have z_K706 : h704.size ≤ h706.size := K706.1
   obtain ⟨rfl, sb707, S707⟩ := Q706
   have ES707 := S707.1
   have lt_sb707 : sb707 < h706.size := S707.ltb
   have c708 := ((SS700_0.keep K704 nin0 nin0).keep K706 (ninS ne_tt700_0_b704 nin0) (ninS ne_uu700_0_b704 nin0))
   have c710 := ((ESS700_0.keep K704).keep K706)
   refine w_virtualp (pc' := 242) (st := []) (y := n_13) (z := n_13) (a := tt700_0) W706 hx [(.ref b704)] (M_ hw w_154) (M_ hw w_155) (nfS (z := n_13) (M_ hw w_157)) (M_ hw w_157) (M_ hw w_156) (M_ hw w_14) (M_ hw w_158) (by decide) (c_equals l Z a0 hw hE cc fm tt700_0 uu700_0 f0 b704 sb707 f0  h706 W706.old G c708 S707 ne_tt700_0_b704) c710 (by rw [hml]; rfl) (lenOf pd_25 rfl) rfl (hb hby at_239) (B_ rfl) (B_ rfl) rfl rfl (B_ rfl) (B_ rfl) rfl fun T709 W709 => ?_
   refine g_ifN (pc' := 245) W709.here hx (hb hby at_242) rfl (feq (show ¬ ((if f0 = f0 then (1 : Int32) else 0) = (0 : Int32)) from (by rw [if_pos rfl]; decide))).1 ?_
   refine g_iload (pc' := 247) W709.here hx (hb hby at_245) rfl rfl ?_
   refine g_iconst (2 : Int32) (pc' := 248) W709.here hx (hb hby at_247) rfl rfl ?_
   refine g_icmpN (pc' := 251) W709.here hx (hb hby at_248) rfl (flt (show ¬ ((3 : Int32) < (2 : Int32)) from (by decide))).1 ?_
   refine g_aload (pc' := 253) W709.here hx (hb hby at_251) rfl rfl rfl ?_
   refine g_iconst (1 : Int32) (pc' := 254) W709.here hx (hb hby at_253) rfl rfl ?_
   have c711 := ((FD700.keep K704 nin0).keep K706 (ninS ne_al700_b704 nin0))
   have c712 := ((VD700.keep K704 nin0).keep K706 (ninS ne_da700_b704 nin0))
   have c713 := ((E700.keep K704).keep K706)
   have c714 := ((FS700.keep K704 nin0).keep K706 (ninS ne_al700_b704 nin0))
   refine w_ifacep (pc' := 259) (st := []) (y := n_45) (z := n_39) (a := al700) W709 hx [(.int 1)] (M_ hw w_134) (M_ hw w_135) (M_ hw w_136) (M_ hw w_137) (M_ hw w_138) (M_ hw w_139) (M_ hw w_140) (M_ hw w_98) (M_ hw w_39) (M_ hw w_141) (by decide) (c_get l Z a0 hw hE al700 da700 tt700_1 (1 : Int32) (3 : Int32) _ h706 W709.old c711 c712 (by decide) rfl c713 c714 (by decide)) c713 (by rw [hml]; rfl) (lenOf pd_23 rfl) rfl (hb hby at_254) (B_ rfl) (B_ rfl) rfl rfl (B_ rfl) (B_ rfl) rfl fun T715 W715 => ?_
   have c716 := ((ESS700_1.keep K704).keep K706)
   refine w_cast (pc' := 262) W715 hx (M_ hw w_12) (Ins.self c716) (hb hby at_259) rfl fun T717 W717 => ?_
   refine w_new (pc' := 265) W717 hx (M_ hw w_12) (M_ hw w_13) (M_ hw w_14) (hb hby at_262) (B_ rfl) (B_ rfl) rfl fun T718 h718 b718 g718 W718 K718 A718 D718 => ?_
   have z_K718 : h706.size ≤ h718.size := K718.1
   have ne_va_b718 : va ≠ b718 := by omega
   have ne_eb0_b718 : eb0 ≠ b718 := by omega
   have ne_eb1_b718 : eb1 ≠ b718 := by omega
   have ne_eb2_b718 : eb2 ≠ b718 := by omega
   have ne_b695_b718 : b695 ≠ b718 := by omega
   have ne_sb698_b718 : sb698 ≠ b718 := by omega
   have ne_al700_b718 : al700 ≠ b718 := by omega
   have ne_da700_b718 : da700 ≠ b718 := by omega
   have ne_tt700_0_b718 : tt700_0 ≠ b718 := by omega
   have ne_uu700_0_b718 : uu700_0 ≠ b718 := by omega
   have ne_tt700_1_b718 : tt700_1 ≠ b718 := by omega
   have ne_uu700_1_b718 : uu700_1 ≠ b718 := by omega
   have ne_tt700_2_b718 : tt700_2 ≠ b718 := by omega
   have ne_uu700_2_b718 : uu700_2 ≠ b718 := by omega
   have ne_b704_b718 : b704 ≠ b718 := by omega
   have ne_sb707_b718 : sb707 ≠ b718 := by omega
   have lt_b718 : b718 < h718.size := W718.lt (List.mem_cons_self ..)
   have F718_value : Fld Z h718 b718 "java/lang/String" "value" "[B" .null := D718 (Or.inr (M_ hw w_27)) (ty := (.array .byte)) (by decide)
   have F718_coder : Fld Z h718 b718 "java/lang/String" "coder" "B" (.int 0) := D718 (Or.inr (M_ hw w_28)) (ty := .byte) (by decide)
   refine g_dup (pc' := 266) W718.here hx (hb hby at_265) rfl rfl ?_
   refine g_aload (pc' := 268) W718.here hx (hb hby at_266) rfl rfl rfl ?_
   have c719 := ((((((VE1.keep K695 nin0).keep K697 (ninS ne_eb1_b695 nin0)).keep K699 nin0).keep K704 nin0).keep K706 (ninS ne_eb1_b704 nin0)).keep K718 nin0)
   refine w_special (pc' := 271) (st := [(.ref b718), (.ref tt700_1)]) (y := n_4) (a := b718) W718 hx [(.ref eb1)] rfl (M_ hw w_15) (M_ hw w_16) (M_ hw w_14) (M_ hw w_17) (by decide) (c_strC l Z a0 hw hE cc fm b718 eb1 f1 h718 W718.old G (by omega) hl1 c719 (by have := O.1; omega) A718 _ _ F718_coder F718_value (Ne.symm ne_eb1_b718)) (allS (List.mem_of_getElem? (i := 0) rfl) all0) (by rw [hml]; rfl) (lenOf pd_26 rfl) rfl (hb hby at_268) (B_ rfl) (B_ rfl) (B_ rfl) (B_ rfl) rfl fun v720 T720 h720 W720 K720 Q720 => ?_
   have z_K720 : h718.size ≤ h720.size := K720.1
   obtain ⟨rfl, sb721, S721⟩ := Q720
   have ES721 := S721.1
   have lt_sb721 : sb721 < h720.size := S721.ltb
   have c722 := ((((SS700_1.keep K704 nin0 nin0).keep K706 (ninS ne_tt700_1_b704 nin0) (ninS ne_uu700_1_b704 nin0)).keep K718 nin0 nin0).keep K720 (ninS ne_tt700_1_b718 nin0) (ninS ne_uu700_1_b718 nin0))
   have c724 := ((c716.keep K718).keep K720)
   refine w_virtualp (pc' := 274) (st := []) (y := n_13) (z := n_13) (a := tt700_1) W720 hx [(.ref b718)] (M_ hw w_154) (M_ hw w_155) (nfS (z := n_13) (M_ hw w_157)) (M_ hw w_157) (M_ hw w_156) (M_ hw w_14) (M_ hw w_158) (by decide) (c_equals l Z a0 hw hE cc fm tt700_1 uu700_1 f1 b718 sb721 f1  h720 W720.old G c722 S721 ne_tt700_1_b718) c724 (by rw [hml]; rfl) (lenOf pd_25 rfl) rfl (hb hby at_271) (B_ rfl) (B_ rfl) rfl rfl (B_ rfl) (B_ rfl) rfl fun T723 W723 => ?_
   refine g_ifN (pc' := 277) W723.here hx (hb hby at_274) rfl (feq (show ¬ ((if f1 = f1 then (1 : Int32) else 0) = (0 : Int32)) from (by rw [if_pos rfl]; decide))).1 ?_
   refine g_iload (pc' := 279) W723.here hx (hb hby at_277) rfl rfl ?_
   refine g_iconst (3 : Int32) (pc' := 280) W723.here hx (hb hby at_279) rfl rfl ?_
   refine g_icmpN (pc' := 283) W723.here hx (hb hby at_280) rfl (flt (show ¬ ((3 : Int32) < (3 : Int32)) from (by decide))).1 ?_
   refine g_aload (pc' := 285) W723.here hx (hb hby at_283) rfl rfl rfl ?_
   refine g_iconst (2 : Int32) (pc' := 286) W723.here hx (hb hby at_285) rfl rfl ?_
   have c725 := ((c711.keep K718 nin0).keep K720 (ninS ne_al700_b718 nin0))
   have c726 := ((c712.keep K718 nin0).keep K720 (ninS ne_da700_b718 nin0))
   have c727 := ((c713.keep K718).keep K720)
   have c728 := ((c714.keep K718 nin0).keep K720 (ninS ne_al700_b718 nin0))
   refine w_ifacep (pc' := 291) (st := []) (y := n_45) (z := n_39) (a := al700) W723 hx [(.int 2)] (M_ hw w_134) (M_ hw w_135) (M_ hw w_136) (M_ hw w_137) (M_ hw w_138) (M_ hw w_139) (M_ hw w_140) (M_ hw w_98) (M_ hw w_39) (M_ hw w_141) (by decide) (c_get l Z a0 hw hE al700 da700 tt700_2 (2 : Int32) (3 : Int32) _ h720 W723.old c725 c726 (by decide) rfl c727 c728 (by decide)) c727 (by rw [hml]; rfl) (lenOf pd_23 rfl) rfl (hb hby at_286) (B_ rfl) (B_ rfl) rfl rfl (B_ rfl) (B_ rfl) rfl fun T729 W729 => ?_
   have c730 := ((((ESS700_2.keep K704).keep K706).keep K718).keep K720)
   refine w_cast (pc' := 294) W729 hx (M_ hw w_12) (Ins.self c730) (hb hby at_291) rfl fun T731 W731 => ?_
   refine w_new (pc' := 297) W731 hx (M_ hw w_12) (M_ hw w_13) (M_ hw w_14) (hb hby at_294) (B_ rfl) (B_ rfl) rfl fun T732 h732 b732 g732 W732 K732 A732 D732 => ?_
   have z_K732 : h720.size ≤ h732.size := K732.1
   have ne_va_b732 : va ≠ b732 := by omega
   have ne_eb0_b732 : eb0 ≠ b732 := by omega
   have ne_eb1_b732 : eb1 ≠ b732 := by omega
   have ne_eb2_b732 : eb2 ≠ b732 := by omega
   have ne_b695_b732 : b695 ≠ b732 := by omega
   have ne_sb698_b732 : sb698 ≠ b732 := by omega
   have ne_al700_b732 : al700 ≠ b732 := by omega
   have ne_da700_b732 : da700 ≠ b732 := by omega
   have ne_tt700_0_b732 : tt700_0 ≠ b732 := by omega
   have ne_uu700_0_b732 : uu700_0 ≠ b732 := by omega
   have ne_tt700_1_b732 : tt700_1 ≠ b732 := by omega
   have ne_uu700_1_b732 : uu700_1 ≠ b732 := by omega
   have ne_tt700_2_b732 : tt700_2 ≠ b732 := by omega
   have ne_uu700_2_b732 : uu700_2 ≠ b732 := by omega
   have ne_b704_b732 : b704 ≠ b732 := by omega
   have ne_sb707_b732 : sb707 ≠ b732 := by omega
   have ne_b718_b732 : b718 ≠ b732 := by omega
   have ne_sb721_b732 : sb721 ≠ b732 := by omega
   have lt_b732 : b732 < h732.size := W732.lt (List.mem_cons_self ..)
   have F732_value : Fld Z h732 b732 "java/lang/String" "value" "[B" .null := D732 (Or.inr (M_ hw w_27)) (ty := (.array .byte)) (by decide)
   have F732_coder : Fld Z h732 b732 "java/lang/String" "coder" "B" (.int 0) := D732 (Or.inr (M_ hw w_28)) (ty := .byte) (by decide)
   refine g_dup (pc' := 298) W732.here hx (hb hby at_297) rfl rfl ?_
   refine g_aload (pc' := 300) W732.here hx (hb hby at_298) rfl rfl rfl ?_
   have c733 := ((((((((VE2.keep K695 nin0).keep K697 (ninS ne_eb2_b695 nin0)).keep K699 nin0).keep K704 nin0).keep K706 (ninS ne_eb2_b704 nin0)).keep K718 nin0).keep K720 (ninS ne_eb2_b718 nin0)).keep K732 nin0)
   refine w_special (pc' := 303) (st := [(.ref b732), (.ref tt700_2)]) (y := n_4) (a := b732) W732 hx [(.ref eb2)] rfl (M_ hw w_15) (M_ hw w_16) (M_ hw w_14) (M_ hw w_17) (by decide) (c_strC l Z a0 hw hE cc fm b732 eb2 f2 h732 W732.old G (by omega) hl2 c733 (by have := O.1; omega) A732 _ _ F732_coder F732_value (Ne.symm ne_eb2_b732)) (allS (List.mem_of_getElem? (i := 0) rfl) all0) (by rw [hml]; rfl) (lenOf pd_26 rfl) rfl (hb hby at_300) (B_ rfl) (B_ rfl) (B_ rfl) (B_ rfl) rfl fun v734 T734 h734 W734 K734 Q734 => ?_
   have z_K734 : h732.size ≤ h734.size := K734.1
   obtain ⟨rfl, sb735, S735⟩ := Q734
   have ES735 := S735.1
   have lt_sb735 : sb735 < h734.size := S735.ltb
   have c736 := ((((((SS700_2.keep K704 nin0 nin0).keep K706 (ninS ne_tt700_2_b704 nin0) (ninS ne_uu700_2_b704 nin0)).keep K718 nin0 nin0).keep K720 (ninS ne_tt700_2_b718 nin0) (ninS ne_uu700_2_b718 nin0)).keep K732 nin0 nin0).keep K734 (ninS ne_tt700_2_b732 nin0) (ninS ne_uu700_2_b732 nin0))
   have c738 := ((c730.keep K732).keep K734)
   refine w_virtualp (pc' := 306) (st := []) (y := n_13) (z := n_13) (a := tt700_2) W734 hx [(.ref b732)] (M_ hw w_154) (M_ hw w_155) (nfS (z := n_13) (M_ hw w_157)) (M_ hw w_157) (M_ hw w_156) (M_ hw w_14) (M_ hw w_158) (by decide) (c_equals l Z a0 hw hE cc fm tt700_2 uu700_2 f2 b732 sb735 f2  h734 W734.old G c736 S735 ne_tt700_2_b732) c738 (by rw [hml]; rfl) (lenOf pd_25 rfl) rfl (hb hby at_303) (B_ rfl) (B_ rfl) rfl rfl (B_ rfl) (B_ rfl) rfl fun T737 W737 => ?_
   refine g_ifN (pc' := 309) W737.here hx (hb hby at_306) rfl (feq (show ¬ ((if f2 = f2 then (1 : Int32) else 0) = (0 : Int32)) from (by rw [if_pos rfl]; decide))).1 ?_
   refine g_iconst (1 : Int32) (pc' := 310) W737.here hx (hb hby at_309) rfl rfl ?_
   refine g_goto (pc' := 314) W737.here hx (hb hby at_310) rfl ?_
   refine w_retN (t := .boolean) W737 hx hh hlk hret (by simp) (hb hby at_314) (B_ rfl) (B_ rfl) ?_
   exact rfl
  refine g_istore (pc' := 9) (Ls' := #[.val (.int p0), .val (.long p1), .second, .val (.long p2), .second, .val (.long p3), .second, .val (.int 3), .unset, .unset, .unset, .unset, .unset, .unset, .unset, .unset, .unset, .unset]) W0.here hx (hb hby at_7) rfl rfl ?_
  refine g_iloadN (pc' := 10) W0.here hx (hb hby at_9) rfl rfl ?_
  refine g_iconst (2 : Int32) (pc' := 11) W0.here hx (hb hby at_10) rfl rfl ?_
  refine g_iushr (pc' := 12) W0.here hx (hb hby at_11) rfl ?_
  refine g_bipush (7 : Int32) (pc' := 14) W0.here hx (hb hby at_12) rfl rfl ?_
  refine g_iand (pc' := 15) W0.here hx (hb hby at_14) rfl ?_
  obtain ⟨xq0, hxq0⟩ : ∃ zz_ : Int32, zz_ = (((p0.toUInt32 >>> ((2 : Int32) &&& 31).toUInt32).toInt32) &&& (7 : Int32)) := ⟨_, rfl⟩
  refine g_name (congrArg Value.int hxq0) ?_
  refine g_istore (pc' := 17) (Ls' := #[.val (.int p0), .val (.long p1), .second, .val (.long p2), .second, .val (.long p3), .second, .val (.int 3), .val (.int xq0), .unset, .unset, .unset, .unset, .unset, .unset, .unset, .unset, .unset]) W0.here hx (hb hby at_15) rfl rfl ?_
  refine g_iloadN (pc' := 18) W0.here hx (hb hby at_17) rfl rfl ?_
  refine g_iconst (5 : Int32) (pc' := 19) W0.here hx (hb hby at_18) rfl rfl ?_
  refine g_iushr (pc' := 20) W0.here hx (hb hby at_19) rfl ?_
  refine g_bipush (7 : Int32) (pc' := 22) W0.here hx (hb hby at_20) rfl rfl ?_
  refine g_iand (pc' := 23) W0.here hx (hb hby at_22) rfl ?_
  obtain ⟨xq1, hxq1⟩ : ∃ zz_ : Int32, zz_ = (((p0.toUInt32 >>> ((5 : Int32) &&& 31).toUInt32).toInt32) &&& (7 : Int32)) := ⟨_, rfl⟩
  refine g_name (congrArg Value.int hxq1) ?_
  refine g_istore (pc' := 25) (Ls' := #[.val (.int p0), .val (.long p1), .second, .val (.long p2), .second, .val (.long p3), .second, .val (.int 3), .val (.int xq0), .val (.int xq1), .unset, .unset, .unset, .unset, .unset, .unset, .unset, .unset]) W0.here hx (hb hby at_23) rfl rfl ?_
  refine g_iloadN (pc' := 26) W0.here hx (hb hby at_25) rfl rfl ?_
  refine g_bipush (8 : Int32) (pc' := 28) W0.here hx (hb hby at_26) rfl rfl ?_
  refine g_iushr (pc' := 29) W0.here hx (hb hby at_28) rfl ?_
  refine g_bipush (7 : Int32) (pc' := 31) W0.here hx (hb hby at_29) rfl rfl ?_
  refine g_iand (pc' := 32) W0.here hx (hb hby at_31) rfl ?_
  obtain ⟨xq2, hxq2⟩ : ∃ zz_ : Int32, zz_ = (((p0.toUInt32 >>> ((8 : Int32) &&& 31).toUInt32).toInt32) &&& (7 : Int32)) := ⟨_, rfl⟩
  refine g_name (congrArg Value.int hxq2) ?_
  refine g_istore (pc' := 34) (Ls' := #[.val (.int p0), .val (.long p1), .second, .val (.long p2), .second, .val (.long p3), .second, .val (.int 3), .val (.int xq0), .val (.int xq1), .val (.int xq2), .unset, .unset, .unset, .unset, .unset, .unset, .unset]) W0.here hx (hb hby at_32) rfl rfl ?_
  refine g_iload (pc' := 36) W0.here hx (hb hby at_34) rfl rfl ?_
  refine g_lloadN (pc' := 37) W0.here hx (hb hby at_36) rfl rfl ?_
  refine g_iload (pc' := 39) W0.here hx (hb hby at_37) rfl rfl ?_
  refine g_iconst (1 : Int32) (pc' := 40) W0.here hx (hb hby at_39) rfl rfl ?_
  refine g_icmpY (pc' := 47) W0.here hx (hb hby at_40) rfl (feq (show ¬ ((3 : Int32) = (1 : Int32)) from (by decide))).2 ?_
  refine g_iconst (0 : Int32) (pc' := 48) W0.here hx (hb hby at_47) rfl rfl ?_
  refine w_callS (pc' := 51) (st := []) (y := n_17) W0 hx [(.int xq0), (.long p1), (.int 0)] (M_ hw w_0) (M_ hw w_1) (M_ hw w_2) (M_ hw w_3) (by decide) (c_elem l Z a0 hw hE xq0 p1 (0 : Int32) h0 W0.old) all0 (by rw [hml]; rfl) (lenOf pd_28 rfl) rfl (hb hby at_48) (B_ rfl) (B_ rfl) (B_ rfl) (B_ rfl) rfl fun v739 T739 h739 W739 K739 Q739 => ?_
  have z_K739 : h0.size ≤ h739.size := K739.1
  obtain ⟨ea740, es740, rfl, gz740, VE740, hle740, hla740, gl740, gn740⟩ := Q739
  have lt_ea740 : ea740 < h739.size := VE740.lt
  rcases hle740 with hle740 | hle740
  ·
   obtain rfl := List.eq_nil_of_length_eq_zero hle740
   have V740 : Ary Z h739 ea740 .char [] := VE740
   refine g_astore (pc' := 53) (Ls' := #[.val (.int p0), .val (.long p1), .second, .val (.long p2), .second, .val (.long p3), .second, .val (.int 3), .val (.int xq0), .val (.int xq1), .val (.int xq2), .val (.ref ea740), .unset, .unset, .unset, .unset, .unset, .unset]) W739.here hx (hb hby at_51) rfl rfl rfl ?_
   refine g_iload (pc' := 55) W739.here hx (hb hby at_53) rfl rfl ?_
   refine g_iconst (2 : Int32) (pc' := 56) W739.here hx (hb hby at_55) rfl rfl ?_
   refine g_icmpN (pc' := 59) W739.here hx (hb hby at_56) rfl (flt (show ¬ ((3 : Int32) < (2 : Int32)) from (by decide))).1 ?_
   refine g_iload (pc' := 61) W739.here hx (hb hby at_59) rfl rfl ?_
   refine g_lloadN (pc' := 62) W739.here hx (hb hby at_61) rfl rfl ?_
   refine g_iload (pc' := 64) W739.here hx (hb hby at_62) rfl rfl ?_
   refine g_iconst (2 : Int32) (pc' := 65) W739.here hx (hb hby at_64) rfl rfl ?_
   refine g_icmpY (pc' := 72) W739.here hx (hb hby at_65) rfl (feq (show ¬ ((3 : Int32) = (2 : Int32)) from (by decide))).2 ?_
   refine g_iconst (0 : Int32) (pc' := 73) W739.here hx (hb hby at_72) rfl rfl ?_
   refine w_callS (pc' := 76) (st := []) (y := n_17) W739 hx [(.int xq1), (.long p2), (.int 0)] (M_ hw w_0) (M_ hw w_1) (M_ hw w_2) (M_ hw w_3) (by decide) (c_elem l Z a0 hw hE xq1 p2 (0 : Int32) h739 W739.old) all0 (by rw [hml]; rfl) (lenOf pd_28 rfl) rfl (hb hby at_73) (B_ rfl) (B_ rfl) (B_ rfl) (B_ rfl) rfl fun v741 T741 h741 W741 K741 Q741 => ?_
   have z_K741 : h739.size ≤ h741.size := K741.1
   obtain ⟨ea742, es742, rfl, gz742, VE742, hle742, hla742, gl742, gn742⟩ := Q741
   have ne_ea740_ea742 : ea740 ≠ ea742 := by omega
   have lt_ea742 : ea742 < h741.size := VE742.lt
   rcases hle742 with hle742 | hle742
   ·
    obtain rfl := List.eq_nil_of_length_eq_zero hle742
    have V742 : Ary Z h741 ea742 .char [] := VE742
    refine g_goto (pc' := 82) W741.here hx (hb hby at_76) rfl ?_
    refine g_astore (pc' := 84) (Ls' := #[.val (.int p0), .val (.long p1), .second, .val (.long p2), .second, .val (.long p3), .second, .val (.int 3), .val (.int xq0), .val (.int xq1), .val (.int xq2), .val (.ref ea740), .val (.ref ea742), .unset, .unset, .unset, .unset, .unset]) W741.here hx (hb hby at_82) rfl rfl rfl ?_
    refine g_iload (pc' := 86) W741.here hx (hb hby at_84) rfl rfl ?_
    refine g_iconst (3 : Int32) (pc' := 87) W741.here hx (hb hby at_86) rfl rfl ?_
    refine g_icmpN (pc' := 90) W741.here hx (hb hby at_87) rfl (teq (show (3 : Int32) = (3 : Int32) from (by decide))).2 ?_
    refine g_iload (pc' := 92) W741.here hx (hb hby at_90) rfl rfl ?_
    refine g_lload (pc' := 94) W741.here hx (hb hby at_92) rfl rfl ?_
    refine g_iconst (1 : Int32) (pc' := 95) W741.here hx (hb hby at_94) rfl rfl ?_
    refine w_callS (pc' := 98) (st := []) (y := n_17) W741 hx [(.int xq2), (.long p3), (.int 1)] (M_ hw w_0) (M_ hw w_1) (M_ hw w_2) (M_ hw w_3) (by decide) (c_elem l Z a0 hw hE xq2 p3 (1 : Int32) h741 W741.old) all0 (by rw [hml]; rfl) (lenOf pd_28 rfl) rfl (hb hby at_95) (B_ rfl) (B_ rfl) (B_ rfl) (B_ rfl) rfl fun v743 T743 h743 W743 K743 Q743 => ?_
    have z_K743 : h741.size ≤ h743.size := K743.1
    obtain ⟨ea744, es744, rfl, gz744, VE744, hle744, hla744, gl744, gn744⟩ := Q743
    have ne_ea740_ea744 : ea740 ≠ ea744 := by omega
    have ne_ea742_ea744 : ea742 ≠ ea744 := by omega
    have lt_ea744 : ea744 < h743.size := VE744.lt
    rcases hle744 with hle744 | hle744
    ·
     obtain rfl := List.eq_nil_of_length_eq_zero hle744
     have V744 : Ary Z h743 ea744 .char [] := VE744
     refine g_goto (pc' := 104) W743.here hx (hb hby at_98) rfl ?_
     refine g_astore (pc' := 106) (Ls' := #[.val (.int p0), .val (.long p1), .second, .val (.long p2), .second, .val (.long p3), .second, .val (.int 3), .val (.int xq0), .val (.int xq1), .val (.int xq2), .val (.ref ea740), .val (.ref ea742), .val (.ref ea744), .unset, .unset, .unset, .unset]) W743.here hx (hb hby at_104) rfl rfl rfl ?_
     refine g_aload (pc' := 108) W743.here hx (hb hby at_106) rfl rfl rfl ?_
     have c745 := ((V740.keep K741 nin0).keep K743 nin0)
     refine w_len (pc' := 109) W743 hx c745 (hb hby at_108) rfl ?_
     refine g_name (w := .int (0 : Int32)) rfl ?_
     refine g_aload (pc' := 111) W743.here hx (hb hby at_109) rfl rfl rfl ?_
     have c746 := (V742.keep K743 nin0)
     refine w_len (pc' := 112) W743 hx c746 (hb hby at_111) rfl ?_
     refine g_name (w := .int (0 : Int32)) rfl ?_
     refine g_iadd (pc' := 113) W743.here hx (hb hby at_112) rfl ?_
     refine g_name (w := .int (0 : Int32)) (congrArg Value.int (by decide)) ?_
     refine g_aload (pc' := 115) W743.here hx (hb hby at_113) rfl rfl rfl ?_
     refine w_len (pc' := 116) W743 hx V744 (hb hby at_115) rfl ?_
     refine g_name (w := .int (0 : Int32)) rfl ?_
     refine g_iadd (pc' := 117) W743.here hx (hb hby at_116) rfl ?_
     refine g_name (w := .int (0 : Int32)) (congrArg Value.int (by decide)) ?_
     refine g_iload (pc' := 119) W743.here hx (hb hby at_117) rfl rfl ?_
     refine g_iconst (1 : Int32) (pc' := 120) W743.here hx (hb hby at_119) rfl rfl ?_
     refine g_isub (pc' := 121) W743.here hx (hb hby at_120) rfl ?_
     refine g_name (w := .int (2 : Int32)) (congrArg Value.int (by decide)) ?_
     refine g_iadd (pc' := 122) W743.here hx (hb hby at_121) rfl ?_
     refine g_name (w := .int (2 : Int32)) (congrArg Value.int (by decide)) ?_
     refine g_istore (pc' := 124) (Ls' := #[.val (.int p0), .val (.long p1), .second, .val (.long p2), .second, .val (.long p3), .second, .val (.int 3), .val (.int xq0), .val (.int xq1), .val (.int xq2), .val (.ref ea740), .val (.ref ea742), .val (.ref ea744), .val (.int 2), .unset, .unset, .unset]) W743.here hx (hb hby at_122) rfl rfl ?_
     refine g_iload (pc' := 126) W743.here hx (hb hby at_124) rfl rfl ?_
     refine w_callSF (pc' := 129) (st := []) (y := n_43) W743 hx [(.int 2)] (M_ hw w_6) (M_ hw w_7) (M_ hw w_2) (M_ hw w_8) (by decide) (c_alloc2 l Z a0 hw hE h743 W743.old) all0 (by rw [hml]; rfl) (lenOf pd_29 rfl) rfl (hb hby at_126) (B_ rfl) (B_ rfl) (B_ rfl) (B_ rfl) rfl fun N748 v748 T748 h748 W748 K748 G748 Q748 => ?_
     have z_K748 : h743.size ≤ h748.size := K748.1
     obtain ⟨va749, rfl, rfl, V749⟩ := Q748
     have gz750 := (G748 va749 (List.mem_cons_self ..)).1
     have lt_va749 := (G748 va749 (List.mem_cons_self ..)).2
     have ne_ea740_va749 : ea740 ≠ va749 := by omega
     have ne_ea742_va749 : ea742 ≠ va749 := by omega
     have ne_ea744_va749 : ea744 ≠ va749 := by omega
     refine g_astore (pc' := 131) (Ls' := #[.val (.int p0), .val (.long p1), .second, .val (.long p2), .second, .val (.long p3), .second, .val (.int 3), .val (.int xq0), .val (.int xq1), .val (.int xq2), .val (.ref ea740), .val (.ref ea742), .val (.ref ea744), .val (.int 2), .val (.ref va749), .unset, .unset]) W748.here hx (hb hby at_129) rfl rfl rfl ?_
     refine g_aload (pc' := 133) W748.here hx (hb hby at_131) rfl rfl rfl ?_
     refine g_iconst (0 : Int32) (pc' := 134) W748.here hx (hb hby at_133) rfl rfl ?_
     refine g_aload (pc' := 136) W748.here hx (hb hby at_134) rfl rfl rfl ?_
     have c751 := (c745.keep K748 nin0)
     refine w_callSp (pc' := 139) (st := []) (y := n_42) W748 hx [(.ref va749), (.int 0), (.ref ea740)] (M_ hw w_9) (M_ hw w_10) (M_ hw w_2) (M_ hw w_11) (by decide) (c_put0 l Z a0 hw hE va749 ea740 (0 : Int32) h748 W748.old c751) (by rw [hml]; rfl) (lenOf pd_30 rfl) rfl (hb hby at_136) (B_ rfl) (B_ rfl) rfl rfl (B_ rfl) (B_ rfl) rfl fun T752 W752 => ?_
     refine g_istore (pc' := 141) (Ls' := #[.val (.int p0), .val (.long p1), .second, .val (.long p2), .second, .val (.long p3), .second, .val (.int 3), .val (.int xq0), .val (.int xq1), .val (.int xq2), .val (.ref ea740), .val (.ref ea742), .val (.ref ea744), .val (.int 2), .val (.ref va749), .val (.int 0), .unset]) W752.here hx (hb hby at_139) rfl rfl ?_
     refine g_iload (pc' := 143) W752.here hx (hb hby at_141) rfl rfl ?_
     refine g_iconst (2 : Int32) (pc' := 144) W752.here hx (hb hby at_143) rfl rfl ?_
     refine g_icmpN (pc' := 147) W752.here hx (hb hby at_144) rfl (flt (show ¬ ((3 : Int32) < (2 : Int32)) from (by decide))).1 ?_
     refine g_aload (pc' := 149) W752.here hx (hb hby at_147) rfl rfl rfl ?_
     refine g_iload (pc' := 151) W752.here hx (hb hby at_149) rfl rfl ?_
     refine g_bipush (44 : Int32) (pc' := 153) W752.here hx (hb hby at_151) rfl rfl ?_
     refine w_castore (pc' := 154) (x' := (44 : Int32)) W752 hx V749 (by decide) (Nat.lt_of_lt_of_le (Nat.lt_succ_self _) (B_ rfl)) (List.mem_of_getElem? (i := 0) rfl) (by decide) (hb hby at_153) rfl fun T753 h753 W753 K753 V753 => ?_
     have z_K753 : h748.size ≤ h753.size := K753.1
     have V753 : Ary Z h753 va749 .char [(.int 44), (.int 0)] := V753
     refine g_aload (pc' := 156) W753.here hx (hb hby at_154) rfl rfl rfl ?_
     refine g_iload (pc' := 158) W753.here hx (hb hby at_156) rfl rfl ?_
     refine g_iconst (1 : Int32) (pc' := 159) W753.here hx (hb hby at_158) rfl rfl ?_
     refine g_iadd (pc' := 160) W753.here hx (hb hby at_159) rfl ?_
     refine g_name (w := .int (1 : Int32)) (congrArg Value.int (by decide)) ?_
     refine g_aload (pc' := 162) W753.here hx (hb hby at_160) rfl rfl rfl ?_
     have c754 := ((c746.keep K748 nin0).keep K753 (ninS ne_ea742_va749 nin0))
     refine w_callSp (pc' := 165) (st := []) (y := n_42) W753 hx [(.ref va749), (.int 1), (.ref ea742)] (M_ hw w_9) (M_ hw w_10) (M_ hw w_2) (M_ hw w_11) (by decide) (c_put0 l Z a0 hw hE va749 ea742 (1 : Int32) h753 W753.old c754) (by rw [hml]; rfl) (lenOf pd_30 rfl) rfl (hb hby at_162) (B_ rfl) (B_ rfl) rfl rfl (B_ rfl) (B_ rfl) rfl fun T755 W755 => ?_
     refine g_istore (pc' := 167) (Ls' := #[.val (.int p0), .val (.long p1), .second, .val (.long p2), .second, .val (.long p3), .second, .val (.int 3), .val (.int xq0), .val (.int xq1), .val (.int xq2), .val (.ref ea740), .val (.ref ea742), .val (.ref ea744), .val (.int 2), .val (.ref va749), .val (.int 1), .unset]) W755.here hx (hb hby at_165) rfl rfl ?_
     refine g_iload (pc' := 169) W755.here hx (hb hby at_167) rfl rfl ?_
     refine g_iconst (3 : Int32) (pc' := 170) W755.here hx (hb hby at_169) rfl rfl ?_
     refine g_icmpN (pc' := 173) W755.here hx (hb hby at_170) rfl (teq (show (3 : Int32) = (3 : Int32) from (by decide))).2 ?_
     refine g_aload (pc' := 175) W755.here hx (hb hby at_173) rfl rfl rfl ?_
     refine g_iload (pc' := 177) W755.here hx (hb hby at_175) rfl rfl ?_
     refine g_bipush (44 : Int32) (pc' := 179) W755.here hx (hb hby at_177) rfl rfl ?_
     refine w_castore (pc' := 180) (x' := (44 : Int32)) W755 hx V753 (by decide) (Nat.lt_of_lt_of_le (Nat.lt_succ_self _) (B_ rfl)) (List.mem_of_getElem? (i := 0) rfl) (by decide) (hb hby at_179) rfl fun T756 h756 W756 K756 V756 => ?_
     have z_K756 : h753.size ≤ h756.size := K756.1
     have V756 : Ary Z h756 va749 .char [(.int 44), (.int 44)] := V756
     refine g_aload (pc' := 182) W756.here hx (hb hby at_180) rfl rfl rfl ?_
     refine g_iload (pc' := 184) W756.here hx (hb hby at_182) rfl rfl ?_
     refine g_iconst (1 : Int32) (pc' := 185) W756.here hx (hb hby at_184) rfl rfl ?_
     refine g_iadd (pc' := 186) W756.here hx (hb hby at_185) rfl ?_
     refine g_name (w := .int (2 : Int32)) (congrArg Value.int (by decide)) ?_
     refine g_aload (pc' := 188) W756.here hx (hb hby at_186) rfl rfl rfl ?_
     have c757 := (((V744.keep K748 nin0).keep K753 (ninS ne_ea744_va749 nin0)).keep K756 (ninS ne_ea744_va749 nin0))
     refine w_callSp (pc' := 191) (st := []) (y := n_42) W756 hx [(.ref va749), (.int 2), (.ref ea744)] (M_ hw w_9) (M_ hw w_10) (M_ hw w_2) (M_ hw w_11) (by decide) (c_put0 l Z a0 hw hE va749 ea744 (2 : Int32) h756 W756.old c757) (by rw [hml]; rfl) (lenOf pd_30 rfl) rfl (hb hby at_188) (B_ rfl) (B_ rfl) rfl rfl (B_ rfl) (B_ rfl) rfl fun T758 W758 => ?_
     refine g_istore (pc' := 193) (Ls' := #[.val (.int p0), .val (.long p1), .second, .val (.long p2), .second, .val (.long p3), .second, .val (.int 3), .val (.int xq0), .val (.int xq1), .val (.int xq2), .val (.ref ea740), .val (.ref ea742), .val (.ref ea744), .val (.int 2), .val (.ref va749), .val (.int 2), .unset]) W758.here hx (hb hby at_191) rfl rfl ?_
     have c759 := ((c751.keep K753 (ninS ne_ea740_va749 nin0)).keep K756 (ninS ne_ea740_va749 nin0))
     have c760 := (c754.keep K756 (ninS ne_ea742_va749 nin0))
     exact TAIL _ _ _ va749 ea740 ea742 ea744 xq0 xq1 xq2 (2 : Int32) (2 : Int32) [] [] [] W758 V756 c759 c760 c757 hla740 hla742 hla744 (B_ rfl) (B_ rfl) (B_ rfl) (own_spl3 (gn740 rfl) (gn742 rfl) gl744)
    ·
     obtain ⟨y744_0, y744_1, y744_2, y744_3, rfl⟩ := own_len4 hle744
     have V744 : Ary Z h743 ea744 .char [(.int y744_0), (.int y744_1), (.int y744_2), (.int y744_3)] := VE744
     have l_y744_0 := hla744 y744_0 (by simp)
     have l_y744_1 := hla744 y744_1 (by simp)
     have l_y744_2 := hla744 y744_2 (by simp)
     have l_y744_3 := hla744 y744_3 (by simp)
     refine g_goto (pc' := 104) W743.here hx (hb hby at_98) rfl ?_
     refine g_astore (pc' := 106) (Ls' := #[.val (.int p0), .val (.long p1), .second, .val (.long p2), .second, .val (.long p3), .second, .val (.int 3), .val (.int xq0), .val (.int xq1), .val (.int xq2), .val (.ref ea740), .val (.ref ea742), .val (.ref ea744), .unset, .unset, .unset, .unset]) W743.here hx (hb hby at_104) rfl rfl rfl ?_
     refine g_aload (pc' := 108) W743.here hx (hb hby at_106) rfl rfl rfl ?_
     have c761 := ((V740.keep K741 nin0).keep K743 nin0)
     refine w_len (pc' := 109) W743 hx c761 (hb hby at_108) rfl ?_
     refine g_name (w := .int (0 : Int32)) rfl ?_
     refine g_aload (pc' := 111) W743.here hx (hb hby at_109) rfl rfl rfl ?_
     have c762 := (V742.keep K743 nin0)
     refine w_len (pc' := 112) W743 hx c762 (hb hby at_111) rfl ?_
     refine g_name (w := .int (0 : Int32)) rfl ?_
     refine g_iadd (pc' := 113) W743.here hx (hb hby at_112) rfl ?_
     refine g_name (w := .int (0 : Int32)) (congrArg Value.int (by decide)) ?_
     refine g_aload (pc' := 115) W743.here hx (hb hby at_113) rfl rfl rfl ?_
     refine w_len (pc' := 116) W743 hx V744 (hb hby at_115) rfl ?_
     refine g_name (w := .int (4 : Int32)) rfl ?_
     refine g_iadd (pc' := 117) W743.here hx (hb hby at_116) rfl ?_
     refine g_name (w := .int (4 : Int32)) (congrArg Value.int (by decide)) ?_
     refine g_iload (pc' := 119) W743.here hx (hb hby at_117) rfl rfl ?_
     refine g_iconst (1 : Int32) (pc' := 120) W743.here hx (hb hby at_119) rfl rfl ?_
     refine g_isub (pc' := 121) W743.here hx (hb hby at_120) rfl ?_
     refine g_name (w := .int (2 : Int32)) (congrArg Value.int (by decide)) ?_
     refine g_iadd (pc' := 122) W743.here hx (hb hby at_121) rfl ?_
     refine g_name (w := .int (6 : Int32)) (congrArg Value.int (by decide)) ?_
     refine g_istore (pc' := 124) (Ls' := #[.val (.int p0), .val (.long p1), .second, .val (.long p2), .second, .val (.long p3), .second, .val (.int 3), .val (.int xq0), .val (.int xq1), .val (.int xq2), .val (.ref ea740), .val (.ref ea742), .val (.ref ea744), .val (.int 6), .unset, .unset, .unset]) W743.here hx (hb hby at_122) rfl rfl ?_
     refine g_iload (pc' := 126) W743.here hx (hb hby at_124) rfl rfl ?_
     refine w_callSF (pc' := 129) (st := []) (y := n_43) W743 hx [(.int 6)] (M_ hw w_6) (M_ hw w_7) (M_ hw w_2) (M_ hw w_8) (by decide) (c_alloc6 l Z a0 hw hE h743 W743.old) all0 (by rw [hml]; rfl) (lenOf pd_29 rfl) rfl (hb hby at_126) (B_ rfl) (B_ rfl) (B_ rfl) (B_ rfl) rfl fun N764 v764 T764 h764 W764 K764 G764 Q764 => ?_
     have z_K764 : h743.size ≤ h764.size := K764.1
     obtain ⟨va765, rfl, rfl, V765⟩ := Q764
     have gz766 := (G764 va765 (List.mem_cons_self ..)).1
     have lt_va765 := (G764 va765 (List.mem_cons_self ..)).2
     have ne_ea740_va765 : ea740 ≠ va765 := by omega
     have ne_ea742_va765 : ea742 ≠ va765 := by omega
     have ne_ea744_va765 : ea744 ≠ va765 := by omega
     refine g_astore (pc' := 131) (Ls' := #[.val (.int p0), .val (.long p1), .second, .val (.long p2), .second, .val (.long p3), .second, .val (.int 3), .val (.int xq0), .val (.int xq1), .val (.int xq2), .val (.ref ea740), .val (.ref ea742), .val (.ref ea744), .val (.int 6), .val (.ref va765), .unset, .unset]) W764.here hx (hb hby at_129) rfl rfl rfl ?_
     refine g_aload (pc' := 133) W764.here hx (hb hby at_131) rfl rfl rfl ?_
     refine g_iconst (0 : Int32) (pc' := 134) W764.here hx (hb hby at_133) rfl rfl ?_
     refine g_aload (pc' := 136) W764.here hx (hb hby at_134) rfl rfl rfl ?_
     have c767 := (c761.keep K764 nin0)
     refine w_callSp (pc' := 139) (st := []) (y := n_42) W764 hx [(.ref va765), (.int 0), (.ref ea740)] (M_ hw w_9) (M_ hw w_10) (M_ hw w_2) (M_ hw w_11) (by decide) (c_put0 l Z a0 hw hE va765 ea740 (0 : Int32) h764 W764.old c767) (by rw [hml]; rfl) (lenOf pd_30 rfl) rfl (hb hby at_136) (B_ rfl) (B_ rfl) rfl rfl (B_ rfl) (B_ rfl) rfl fun T768 W768 => ?_
     refine g_istore (pc' := 141) (Ls' := #[.val (.int p0), .val (.long p1), .second, .val (.long p2), .second, .val (.long p3), .second, .val (.int 3), .val (.int xq0), .val (.int xq1), .val (.int xq2), .val (.ref ea740), .val (.ref ea742), .val (.ref ea744), .val (.int 6), .val (.ref va765), .val (.int 0), .unset]) W768.here hx (hb hby at_139) rfl rfl ?_
     refine g_iload (pc' := 143) W768.here hx (hb hby at_141) rfl rfl ?_
     refine g_iconst (2 : Int32) (pc' := 144) W768.here hx (hb hby at_143) rfl rfl ?_
     refine g_icmpN (pc' := 147) W768.here hx (hb hby at_144) rfl (flt (show ¬ ((3 : Int32) < (2 : Int32)) from (by decide))).1 ?_
     refine g_aload (pc' := 149) W768.here hx (hb hby at_147) rfl rfl rfl ?_
     refine g_iload (pc' := 151) W768.here hx (hb hby at_149) rfl rfl ?_
     refine g_bipush (44 : Int32) (pc' := 153) W768.here hx (hb hby at_151) rfl rfl ?_
     refine w_castore (pc' := 154) (x' := (44 : Int32)) W768 hx V765 (by decide) (Nat.lt_of_lt_of_le (Nat.lt_succ_self _) (B_ rfl)) (List.mem_of_getElem? (i := 0) rfl) (by decide) (hb hby at_153) rfl fun T769 h769 W769 K769 V769 => ?_
     have z_K769 : h764.size ≤ h769.size := K769.1
     have V769 : Ary Z h769 va765 .char [(.int 44), (.int 0), (.int 0), (.int 0), (.int 0), (.int 0)] := V769
     refine g_aload (pc' := 156) W769.here hx (hb hby at_154) rfl rfl rfl ?_
     refine g_iload (pc' := 158) W769.here hx (hb hby at_156) rfl rfl ?_
     refine g_iconst (1 : Int32) (pc' := 159) W769.here hx (hb hby at_158) rfl rfl ?_
     refine g_iadd (pc' := 160) W769.here hx (hb hby at_159) rfl ?_
     refine g_name (w := .int (1 : Int32)) (congrArg Value.int (by decide)) ?_
     refine g_aload (pc' := 162) W769.here hx (hb hby at_160) rfl rfl rfl ?_
     have c770 := ((c762.keep K764 nin0).keep K769 (ninS ne_ea742_va765 nin0))
     refine w_callSp (pc' := 165) (st := []) (y := n_42) W769 hx [(.ref va765), (.int 1), (.ref ea742)] (M_ hw w_9) (M_ hw w_10) (M_ hw w_2) (M_ hw w_11) (by decide) (c_put0 l Z a0 hw hE va765 ea742 (1 : Int32) h769 W769.old c770) (by rw [hml]; rfl) (lenOf pd_30 rfl) rfl (hb hby at_162) (B_ rfl) (B_ rfl) rfl rfl (B_ rfl) (B_ rfl) rfl fun T771 W771 => ?_
     refine g_istore (pc' := 167) (Ls' := #[.val (.int p0), .val (.long p1), .second, .val (.long p2), .second, .val (.long p3), .second, .val (.int 3), .val (.int xq0), .val (.int xq1), .val (.int xq2), .val (.ref ea740), .val (.ref ea742), .val (.ref ea744), .val (.int 6), .val (.ref va765), .val (.int 1), .unset]) W771.here hx (hb hby at_165) rfl rfl ?_
     refine g_iload (pc' := 169) W771.here hx (hb hby at_167) rfl rfl ?_
     refine g_iconst (3 : Int32) (pc' := 170) W771.here hx (hb hby at_169) rfl rfl ?_
     refine g_icmpN (pc' := 173) W771.here hx (hb hby at_170) rfl (teq (show (3 : Int32) = (3 : Int32) from (by decide))).2 ?_
     refine g_aload (pc' := 175) W771.here hx (hb hby at_173) rfl rfl rfl ?_
     refine g_iload (pc' := 177) W771.here hx (hb hby at_175) rfl rfl ?_
     refine g_bipush (44 : Int32) (pc' := 179) W771.here hx (hb hby at_177) rfl rfl ?_
     refine w_castore (pc' := 180) (x' := (44 : Int32)) W771 hx V769 (by decide) (Nat.lt_of_lt_of_le (Nat.lt_succ_self _) (B_ rfl)) (List.mem_of_getElem? (i := 0) rfl) (by decide) (hb hby at_179) rfl fun T772 h772 W772 K772 V772 => ?_
     have z_K772 : h769.size ≤ h772.size := K772.1
     have V772 : Ary Z h772 va765 .char [(.int 44), (.int 44), (.int 0), (.int 0), (.int 0), (.int 0)] := V772
     refine g_aload (pc' := 182) W772.here hx (hb hby at_180) rfl rfl rfl ?_
     refine g_iload (pc' := 184) W772.here hx (hb hby at_182) rfl rfl ?_
     refine g_iconst (1 : Int32) (pc' := 185) W772.here hx (hb hby at_184) rfl rfl ?_
     refine g_iadd (pc' := 186) W772.here hx (hb hby at_185) rfl ?_
     refine g_name (w := .int (2 : Int32)) (congrArg Value.int (by decide)) ?_
     refine g_aload (pc' := 188) W772.here hx (hb hby at_186) rfl rfl rfl ?_
     have c773 := (((V744.keep K764 nin0).keep K769 (ninS ne_ea744_va765 nin0)).keep K772 (ninS ne_ea744_va765 nin0))
     refine w_callS (pc' := 191) (st := []) (y := n_42) W772 hx [(.ref va765), (.int 2), (.ref ea744)] (M_ hw w_9) (M_ hw w_10) (M_ hw w_2) (M_ hw w_11) (by decide) (c_put6 l Z a0 hw hE va765 ea744 y744_0 y744_1 y744_2 y744_3 _ h772 W772.old (by have := O.1; omega) V772 (B_ rfl) c773 (Ne.symm ne_ea744_va765) l_y744_0 l_y744_1 l_y744_2 l_y744_3) (allS (List.mem_of_getElem? (i := 0) rfl) all0) (by rw [hml]; rfl) (lenOf pd_30 rfl) rfl (hb hby at_188) (B_ rfl) (B_ rfl) (B_ rfl) (B_ rfl) rfl fun v781 T781 h781 W781 K781 Q781 => ?_
     have z_K781 : h772.size ≤ h781.size := K781.1
     obtain ⟨rfl, VX782⟩ := Q781
     have V782 : Ary Z h781 va765 .char [(.int 44), (.int 44), (.int y744_0), (.int y744_1), (.int y744_2), (.int y744_3)] := VX782
     refine g_istore (pc' := 193) (Ls' := #[.val (.int p0), .val (.long p1), .second, .val (.long p2), .second, .val (.long p3), .second, .val (.int 3), .val (.int xq0), .val (.int xq1), .val (.int xq2), .val (.ref ea740), .val (.ref ea742), .val (.ref ea744), .val (.int 6), .val (.ref va765), .val (.int 6), .unset]) W781.here hx (hb hby at_191) rfl rfl ?_
     have c783 := (((c767.keep K769 (ninS ne_ea740_va765 nin0)).keep K772 (ninS ne_ea740_va765 nin0)).keep K781 (ninS ne_ea740_va765 nin0))
     have c784 := ((c770.keep K772 (ninS ne_ea742_va765 nin0)).keep K781 (ninS ne_ea742_va765 nin0))
     have c785 := (c773.keep K781 (ninS ne_ea744_va765 nin0))
     exact TAIL _ _ _ va765 ea740 ea742 ea744 xq0 xq1 xq2 (6 : Int32) (6 : Int32) [] [] [y744_0, y744_1, y744_2, y744_3] W781 V782 c783 c784 c785 hla740 hla742 hla744 (B_ rfl) (B_ rfl) (B_ rfl) (own_spl3 (gn740 rfl) (gn742 rfl) gl744)
   ·
    obtain ⟨y742_0, y742_1, y742_2, y742_3, rfl⟩ := own_len4 hle742
    have V742 : Ary Z h741 ea742 .char [(.int y742_0), (.int y742_1), (.int y742_2), (.int y742_3)] := VE742
    have l_y742_0 := hla742 y742_0 (by simp)
    have l_y742_1 := hla742 y742_1 (by simp)
    have l_y742_2 := hla742 y742_2 (by simp)
    have l_y742_3 := hla742 y742_3 (by simp)
    refine g_goto (pc' := 82) W741.here hx (hb hby at_76) rfl ?_
    refine g_astore (pc' := 84) (Ls' := #[.val (.int p0), .val (.long p1), .second, .val (.long p2), .second, .val (.long p3), .second, .val (.int 3), .val (.int xq0), .val (.int xq1), .val (.int xq2), .val (.ref ea740), .val (.ref ea742), .unset, .unset, .unset, .unset, .unset]) W741.here hx (hb hby at_82) rfl rfl rfl ?_
    refine g_iload (pc' := 86) W741.here hx (hb hby at_84) rfl rfl ?_
    refine g_iconst (3 : Int32) (pc' := 87) W741.here hx (hb hby at_86) rfl rfl ?_
    refine g_icmpN (pc' := 90) W741.here hx (hb hby at_87) rfl (teq (show (3 : Int32) = (3 : Int32) from (by decide))).2 ?_
    refine g_iload (pc' := 92) W741.here hx (hb hby at_90) rfl rfl ?_
    refine g_lload (pc' := 94) W741.here hx (hb hby at_92) rfl rfl ?_
    refine g_iconst (1 : Int32) (pc' := 95) W741.here hx (hb hby at_94) rfl rfl ?_
    refine w_callS (pc' := 98) (st := []) (y := n_17) W741 hx [(.int xq2), (.long p3), (.int 1)] (M_ hw w_0) (M_ hw w_1) (M_ hw w_2) (M_ hw w_3) (by decide) (c_elem l Z a0 hw hE xq2 p3 (1 : Int32) h741 W741.old) all0 (by rw [hml]; rfl) (lenOf pd_28 rfl) rfl (hb hby at_95) (B_ rfl) (B_ rfl) (B_ rfl) (B_ rfl) rfl fun v786 T786 h786 W786 K786 Q786 => ?_
    have z_K786 : h741.size ≤ h786.size := K786.1
    obtain ⟨ea787, es787, rfl, gz787, VE787, hle787, hla787, gl787, gn787⟩ := Q786
    have ne_ea740_ea787 : ea740 ≠ ea787 := by omega
    have ne_ea742_ea787 : ea742 ≠ ea787 := by omega
    have lt_ea787 : ea787 < h786.size := VE787.lt
    rcases hle787 with hle787 | hle787
    ·
     obtain rfl := List.eq_nil_of_length_eq_zero hle787
     have V787 : Ary Z h786 ea787 .char [] := VE787
     refine g_goto (pc' := 104) W786.here hx (hb hby at_98) rfl ?_
     refine g_astore (pc' := 106) (Ls' := #[.val (.int p0), .val (.long p1), .second, .val (.long p2), .second, .val (.long p3), .second, .val (.int 3), .val (.int xq0), .val (.int xq1), .val (.int xq2), .val (.ref ea740), .val (.ref ea742), .val (.ref ea787), .unset, .unset, .unset, .unset]) W786.here hx (hb hby at_104) rfl rfl rfl ?_
     refine g_aload (pc' := 108) W786.here hx (hb hby at_106) rfl rfl rfl ?_
     have c788 := ((V740.keep K741 nin0).keep K786 nin0)
     refine w_len (pc' := 109) W786 hx c788 (hb hby at_108) rfl ?_
     refine g_name (w := .int (0 : Int32)) rfl ?_
     refine g_aload (pc' := 111) W786.here hx (hb hby at_109) rfl rfl rfl ?_
     have c789 := (V742.keep K786 nin0)
     refine w_len (pc' := 112) W786 hx c789 (hb hby at_111) rfl ?_
     refine g_name (w := .int (4 : Int32)) rfl ?_
     refine g_iadd (pc' := 113) W786.here hx (hb hby at_112) rfl ?_
     refine g_name (w := .int (4 : Int32)) (congrArg Value.int (by decide)) ?_
     refine g_aload (pc' := 115) W786.here hx (hb hby at_113) rfl rfl rfl ?_
     refine w_len (pc' := 116) W786 hx V787 (hb hby at_115) rfl ?_
     refine g_name (w := .int (0 : Int32)) rfl ?_
     refine g_iadd (pc' := 117) W786.here hx (hb hby at_116) rfl ?_
     refine g_name (w := .int (4 : Int32)) (congrArg Value.int (by decide)) ?_
     refine g_iload (pc' := 119) W786.here hx (hb hby at_117) rfl rfl ?_
     refine g_iconst (1 : Int32) (pc' := 120) W786.here hx (hb hby at_119) rfl rfl ?_
     refine g_isub (pc' := 121) W786.here hx (hb hby at_120) rfl ?_
     refine g_name (w := .int (2 : Int32)) (congrArg Value.int (by decide)) ?_
     refine g_iadd (pc' := 122) W786.here hx (hb hby at_121) rfl ?_
     refine g_name (w := .int (6 : Int32)) (congrArg Value.int (by decide)) ?_
     refine g_istore (pc' := 124) (Ls' := #[.val (.int p0), .val (.long p1), .second, .val (.long p2), .second, .val (.long p3), .second, .val (.int 3), .val (.int xq0), .val (.int xq1), .val (.int xq2), .val (.ref ea740), .val (.ref ea742), .val (.ref ea787), .val (.int 6), .unset, .unset, .unset]) W786.here hx (hb hby at_122) rfl rfl ?_
     refine g_iload (pc' := 126) W786.here hx (hb hby at_124) rfl rfl ?_
     refine w_callSF (pc' := 129) (st := []) (y := n_43) W786 hx [(.int 6)] (M_ hw w_6) (M_ hw w_7) (M_ hw w_2) (M_ hw w_8) (by decide) (c_alloc6 l Z a0 hw hE h786 W786.old) all0 (by rw [hml]; rfl) (lenOf pd_29 rfl) rfl (hb hby at_126) (B_ rfl) (B_ rfl) (B_ rfl) (B_ rfl) rfl fun N790 v790 T790 h790 W790 K790 G790 Q790 => ?_
     have z_K790 : h786.size ≤ h790.size := K790.1
     obtain ⟨va791, rfl, rfl, V791⟩ := Q790
     have gz792 := (G790 va791 (List.mem_cons_self ..)).1
     have lt_va791 := (G790 va791 (List.mem_cons_self ..)).2
     have ne_ea740_va791 : ea740 ≠ va791 := by omega
     have ne_ea742_va791 : ea742 ≠ va791 := by omega
     have ne_ea787_va791 : ea787 ≠ va791 := by omega
     refine g_astore (pc' := 131) (Ls' := #[.val (.int p0), .val (.long p1), .second, .val (.long p2), .second, .val (.long p3), .second, .val (.int 3), .val (.int xq0), .val (.int xq1), .val (.int xq2), .val (.ref ea740), .val (.ref ea742), .val (.ref ea787), .val (.int 6), .val (.ref va791), .unset, .unset]) W790.here hx (hb hby at_129) rfl rfl rfl ?_
     refine g_aload (pc' := 133) W790.here hx (hb hby at_131) rfl rfl rfl ?_
     refine g_iconst (0 : Int32) (pc' := 134) W790.here hx (hb hby at_133) rfl rfl ?_
     refine g_aload (pc' := 136) W790.here hx (hb hby at_134) rfl rfl rfl ?_
     have c793 := (c788.keep K790 nin0)
     refine w_callSp (pc' := 139) (st := []) (y := n_42) W790 hx [(.ref va791), (.int 0), (.ref ea740)] (M_ hw w_9) (M_ hw w_10) (M_ hw w_2) (M_ hw w_11) (by decide) (c_put0 l Z a0 hw hE va791 ea740 (0 : Int32) h790 W790.old c793) (by rw [hml]; rfl) (lenOf pd_30 rfl) rfl (hb hby at_136) (B_ rfl) (B_ rfl) rfl rfl (B_ rfl) (B_ rfl) rfl fun T794 W794 => ?_
     refine g_istore (pc' := 141) (Ls' := #[.val (.int p0), .val (.long p1), .second, .val (.long p2), .second, .val (.long p3), .second, .val (.int 3), .val (.int xq0), .val (.int xq1), .val (.int xq2), .val (.ref ea740), .val (.ref ea742), .val (.ref ea787), .val (.int 6), .val (.ref va791), .val (.int 0), .unset]) W794.here hx (hb hby at_139) rfl rfl ?_
     refine g_iload (pc' := 143) W794.here hx (hb hby at_141) rfl rfl ?_
     refine g_iconst (2 : Int32) (pc' := 144) W794.here hx (hb hby at_143) rfl rfl ?_
     refine g_icmpN (pc' := 147) W794.here hx (hb hby at_144) rfl (flt (show ¬ ((3 : Int32) < (2 : Int32)) from (by decide))).1 ?_
     refine g_aload (pc' := 149) W794.here hx (hb hby at_147) rfl rfl rfl ?_
     refine g_iload (pc' := 151) W794.here hx (hb hby at_149) rfl rfl ?_
     refine g_bipush (44 : Int32) (pc' := 153) W794.here hx (hb hby at_151) rfl rfl ?_
     refine w_castore (pc' := 154) (x' := (44 : Int32)) W794 hx V791 (by decide) (Nat.lt_of_lt_of_le (Nat.lt_succ_self _) (B_ rfl)) (List.mem_of_getElem? (i := 0) rfl) (by decide) (hb hby at_153) rfl fun T795 h795 W795 K795 V795 => ?_
     have z_K795 : h790.size ≤ h795.size := K795.1
     have V795 : Ary Z h795 va791 .char [(.int 44), (.int 0), (.int 0), (.int 0), (.int 0), (.int 0)] := V795
     refine g_aload (pc' := 156) W795.here hx (hb hby at_154) rfl rfl rfl ?_
     refine g_iload (pc' := 158) W795.here hx (hb hby at_156) rfl rfl ?_
     refine g_iconst (1 : Int32) (pc' := 159) W795.here hx (hb hby at_158) rfl rfl ?_
     refine g_iadd (pc' := 160) W795.here hx (hb hby at_159) rfl ?_
     refine g_name (w := .int (1 : Int32)) (congrArg Value.int (by decide)) ?_
     refine g_aload (pc' := 162) W795.here hx (hb hby at_160) rfl rfl rfl ?_
     have c796 := ((c789.keep K790 nin0).keep K795 (ninS ne_ea742_va791 nin0))
     refine w_callS (pc' := 165) (st := []) (y := n_42) W795 hx [(.ref va791), (.int 1), (.ref ea742)] (M_ hw w_9) (M_ hw w_10) (M_ hw w_2) (M_ hw w_11) (by decide) (c_put5 l Z a0 hw hE va791 ea742 y742_0 y742_1 y742_2 y742_3 _ h795 W795.old (by have := O.1; omega) V795 (B_ rfl) c796 (Ne.symm ne_ea742_va791) l_y742_0 l_y742_1 l_y742_2 l_y742_3) (allS (List.mem_of_getElem? (i := 0) rfl) all0) (by rw [hml]; rfl) (lenOf pd_30 rfl) rfl (hb hby at_162) (B_ rfl) (B_ rfl) (B_ rfl) (B_ rfl) rfl fun v797 T797 h797 W797 K797 Q797 => ?_
     have z_K797 : h795.size ≤ h797.size := K797.1
     obtain ⟨rfl, VX798⟩ := Q797
     have V798 : Ary Z h797 va791 .char [(.int 44), (.int y742_0), (.int y742_1), (.int y742_2), (.int y742_3), (.int 0)] := VX798
     refine g_istore (pc' := 167) (Ls' := #[.val (.int p0), .val (.long p1), .second, .val (.long p2), .second, .val (.long p3), .second, .val (.int 3), .val (.int xq0), .val (.int xq1), .val (.int xq2), .val (.ref ea740), .val (.ref ea742), .val (.ref ea787), .val (.int 6), .val (.ref va791), .val (.int 5), .unset]) W797.here hx (hb hby at_165) rfl rfl ?_
     refine g_iload (pc' := 169) W797.here hx (hb hby at_167) rfl rfl ?_
     refine g_iconst (3 : Int32) (pc' := 170) W797.here hx (hb hby at_169) rfl rfl ?_
     refine g_icmpN (pc' := 173) W797.here hx (hb hby at_170) rfl (teq (show (3 : Int32) = (3 : Int32) from (by decide))).2 ?_
     refine g_aload (pc' := 175) W797.here hx (hb hby at_173) rfl rfl rfl ?_
     refine g_iload (pc' := 177) W797.here hx (hb hby at_175) rfl rfl ?_
     refine g_bipush (44 : Int32) (pc' := 179) W797.here hx (hb hby at_177) rfl rfl ?_
     refine w_castore (pc' := 180) (x' := (44 : Int32)) W797 hx V798 (by decide) (Nat.lt_of_lt_of_le (Nat.lt_succ_self _) (B_ rfl)) (List.mem_of_getElem? (i := 0) rfl) (by decide) (hb hby at_179) rfl fun T799 h799 W799 K799 V799 => ?_
     have z_K799 : h797.size ≤ h799.size := K799.1
     have V799 : Ary Z h799 va791 .char [(.int 44), (.int y742_0), (.int y742_1), (.int y742_2), (.int y742_3), (.int 44)] := V799
     refine g_aload (pc' := 182) W799.here hx (hb hby at_180) rfl rfl rfl ?_
     refine g_iload (pc' := 184) W799.here hx (hb hby at_182) rfl rfl ?_
     refine g_iconst (1 : Int32) (pc' := 185) W799.here hx (hb hby at_184) rfl rfl ?_
     refine g_iadd (pc' := 186) W799.here hx (hb hby at_185) rfl ?_
     refine g_name (w := .int (6 : Int32)) (congrArg Value.int (by decide)) ?_
     refine g_aload (pc' := 188) W799.here hx (hb hby at_186) rfl rfl rfl ?_
     have c800 := ((((V787.keep K790 nin0).keep K795 (ninS ne_ea787_va791 nin0)).keep K797 (ninS ne_ea787_va791 nin0)).keep K799 (ninS ne_ea787_va791 nin0))
     refine w_callSp (pc' := 191) (st := []) (y := n_42) W799 hx [(.ref va791), (.int 6), (.ref ea787)] (M_ hw w_9) (M_ hw w_10) (M_ hw w_2) (M_ hw w_11) (by decide) (c_put0 l Z a0 hw hE va791 ea787 (6 : Int32) h799 W799.old c800) (by rw [hml]; rfl) (lenOf pd_30 rfl) rfl (hb hby at_188) (B_ rfl) (B_ rfl) rfl rfl (B_ rfl) (B_ rfl) rfl fun T801 W801 => ?_
     refine g_istore (pc' := 193) (Ls' := #[.val (.int p0), .val (.long p1), .second, .val (.long p2), .second, .val (.long p3), .second, .val (.int 3), .val (.int xq0), .val (.int xq1), .val (.int xq2), .val (.ref ea740), .val (.ref ea742), .val (.ref ea787), .val (.int 6), .val (.ref va791), .val (.int 6), .unset]) W801.here hx (hb hby at_191) rfl rfl ?_
     have c802 := (((c793.keep K795 (ninS ne_ea740_va791 nin0)).keep K797 (ninS ne_ea740_va791 nin0)).keep K799 (ninS ne_ea740_va791 nin0))
     have c803 := ((c796.keep K797 (ninS ne_ea742_va791 nin0)).keep K799 (ninS ne_ea742_va791 nin0))
     exact TAIL _ _ _ va791 ea740 ea742 ea787 xq0 xq1 xq2 (6 : Int32) (6 : Int32) [] [y742_0, y742_1, y742_2, y742_3] [] W801 V799 c802 c803 c800 hla740 hla742 hla787 (B_ rfl) (B_ rfl) (B_ rfl) (own_spl3 (gn740 rfl) (gn742 rfl) gl787)
    ·
     obtain ⟨y787_0, y787_1, y787_2, y787_3, rfl⟩ := own_len4 hle787
     have V787 : Ary Z h786 ea787 .char [(.int y787_0), (.int y787_1), (.int y787_2), (.int y787_3)] := VE787
     have l_y787_0 := hla787 y787_0 (by simp)
     have l_y787_1 := hla787 y787_1 (by simp)
     have l_y787_2 := hla787 y787_2 (by simp)
     have l_y787_3 := hla787 y787_3 (by simp)
     refine g_goto (pc' := 104) W786.here hx (hb hby at_98) rfl ?_
     refine g_astore (pc' := 106) (Ls' := #[.val (.int p0), .val (.long p1), .second, .val (.long p2), .second, .val (.long p3), .second, .val (.int 3), .val (.int xq0), .val (.int xq1), .val (.int xq2), .val (.ref ea740), .val (.ref ea742), .val (.ref ea787), .unset, .unset, .unset, .unset]) W786.here hx (hb hby at_104) rfl rfl rfl ?_
     refine g_aload (pc' := 108) W786.here hx (hb hby at_106) rfl rfl rfl ?_
     have c804 := ((V740.keep K741 nin0).keep K786 nin0)
     refine w_len (pc' := 109) W786 hx c804 (hb hby at_108) rfl ?_
     refine g_name (w := .int (0 : Int32)) rfl ?_
     refine g_aload (pc' := 111) W786.here hx (hb hby at_109) rfl rfl rfl ?_
     have c805 := (V742.keep K786 nin0)
     refine w_len (pc' := 112) W786 hx c805 (hb hby at_111) rfl ?_
     refine g_name (w := .int (4 : Int32)) rfl ?_
     refine g_iadd (pc' := 113) W786.here hx (hb hby at_112) rfl ?_
     refine g_name (w := .int (4 : Int32)) (congrArg Value.int (by decide)) ?_
     refine g_aload (pc' := 115) W786.here hx (hb hby at_113) rfl rfl rfl ?_
     refine w_len (pc' := 116) W786 hx V787 (hb hby at_115) rfl ?_
     refine g_name (w := .int (4 : Int32)) rfl ?_
     refine g_iadd (pc' := 117) W786.here hx (hb hby at_116) rfl ?_
     refine g_name (w := .int (8 : Int32)) (congrArg Value.int (by decide)) ?_
     refine g_iload (pc' := 119) W786.here hx (hb hby at_117) rfl rfl ?_
     refine g_iconst (1 : Int32) (pc' := 120) W786.here hx (hb hby at_119) rfl rfl ?_
     refine g_isub (pc' := 121) W786.here hx (hb hby at_120) rfl ?_
     refine g_name (w := .int (2 : Int32)) (congrArg Value.int (by decide)) ?_
     refine g_iadd (pc' := 122) W786.here hx (hb hby at_121) rfl ?_
     refine g_name (w := .int (10 : Int32)) (congrArg Value.int (by decide)) ?_
     refine g_istore (pc' := 124) (Ls' := #[.val (.int p0), .val (.long p1), .second, .val (.long p2), .second, .val (.long p3), .second, .val (.int 3), .val (.int xq0), .val (.int xq1), .val (.int xq2), .val (.ref ea740), .val (.ref ea742), .val (.ref ea787), .val (.int 10), .unset, .unset, .unset]) W786.here hx (hb hby at_122) rfl rfl ?_
     refine g_iload (pc' := 126) W786.here hx (hb hby at_124) rfl rfl ?_
     refine w_callSF (pc' := 129) (st := []) (y := n_43) W786 hx [(.int 10)] (M_ hw w_6) (M_ hw w_7) (M_ hw w_2) (M_ hw w_8) (by decide) (c_alloc10 l Z a0 hw hE h786 W786.old) all0 (by rw [hml]; rfl) (lenOf pd_29 rfl) rfl (hb hby at_126) (B_ rfl) (B_ rfl) (B_ rfl) (B_ rfl) rfl fun N807 v807 T807 h807 W807 K807 G807 Q807 => ?_
     have z_K807 : h786.size ≤ h807.size := K807.1
     obtain ⟨va808, rfl, rfl, V808⟩ := Q807
     have gz809 := (G807 va808 (List.mem_cons_self ..)).1
     have lt_va808 := (G807 va808 (List.mem_cons_self ..)).2
     have ne_ea740_va808 : ea740 ≠ va808 := by omega
     have ne_ea742_va808 : ea742 ≠ va808 := by omega
     have ne_ea787_va808 : ea787 ≠ va808 := by omega
     refine g_astore (pc' := 131) (Ls' := #[.val (.int p0), .val (.long p1), .second, .val (.long p2), .second, .val (.long p3), .second, .val (.int 3), .val (.int xq0), .val (.int xq1), .val (.int xq2), .val (.ref ea740), .val (.ref ea742), .val (.ref ea787), .val (.int 10), .val (.ref va808), .unset, .unset]) W807.here hx (hb hby at_129) rfl rfl rfl ?_
     refine g_aload (pc' := 133) W807.here hx (hb hby at_131) rfl rfl rfl ?_
     refine g_iconst (0 : Int32) (pc' := 134) W807.here hx (hb hby at_133) rfl rfl ?_
     refine g_aload (pc' := 136) W807.here hx (hb hby at_134) rfl rfl rfl ?_
     have c810 := (c804.keep K807 nin0)
     refine w_callSp (pc' := 139) (st := []) (y := n_42) W807 hx [(.ref va808), (.int 0), (.ref ea740)] (M_ hw w_9) (M_ hw w_10) (M_ hw w_2) (M_ hw w_11) (by decide) (c_put0 l Z a0 hw hE va808 ea740 (0 : Int32) h807 W807.old c810) (by rw [hml]; rfl) (lenOf pd_30 rfl) rfl (hb hby at_136) (B_ rfl) (B_ rfl) rfl rfl (B_ rfl) (B_ rfl) rfl fun T811 W811 => ?_
     refine g_istore (pc' := 141) (Ls' := #[.val (.int p0), .val (.long p1), .second, .val (.long p2), .second, .val (.long p3), .second, .val (.int 3), .val (.int xq0), .val (.int xq1), .val (.int xq2), .val (.ref ea740), .val (.ref ea742), .val (.ref ea787), .val (.int 10), .val (.ref va808), .val (.int 0), .unset]) W811.here hx (hb hby at_139) rfl rfl ?_
     refine g_iload (pc' := 143) W811.here hx (hb hby at_141) rfl rfl ?_
     refine g_iconst (2 : Int32) (pc' := 144) W811.here hx (hb hby at_143) rfl rfl ?_
     refine g_icmpN (pc' := 147) W811.here hx (hb hby at_144) rfl (flt (show ¬ ((3 : Int32) < (2 : Int32)) from (by decide))).1 ?_
     refine g_aload (pc' := 149) W811.here hx (hb hby at_147) rfl rfl rfl ?_
     refine g_iload (pc' := 151) W811.here hx (hb hby at_149) rfl rfl ?_
     refine g_bipush (44 : Int32) (pc' := 153) W811.here hx (hb hby at_151) rfl rfl ?_
     refine w_castore (pc' := 154) (x' := (44 : Int32)) W811 hx V808 (by decide) (Nat.lt_of_lt_of_le (Nat.lt_succ_self _) (B_ rfl)) (List.mem_of_getElem? (i := 0) rfl) (by decide) (hb hby at_153) rfl fun T812 h812 W812 K812 V812 => ?_
     have z_K812 : h807.size ≤ h812.size := K812.1
     have V812 : Ary Z h812 va808 .char [(.int 44), (.int 0), (.int 0), (.int 0), (.int 0), (.int 0), (.int 0), (.int 0), (.int 0), (.int 0)] := V812
     refine g_aload (pc' := 156) W812.here hx (hb hby at_154) rfl rfl rfl ?_
     refine g_iload (pc' := 158) W812.here hx (hb hby at_156) rfl rfl ?_
     refine g_iconst (1 : Int32) (pc' := 159) W812.here hx (hb hby at_158) rfl rfl ?_
     refine g_iadd (pc' := 160) W812.here hx (hb hby at_159) rfl ?_
     refine g_name (w := .int (1 : Int32)) (congrArg Value.int (by decide)) ?_
     refine g_aload (pc' := 162) W812.here hx (hb hby at_160) rfl rfl rfl ?_
     have c813 := ((c805.keep K807 nin0).keep K812 (ninS ne_ea742_va808 nin0))
     refine w_callS (pc' := 165) (st := []) (y := n_42) W812 hx [(.ref va808), (.int 1), (.ref ea742)] (M_ hw w_9) (M_ hw w_10) (M_ hw w_2) (M_ hw w_11) (by decide) (c_put5 l Z a0 hw hE va808 ea742 y742_0 y742_1 y742_2 y742_3 _ h812 W812.old (by have := O.1; omega) V812 (B_ rfl) c813 (Ne.symm ne_ea742_va808) l_y742_0 l_y742_1 l_y742_2 l_y742_3) (allS (List.mem_of_getElem? (i := 0) rfl) all0) (by rw [hml]; rfl) (lenOf pd_30 rfl) rfl (hb hby at_162) (B_ rfl) (B_ rfl) (B_ rfl) (B_ rfl) rfl fun v814 T814 h814 W814 K814 Q814 => ?_
     have z_K814 : h812.size ≤ h814.size := K814.1
     obtain ⟨rfl, VX815⟩ := Q814
     have V815 : Ary Z h814 va808 .char [(.int 44), (.int y742_0), (.int y742_1), (.int y742_2), (.int y742_3), (.int 0), (.int 0), (.int 0), (.int 0), (.int 0)] := VX815
     refine g_istore (pc' := 167) (Ls' := #[.val (.int p0), .val (.long p1), .second, .val (.long p2), .second, .val (.long p3), .second, .val (.int 3), .val (.int xq0), .val (.int xq1), .val (.int xq2), .val (.ref ea740), .val (.ref ea742), .val (.ref ea787), .val (.int 10), .val (.ref va808), .val (.int 5), .unset]) W814.here hx (hb hby at_165) rfl rfl ?_
     refine g_iload (pc' := 169) W814.here hx (hb hby at_167) rfl rfl ?_
     refine g_iconst (3 : Int32) (pc' := 170) W814.here hx (hb hby at_169) rfl rfl ?_
     refine g_icmpN (pc' := 173) W814.here hx (hb hby at_170) rfl (teq (show (3 : Int32) = (3 : Int32) from (by decide))).2 ?_
     refine g_aload (pc' := 175) W814.here hx (hb hby at_173) rfl rfl rfl ?_
     refine g_iload (pc' := 177) W814.here hx (hb hby at_175) rfl rfl ?_
     refine g_bipush (44 : Int32) (pc' := 179) W814.here hx (hb hby at_177) rfl rfl ?_
     refine w_castore (pc' := 180) (x' := (44 : Int32)) W814 hx V815 (by decide) (Nat.lt_of_lt_of_le (Nat.lt_succ_self _) (B_ rfl)) (List.mem_of_getElem? (i := 0) rfl) (by decide) (hb hby at_179) rfl fun T816 h816 W816 K816 V816 => ?_
     have z_K816 : h814.size ≤ h816.size := K816.1
     have V816 : Ary Z h816 va808 .char [(.int 44), (.int y742_0), (.int y742_1), (.int y742_2), (.int y742_3), (.int 44), (.int 0), (.int 0), (.int 0), (.int 0)] := V816
     refine g_aload (pc' := 182) W816.here hx (hb hby at_180) rfl rfl rfl ?_
     refine g_iload (pc' := 184) W816.here hx (hb hby at_182) rfl rfl ?_
     refine g_iconst (1 : Int32) (pc' := 185) W816.here hx (hb hby at_184) rfl rfl ?_
     refine g_iadd (pc' := 186) W816.here hx (hb hby at_185) rfl ?_
     refine g_name (w := .int (6 : Int32)) (congrArg Value.int (by decide)) ?_
     refine g_aload (pc' := 188) W816.here hx (hb hby at_186) rfl rfl rfl ?_
     have c817 := ((((V787.keep K807 nin0).keep K812 (ninS ne_ea787_va808 nin0)).keep K814 (ninS ne_ea787_va808 nin0)).keep K816 (ninS ne_ea787_va808 nin0))
     refine w_callS (pc' := 191) (st := []) (y := n_42) W816 hx [(.ref va808), (.int 6), (.ref ea787)] (M_ hw w_9) (M_ hw w_10) (M_ hw w_2) (M_ hw w_11) (by decide) (c_put10 l Z a0 hw hE va808 ea787 y787_0 y787_1 y787_2 y787_3 _ h816 W816.old (by have := O.1; omega) V816 (B_ rfl) c817 (Ne.symm ne_ea787_va808) l_y787_0 l_y787_1 l_y787_2 l_y787_3) (allS (List.mem_of_getElem? (i := 0) rfl) all0) (by rw [hml]; rfl) (lenOf pd_30 rfl) rfl (hb hby at_188) (B_ rfl) (B_ rfl) (B_ rfl) (B_ rfl) rfl fun v825 T825 h825 W825 K825 Q825 => ?_
     have z_K825 : h816.size ≤ h825.size := K825.1
     obtain ⟨rfl, VX826⟩ := Q825
     have V826 : Ary Z h825 va808 .char [(.int 44), (.int y742_0), (.int y742_1), (.int y742_2), (.int y742_3), (.int 44), (.int y787_0), (.int y787_1), (.int y787_2), (.int y787_3)] := VX826
     refine g_istore (pc' := 193) (Ls' := #[.val (.int p0), .val (.long p1), .second, .val (.long p2), .second, .val (.long p3), .second, .val (.int 3), .val (.int xq0), .val (.int xq1), .val (.int xq2), .val (.ref ea740), .val (.ref ea742), .val (.ref ea787), .val (.int 10), .val (.ref va808), .val (.int 10), .unset]) W825.here hx (hb hby at_191) rfl rfl ?_
     have c827 := ((((c810.keep K812 (ninS ne_ea740_va808 nin0)).keep K814 (ninS ne_ea740_va808 nin0)).keep K816 (ninS ne_ea740_va808 nin0)).keep K825 (ninS ne_ea740_va808 nin0))
     have c828 := (((c813.keep K814 (ninS ne_ea742_va808 nin0)).keep K816 (ninS ne_ea742_va808 nin0)).keep K825 (ninS ne_ea742_va808 nin0))
     have c829 := (c817.keep K825 (ninS ne_ea787_va808 nin0))
     exact TAIL _ _ _ va808 ea740 ea742 ea787 xq0 xq1 xq2 (10 : Int32) (10 : Int32) [] [y742_0, y742_1, y742_2, y742_3] [y787_0, y787_1, y787_2, y787_3] W825 V826 c827 c828 c829 hla740 hla742 hla787 (B_ rfl) (B_ rfl) (B_ rfl) (own_spl3 (gn740 rfl) (gn742 rfl) gl787)
  ·
   obtain ⟨y740_0, y740_1, y740_2, y740_3, rfl⟩ := own_len4 hle740
   have V740 : Ary Z h739 ea740 .char [(.int y740_0), (.int y740_1), (.int y740_2), (.int y740_3)] := VE740
   have l_y740_0 := hla740 y740_0 (by simp)
   have l_y740_1 := hla740 y740_1 (by simp)
   have l_y740_2 := hla740 y740_2 (by simp)
   have l_y740_3 := hla740 y740_3 (by simp)
   refine g_astore (pc' := 53) (Ls' := #[.val (.int p0), .val (.long p1), .second, .val (.long p2), .second, .val (.long p3), .second, .val (.int 3), .val (.int xq0), .val (.int xq1), .val (.int xq2), .val (.ref ea740), .unset, .unset, .unset, .unset, .unset, .unset]) W739.here hx (hb hby at_51) rfl rfl rfl ?_
   refine g_iload (pc' := 55) W739.here hx (hb hby at_53) rfl rfl ?_
   refine g_iconst (2 : Int32) (pc' := 56) W739.here hx (hb hby at_55) rfl rfl ?_
   refine g_icmpN (pc' := 59) W739.here hx (hb hby at_56) rfl (flt (show ¬ ((3 : Int32) < (2 : Int32)) from (by decide))).1 ?_
   refine g_iload (pc' := 61) W739.here hx (hb hby at_59) rfl rfl ?_
   refine g_lloadN (pc' := 62) W739.here hx (hb hby at_61) rfl rfl ?_
   refine g_iload (pc' := 64) W739.here hx (hb hby at_62) rfl rfl ?_
   refine g_iconst (2 : Int32) (pc' := 65) W739.here hx (hb hby at_64) rfl rfl ?_
   refine g_icmpY (pc' := 72) W739.here hx (hb hby at_65) rfl (feq (show ¬ ((3 : Int32) = (2 : Int32)) from (by decide))).2 ?_
   refine g_iconst (0 : Int32) (pc' := 73) W739.here hx (hb hby at_72) rfl rfl ?_
   refine w_callS (pc' := 76) (st := []) (y := n_17) W739 hx [(.int xq1), (.long p2), (.int 0)] (M_ hw w_0) (M_ hw w_1) (M_ hw w_2) (M_ hw w_3) (by decide) (c_elem l Z a0 hw hE xq1 p2 (0 : Int32) h739 W739.old) all0 (by rw [hml]; rfl) (lenOf pd_28 rfl) rfl (hb hby at_73) (B_ rfl) (B_ rfl) (B_ rfl) (B_ rfl) rfl fun v830 T830 h830 W830 K830 Q830 => ?_
   have z_K830 : h739.size ≤ h830.size := K830.1
   obtain ⟨ea831, es831, rfl, gz831, VE831, hle831, hla831, gl831, gn831⟩ := Q830
   have ne_ea740_ea831 : ea740 ≠ ea831 := by omega
   have lt_ea831 : ea831 < h830.size := VE831.lt
   rcases hle831 with hle831 | hle831
   ·
    obtain rfl := List.eq_nil_of_length_eq_zero hle831
    have V831 : Ary Z h830 ea831 .char [] := VE831
    refine g_goto (pc' := 82) W830.here hx (hb hby at_76) rfl ?_
    refine g_astore (pc' := 84) (Ls' := #[.val (.int p0), .val (.long p1), .second, .val (.long p2), .second, .val (.long p3), .second, .val (.int 3), .val (.int xq0), .val (.int xq1), .val (.int xq2), .val (.ref ea740), .val (.ref ea831), .unset, .unset, .unset, .unset, .unset]) W830.here hx (hb hby at_82) rfl rfl rfl ?_
    refine g_iload (pc' := 86) W830.here hx (hb hby at_84) rfl rfl ?_
    refine g_iconst (3 : Int32) (pc' := 87) W830.here hx (hb hby at_86) rfl rfl ?_
    refine g_icmpN (pc' := 90) W830.here hx (hb hby at_87) rfl (teq (show (3 : Int32) = (3 : Int32) from (by decide))).2 ?_
    refine g_iload (pc' := 92) W830.here hx (hb hby at_90) rfl rfl ?_
    refine g_lload (pc' := 94) W830.here hx (hb hby at_92) rfl rfl ?_
    refine g_iconst (1 : Int32) (pc' := 95) W830.here hx (hb hby at_94) rfl rfl ?_
    refine w_callS (pc' := 98) (st := []) (y := n_17) W830 hx [(.int xq2), (.long p3), (.int 1)] (M_ hw w_0) (M_ hw w_1) (M_ hw w_2) (M_ hw w_3) (by decide) (c_elem l Z a0 hw hE xq2 p3 (1 : Int32) h830 W830.old) all0 (by rw [hml]; rfl) (lenOf pd_28 rfl) rfl (hb hby at_95) (B_ rfl) (B_ rfl) (B_ rfl) (B_ rfl) rfl fun v832 T832 h832 W832 K832 Q832 => ?_
    have z_K832 : h830.size ≤ h832.size := K832.1
    obtain ⟨ea833, es833, rfl, gz833, VE833, hle833, hla833, gl833, gn833⟩ := Q832
    have ne_ea740_ea833 : ea740 ≠ ea833 := by omega
    have ne_ea831_ea833 : ea831 ≠ ea833 := by omega
    have lt_ea833 : ea833 < h832.size := VE833.lt
    rcases hle833 with hle833 | hle833
    ·
     obtain rfl := List.eq_nil_of_length_eq_zero hle833
     have V833 : Ary Z h832 ea833 .char [] := VE833
     refine g_goto (pc' := 104) W832.here hx (hb hby at_98) rfl ?_
     refine g_astore (pc' := 106) (Ls' := #[.val (.int p0), .val (.long p1), .second, .val (.long p2), .second, .val (.long p3), .second, .val (.int 3), .val (.int xq0), .val (.int xq1), .val (.int xq2), .val (.ref ea740), .val (.ref ea831), .val (.ref ea833), .unset, .unset, .unset, .unset]) W832.here hx (hb hby at_104) rfl rfl rfl ?_
     refine g_aload (pc' := 108) W832.here hx (hb hby at_106) rfl rfl rfl ?_
     have c834 := ((V740.keep K830 nin0).keep K832 nin0)
     refine w_len (pc' := 109) W832 hx c834 (hb hby at_108) rfl ?_
     refine g_name (w := .int (4 : Int32)) rfl ?_
     refine g_aload (pc' := 111) W832.here hx (hb hby at_109) rfl rfl rfl ?_
     have c835 := (V831.keep K832 nin0)
     refine w_len (pc' := 112) W832 hx c835 (hb hby at_111) rfl ?_
     refine g_name (w := .int (0 : Int32)) rfl ?_
     refine g_iadd (pc' := 113) W832.here hx (hb hby at_112) rfl ?_
     refine g_name (w := .int (4 : Int32)) (congrArg Value.int (by decide)) ?_
     refine g_aload (pc' := 115) W832.here hx (hb hby at_113) rfl rfl rfl ?_
     refine w_len (pc' := 116) W832 hx V833 (hb hby at_115) rfl ?_
     refine g_name (w := .int (0 : Int32)) rfl ?_
     refine g_iadd (pc' := 117) W832.here hx (hb hby at_116) rfl ?_
     refine g_name (w := .int (4 : Int32)) (congrArg Value.int (by decide)) ?_
     refine g_iload (pc' := 119) W832.here hx (hb hby at_117) rfl rfl ?_
     refine g_iconst (1 : Int32) (pc' := 120) W832.here hx (hb hby at_119) rfl rfl ?_
     refine g_isub (pc' := 121) W832.here hx (hb hby at_120) rfl ?_
     refine g_name (w := .int (2 : Int32)) (congrArg Value.int (by decide)) ?_
     refine g_iadd (pc' := 122) W832.here hx (hb hby at_121) rfl ?_
     refine g_name (w := .int (6 : Int32)) (congrArg Value.int (by decide)) ?_
     refine g_istore (pc' := 124) (Ls' := #[.val (.int p0), .val (.long p1), .second, .val (.long p2), .second, .val (.long p3), .second, .val (.int 3), .val (.int xq0), .val (.int xq1), .val (.int xq2), .val (.ref ea740), .val (.ref ea831), .val (.ref ea833), .val (.int 6), .unset, .unset, .unset]) W832.here hx (hb hby at_122) rfl rfl ?_
     refine g_iload (pc' := 126) W832.here hx (hb hby at_124) rfl rfl ?_
     refine w_callSF (pc' := 129) (st := []) (y := n_43) W832 hx [(.int 6)] (M_ hw w_6) (M_ hw w_7) (M_ hw w_2) (M_ hw w_8) (by decide) (c_alloc6 l Z a0 hw hE h832 W832.old) all0 (by rw [hml]; rfl) (lenOf pd_29 rfl) rfl (hb hby at_126) (B_ rfl) (B_ rfl) (B_ rfl) (B_ rfl) rfl fun N836 v836 T836 h836 W836 K836 G836 Q836 => ?_
     have z_K836 : h832.size ≤ h836.size := K836.1
     obtain ⟨va837, rfl, rfl, V837⟩ := Q836
     have gz838 := (G836 va837 (List.mem_cons_self ..)).1
     have lt_va837 := (G836 va837 (List.mem_cons_self ..)).2
     have ne_ea740_va837 : ea740 ≠ va837 := by omega
     have ne_ea831_va837 : ea831 ≠ va837 := by omega
     have ne_ea833_va837 : ea833 ≠ va837 := by omega
     refine g_astore (pc' := 131) (Ls' := #[.val (.int p0), .val (.long p1), .second, .val (.long p2), .second, .val (.long p3), .second, .val (.int 3), .val (.int xq0), .val (.int xq1), .val (.int xq2), .val (.ref ea740), .val (.ref ea831), .val (.ref ea833), .val (.int 6), .val (.ref va837), .unset, .unset]) W836.here hx (hb hby at_129) rfl rfl rfl ?_
     refine g_aload (pc' := 133) W836.here hx (hb hby at_131) rfl rfl rfl ?_
     refine g_iconst (0 : Int32) (pc' := 134) W836.here hx (hb hby at_133) rfl rfl ?_
     refine g_aload (pc' := 136) W836.here hx (hb hby at_134) rfl rfl rfl ?_
     have c839 := (c834.keep K836 nin0)
     refine w_callS (pc' := 139) (st := []) (y := n_42) W836 hx [(.ref va837), (.int 0), (.ref ea740)] (M_ hw w_9) (M_ hw w_10) (M_ hw w_2) (M_ hw w_11) (by decide) (c_put4 l Z a0 hw hE va837 ea740 y740_0 y740_1 y740_2 y740_3 _ h836 W836.old (by have := O.1; omega) V837 (B_ rfl) c839 (Ne.symm ne_ea740_va837) l_y740_0 l_y740_1 l_y740_2 l_y740_3) (allS (List.mem_of_getElem? (i := 0) rfl) all0) (by rw [hml]; rfl) (lenOf pd_30 rfl) rfl (hb hby at_136) (B_ rfl) (B_ rfl) (B_ rfl) (B_ rfl) rfl fun v840 T840 h840 W840 K840 Q840 => ?_
     have z_K840 : h836.size ≤ h840.size := K840.1
     obtain ⟨rfl, VX841⟩ := Q840
     have V841 : Ary Z h840 va837 .char [(.int y740_0), (.int y740_1), (.int y740_2), (.int y740_3), (.int 0), (.int 0)] := VX841
     refine g_istore (pc' := 141) (Ls' := #[.val (.int p0), .val (.long p1), .second, .val (.long p2), .second, .val (.long p3), .second, .val (.int 3), .val (.int xq0), .val (.int xq1), .val (.int xq2), .val (.ref ea740), .val (.ref ea831), .val (.ref ea833), .val (.int 6), .val (.ref va837), .val (.int 4), .unset]) W840.here hx (hb hby at_139) rfl rfl ?_
     refine g_iload (pc' := 143) W840.here hx (hb hby at_141) rfl rfl ?_
     refine g_iconst (2 : Int32) (pc' := 144) W840.here hx (hb hby at_143) rfl rfl ?_
     refine g_icmpN (pc' := 147) W840.here hx (hb hby at_144) rfl (flt (show ¬ ((3 : Int32) < (2 : Int32)) from (by decide))).1 ?_
     refine g_aload (pc' := 149) W840.here hx (hb hby at_147) rfl rfl rfl ?_
     refine g_iload (pc' := 151) W840.here hx (hb hby at_149) rfl rfl ?_
     refine g_bipush (44 : Int32) (pc' := 153) W840.here hx (hb hby at_151) rfl rfl ?_
     refine w_castore (pc' := 154) (x' := (44 : Int32)) W840 hx V841 (by decide) (Nat.lt_of_lt_of_le (Nat.lt_succ_self _) (B_ rfl)) (List.mem_of_getElem? (i := 0) rfl) (by decide) (hb hby at_153) rfl fun T842 h842 W842 K842 V842 => ?_
     have z_K842 : h840.size ≤ h842.size := K842.1
     have V842 : Ary Z h842 va837 .char [(.int y740_0), (.int y740_1), (.int y740_2), (.int y740_3), (.int 44), (.int 0)] := V842
     refine g_aload (pc' := 156) W842.here hx (hb hby at_154) rfl rfl rfl ?_
     refine g_iload (pc' := 158) W842.here hx (hb hby at_156) rfl rfl ?_
     refine g_iconst (1 : Int32) (pc' := 159) W842.here hx (hb hby at_158) rfl rfl ?_
     refine g_iadd (pc' := 160) W842.here hx (hb hby at_159) rfl ?_
     refine g_name (w := .int (5 : Int32)) (congrArg Value.int (by decide)) ?_
     refine g_aload (pc' := 162) W842.here hx (hb hby at_160) rfl rfl rfl ?_
     have c843 := (((c835.keep K836 nin0).keep K840 (ninS ne_ea831_va837 nin0)).keep K842 (ninS ne_ea831_va837 nin0))
     refine w_callSp (pc' := 165) (st := []) (y := n_42) W842 hx [(.ref va837), (.int 5), (.ref ea831)] (M_ hw w_9) (M_ hw w_10) (M_ hw w_2) (M_ hw w_11) (by decide) (c_put0 l Z a0 hw hE va837 ea831 (5 : Int32) h842 W842.old c843) (by rw [hml]; rfl) (lenOf pd_30 rfl) rfl (hb hby at_162) (B_ rfl) (B_ rfl) rfl rfl (B_ rfl) (B_ rfl) rfl fun T844 W844 => ?_
     refine g_istore (pc' := 167) (Ls' := #[.val (.int p0), .val (.long p1), .second, .val (.long p2), .second, .val (.long p3), .second, .val (.int 3), .val (.int xq0), .val (.int xq1), .val (.int xq2), .val (.ref ea740), .val (.ref ea831), .val (.ref ea833), .val (.int 6), .val (.ref va837), .val (.int 5), .unset]) W844.here hx (hb hby at_165) rfl rfl ?_
     refine g_iload (pc' := 169) W844.here hx (hb hby at_167) rfl rfl ?_
     refine g_iconst (3 : Int32) (pc' := 170) W844.here hx (hb hby at_169) rfl rfl ?_
     refine g_icmpN (pc' := 173) W844.here hx (hb hby at_170) rfl (teq (show (3 : Int32) = (3 : Int32) from (by decide))).2 ?_
     refine g_aload (pc' := 175) W844.here hx (hb hby at_173) rfl rfl rfl ?_
     refine g_iload (pc' := 177) W844.here hx (hb hby at_175) rfl rfl ?_
     refine g_bipush (44 : Int32) (pc' := 179) W844.here hx (hb hby at_177) rfl rfl ?_
     refine w_castore (pc' := 180) (x' := (44 : Int32)) W844 hx V842 (by decide) (Nat.lt_of_lt_of_le (Nat.lt_succ_self _) (B_ rfl)) (List.mem_of_getElem? (i := 0) rfl) (by decide) (hb hby at_179) rfl fun T845 h845 W845 K845 V845 => ?_
     have z_K845 : h842.size ≤ h845.size := K845.1
     have V845 : Ary Z h845 va837 .char [(.int y740_0), (.int y740_1), (.int y740_2), (.int y740_3), (.int 44), (.int 44)] := V845
     refine g_aload (pc' := 182) W845.here hx (hb hby at_180) rfl rfl rfl ?_
     refine g_iload (pc' := 184) W845.here hx (hb hby at_182) rfl rfl ?_
     refine g_iconst (1 : Int32) (pc' := 185) W845.here hx (hb hby at_184) rfl rfl ?_
     refine g_iadd (pc' := 186) W845.here hx (hb hby at_185) rfl ?_
     refine g_name (w := .int (6 : Int32)) (congrArg Value.int (by decide)) ?_
     refine g_aload (pc' := 188) W845.here hx (hb hby at_186) rfl rfl rfl ?_
     have c846 := ((((V833.keep K836 nin0).keep K840 (ninS ne_ea833_va837 nin0)).keep K842 (ninS ne_ea833_va837 nin0)).keep K845 (ninS ne_ea833_va837 nin0))
     refine w_callSp (pc' := 191) (st := []) (y := n_42) W845 hx [(.ref va837), (.int 6), (.ref ea833)] (M_ hw w_9) (M_ hw w_10) (M_ hw w_2) (M_ hw w_11) (by decide) (c_put0 l Z a0 hw hE va837 ea833 (6 : Int32) h845 W845.old c846) (by rw [hml]; rfl) (lenOf pd_30 rfl) rfl (hb hby at_188) (B_ rfl) (B_ rfl) rfl rfl (B_ rfl) (B_ rfl) rfl fun T847 W847 => ?_
     refine g_istore (pc' := 193) (Ls' := #[.val (.int p0), .val (.long p1), .second, .val (.long p2), .second, .val (.long p3), .second, .val (.int 3), .val (.int xq0), .val (.int xq1), .val (.int xq2), .val (.ref ea740), .val (.ref ea831), .val (.ref ea833), .val (.int 6), .val (.ref va837), .val (.int 6), .unset]) W847.here hx (hb hby at_191) rfl rfl ?_
     have c848 := (((c839.keep K840 (ninS ne_ea740_va837 nin0)).keep K842 (ninS ne_ea740_va837 nin0)).keep K845 (ninS ne_ea740_va837 nin0))
     have c849 := (c843.keep K845 (ninS ne_ea831_va837 nin0))
     exact TAIL _ _ _ va837 ea740 ea831 ea833 xq0 xq1 xq2 (6 : Int32) (6 : Int32) [y740_0, y740_1, y740_2, y740_3] [] [] W847 V845 c848 c849 c846 hla740 hla831 hla833 (B_ rfl) (B_ rfl) (B_ rfl) (own_spl3 (gn740 rfl) (gn831 rfl) gl833)
    ·
     obtain ⟨y833_0, y833_1, y833_2, y833_3, rfl⟩ := own_len4 hle833
     have V833 : Ary Z h832 ea833 .char [(.int y833_0), (.int y833_1), (.int y833_2), (.int y833_3)] := VE833
     have l_y833_0 := hla833 y833_0 (by simp)
     have l_y833_1 := hla833 y833_1 (by simp)
     have l_y833_2 := hla833 y833_2 (by simp)
     have l_y833_3 := hla833 y833_3 (by simp)
     refine g_goto (pc' := 104) W832.here hx (hb hby at_98) rfl ?_
     refine g_astore (pc' := 106) (Ls' := #[.val (.int p0), .val (.long p1), .second, .val (.long p2), .second, .val (.long p3), .second, .val (.int 3), .val (.int xq0), .val (.int xq1), .val (.int xq2), .val (.ref ea740), .val (.ref ea831), .val (.ref ea833), .unset, .unset, .unset, .unset]) W832.here hx (hb hby at_104) rfl rfl rfl ?_
     refine g_aload (pc' := 108) W832.here hx (hb hby at_106) rfl rfl rfl ?_
     have c850 := ((V740.keep K830 nin0).keep K832 nin0)
     refine w_len (pc' := 109) W832 hx c850 (hb hby at_108) rfl ?_
     refine g_name (w := .int (4 : Int32)) rfl ?_
     refine g_aload (pc' := 111) W832.here hx (hb hby at_109) rfl rfl rfl ?_
     have c851 := (V831.keep K832 nin0)
     refine w_len (pc' := 112) W832 hx c851 (hb hby at_111) rfl ?_
     refine g_name (w := .int (0 : Int32)) rfl ?_
     refine g_iadd (pc' := 113) W832.here hx (hb hby at_112) rfl ?_
     refine g_name (w := .int (4 : Int32)) (congrArg Value.int (by decide)) ?_
     refine g_aload (pc' := 115) W832.here hx (hb hby at_113) rfl rfl rfl ?_
     refine w_len (pc' := 116) W832 hx V833 (hb hby at_115) rfl ?_
     refine g_name (w := .int (4 : Int32)) rfl ?_
     refine g_iadd (pc' := 117) W832.here hx (hb hby at_116) rfl ?_
     refine g_name (w := .int (8 : Int32)) (congrArg Value.int (by decide)) ?_
     refine g_iload (pc' := 119) W832.here hx (hb hby at_117) rfl rfl ?_
     refine g_iconst (1 : Int32) (pc' := 120) W832.here hx (hb hby at_119) rfl rfl ?_
     refine g_isub (pc' := 121) W832.here hx (hb hby at_120) rfl ?_
     refine g_name (w := .int (2 : Int32)) (congrArg Value.int (by decide)) ?_
     refine g_iadd (pc' := 122) W832.here hx (hb hby at_121) rfl ?_
     refine g_name (w := .int (10 : Int32)) (congrArg Value.int (by decide)) ?_
     refine g_istore (pc' := 124) (Ls' := #[.val (.int p0), .val (.long p1), .second, .val (.long p2), .second, .val (.long p3), .second, .val (.int 3), .val (.int xq0), .val (.int xq1), .val (.int xq2), .val (.ref ea740), .val (.ref ea831), .val (.ref ea833), .val (.int 10), .unset, .unset, .unset]) W832.here hx (hb hby at_122) rfl rfl ?_
     refine g_iload (pc' := 126) W832.here hx (hb hby at_124) rfl rfl ?_
     refine w_callSF (pc' := 129) (st := []) (y := n_43) W832 hx [(.int 10)] (M_ hw w_6) (M_ hw w_7) (M_ hw w_2) (M_ hw w_8) (by decide) (c_alloc10 l Z a0 hw hE h832 W832.old) all0 (by rw [hml]; rfl) (lenOf pd_29 rfl) rfl (hb hby at_126) (B_ rfl) (B_ rfl) (B_ rfl) (B_ rfl) rfl fun N852 v852 T852 h852 W852 K852 G852 Q852 => ?_
     have z_K852 : h832.size ≤ h852.size := K852.1
     obtain ⟨va853, rfl, rfl, V853⟩ := Q852
     have gz854 := (G852 va853 (List.mem_cons_self ..)).1
     have lt_va853 := (G852 va853 (List.mem_cons_self ..)).2
     have ne_ea740_va853 : ea740 ≠ va853 := by omega
     have ne_ea831_va853 : ea831 ≠ va853 := by omega
     have ne_ea833_va853 : ea833 ≠ va853 := by omega
     refine g_astore (pc' := 131) (Ls' := #[.val (.int p0), .val (.long p1), .second, .val (.long p2), .second, .val (.long p3), .second, .val (.int 3), .val (.int xq0), .val (.int xq1), .val (.int xq2), .val (.ref ea740), .val (.ref ea831), .val (.ref ea833), .val (.int 10), .val (.ref va853), .unset, .unset]) W852.here hx (hb hby at_129) rfl rfl rfl ?_
     refine g_aload (pc' := 133) W852.here hx (hb hby at_131) rfl rfl rfl ?_
     refine g_iconst (0 : Int32) (pc' := 134) W852.here hx (hb hby at_133) rfl rfl ?_
     refine g_aload (pc' := 136) W852.here hx (hb hby at_134) rfl rfl rfl ?_
     have c855 := (c850.keep K852 nin0)
     refine w_callS (pc' := 139) (st := []) (y := n_42) W852 hx [(.ref va853), (.int 0), (.ref ea740)] (M_ hw w_9) (M_ hw w_10) (M_ hw w_2) (M_ hw w_11) (by decide) (c_put4 l Z a0 hw hE va853 ea740 y740_0 y740_1 y740_2 y740_3 _ h852 W852.old (by have := O.1; omega) V853 (B_ rfl) c855 (Ne.symm ne_ea740_va853) l_y740_0 l_y740_1 l_y740_2 l_y740_3) (allS (List.mem_of_getElem? (i := 0) rfl) all0) (by rw [hml]; rfl) (lenOf pd_30 rfl) rfl (hb hby at_136) (B_ rfl) (B_ rfl) (B_ rfl) (B_ rfl) rfl fun v856 T856 h856 W856 K856 Q856 => ?_
     have z_K856 : h852.size ≤ h856.size := K856.1
     obtain ⟨rfl, VX857⟩ := Q856
     have V857 : Ary Z h856 va853 .char [(.int y740_0), (.int y740_1), (.int y740_2), (.int y740_3), (.int 0), (.int 0), (.int 0), (.int 0), (.int 0), (.int 0)] := VX857
     refine g_istore (pc' := 141) (Ls' := #[.val (.int p0), .val (.long p1), .second, .val (.long p2), .second, .val (.long p3), .second, .val (.int 3), .val (.int xq0), .val (.int xq1), .val (.int xq2), .val (.ref ea740), .val (.ref ea831), .val (.ref ea833), .val (.int 10), .val (.ref va853), .val (.int 4), .unset]) W856.here hx (hb hby at_139) rfl rfl ?_
     refine g_iload (pc' := 143) W856.here hx (hb hby at_141) rfl rfl ?_
     refine g_iconst (2 : Int32) (pc' := 144) W856.here hx (hb hby at_143) rfl rfl ?_
     refine g_icmpN (pc' := 147) W856.here hx (hb hby at_144) rfl (flt (show ¬ ((3 : Int32) < (2 : Int32)) from (by decide))).1 ?_
     refine g_aload (pc' := 149) W856.here hx (hb hby at_147) rfl rfl rfl ?_
     refine g_iload (pc' := 151) W856.here hx (hb hby at_149) rfl rfl ?_
     refine g_bipush (44 : Int32) (pc' := 153) W856.here hx (hb hby at_151) rfl rfl ?_
     refine w_castore (pc' := 154) (x' := (44 : Int32)) W856 hx V857 (by decide) (Nat.lt_of_lt_of_le (Nat.lt_succ_self _) (B_ rfl)) (List.mem_of_getElem? (i := 0) rfl) (by decide) (hb hby at_153) rfl fun T858 h858 W858 K858 V858 => ?_
     have z_K858 : h856.size ≤ h858.size := K858.1
     have V858 : Ary Z h858 va853 .char [(.int y740_0), (.int y740_1), (.int y740_2), (.int y740_3), (.int 44), (.int 0), (.int 0), (.int 0), (.int 0), (.int 0)] := V858
     refine g_aload (pc' := 156) W858.here hx (hb hby at_154) rfl rfl rfl ?_
     refine g_iload (pc' := 158) W858.here hx (hb hby at_156) rfl rfl ?_
     refine g_iconst (1 : Int32) (pc' := 159) W858.here hx (hb hby at_158) rfl rfl ?_
     refine g_iadd (pc' := 160) W858.here hx (hb hby at_159) rfl ?_
     refine g_name (w := .int (5 : Int32)) (congrArg Value.int (by decide)) ?_
     refine g_aload (pc' := 162) W858.here hx (hb hby at_160) rfl rfl rfl ?_
     have c859 := (((c851.keep K852 nin0).keep K856 (ninS ne_ea831_va853 nin0)).keep K858 (ninS ne_ea831_va853 nin0))
     refine w_callSp (pc' := 165) (st := []) (y := n_42) W858 hx [(.ref va853), (.int 5), (.ref ea831)] (M_ hw w_9) (M_ hw w_10) (M_ hw w_2) (M_ hw w_11) (by decide) (c_put0 l Z a0 hw hE va853 ea831 (5 : Int32) h858 W858.old c859) (by rw [hml]; rfl) (lenOf pd_30 rfl) rfl (hb hby at_162) (B_ rfl) (B_ rfl) rfl rfl (B_ rfl) (B_ rfl) rfl fun T860 W860 => ?_
     refine g_istore (pc' := 167) (Ls' := #[.val (.int p0), .val (.long p1), .second, .val (.long p2), .second, .val (.long p3), .second, .val (.int 3), .val (.int xq0), .val (.int xq1), .val (.int xq2), .val (.ref ea740), .val (.ref ea831), .val (.ref ea833), .val (.int 10), .val (.ref va853), .val (.int 5), .unset]) W860.here hx (hb hby at_165) rfl rfl ?_
     refine g_iload (pc' := 169) W860.here hx (hb hby at_167) rfl rfl ?_
     refine g_iconst (3 : Int32) (pc' := 170) W860.here hx (hb hby at_169) rfl rfl ?_
     refine g_icmpN (pc' := 173) W860.here hx (hb hby at_170) rfl (teq (show (3 : Int32) = (3 : Int32) from (by decide))).2 ?_
     refine g_aload (pc' := 175) W860.here hx (hb hby at_173) rfl rfl rfl ?_
     refine g_iload (pc' := 177) W860.here hx (hb hby at_175) rfl rfl ?_
     refine g_bipush (44 : Int32) (pc' := 179) W860.here hx (hb hby at_177) rfl rfl ?_
     refine w_castore (pc' := 180) (x' := (44 : Int32)) W860 hx V858 (by decide) (Nat.lt_of_lt_of_le (Nat.lt_succ_self _) (B_ rfl)) (List.mem_of_getElem? (i := 0) rfl) (by decide) (hb hby at_179) rfl fun T861 h861 W861 K861 V861 => ?_
     have z_K861 : h858.size ≤ h861.size := K861.1
     have V861 : Ary Z h861 va853 .char [(.int y740_0), (.int y740_1), (.int y740_2), (.int y740_3), (.int 44), (.int 44), (.int 0), (.int 0), (.int 0), (.int 0)] := V861
     refine g_aload (pc' := 182) W861.here hx (hb hby at_180) rfl rfl rfl ?_
     refine g_iload (pc' := 184) W861.here hx (hb hby at_182) rfl rfl ?_
     refine g_iconst (1 : Int32) (pc' := 185) W861.here hx (hb hby at_184) rfl rfl ?_
     refine g_iadd (pc' := 186) W861.here hx (hb hby at_185) rfl ?_
     refine g_name (w := .int (6 : Int32)) (congrArg Value.int (by decide)) ?_
     refine g_aload (pc' := 188) W861.here hx (hb hby at_186) rfl rfl rfl ?_
     have c862 := ((((V833.keep K852 nin0).keep K856 (ninS ne_ea833_va853 nin0)).keep K858 (ninS ne_ea833_va853 nin0)).keep K861 (ninS ne_ea833_va853 nin0))
     refine w_callS (pc' := 191) (st := []) (y := n_42) W861 hx [(.ref va853), (.int 6), (.ref ea833)] (M_ hw w_9) (M_ hw w_10) (M_ hw w_2) (M_ hw w_11) (by decide) (c_put10 l Z a0 hw hE va853 ea833 y833_0 y833_1 y833_2 y833_3 _ h861 W861.old (by have := O.1; omega) V861 (B_ rfl) c862 (Ne.symm ne_ea833_va853) l_y833_0 l_y833_1 l_y833_2 l_y833_3) (allS (List.mem_of_getElem? (i := 0) rfl) all0) (by rw [hml]; rfl) (lenOf pd_30 rfl) rfl (hb hby at_188) (B_ rfl) (B_ rfl) (B_ rfl) (B_ rfl) rfl fun v863 T863 h863 W863 K863 Q863 => ?_
     have z_K863 : h861.size ≤ h863.size := K863.1
     obtain ⟨rfl, VX864⟩ := Q863
     have V864 : Ary Z h863 va853 .char [(.int y740_0), (.int y740_1), (.int y740_2), (.int y740_3), (.int 44), (.int 44), (.int y833_0), (.int y833_1), (.int y833_2), (.int y833_3)] := VX864
     refine g_istore (pc' := 193) (Ls' := #[.val (.int p0), .val (.long p1), .second, .val (.long p2), .second, .val (.long p3), .second, .val (.int 3), .val (.int xq0), .val (.int xq1), .val (.int xq2), .val (.ref ea740), .val (.ref ea831), .val (.ref ea833), .val (.int 10), .val (.ref va853), .val (.int 10), .unset]) W863.here hx (hb hby at_191) rfl rfl ?_
     have c865 := ((((c855.keep K856 (ninS ne_ea740_va853 nin0)).keep K858 (ninS ne_ea740_va853 nin0)).keep K861 (ninS ne_ea740_va853 nin0)).keep K863 (ninS ne_ea740_va853 nin0))
     have c866 := ((c859.keep K861 (ninS ne_ea831_va853 nin0)).keep K863 (ninS ne_ea831_va853 nin0))
     have c867 := (c862.keep K863 (ninS ne_ea833_va853 nin0))
     exact TAIL _ _ _ va853 ea740 ea831 ea833 xq0 xq1 xq2 (10 : Int32) (10 : Int32) [y740_0, y740_1, y740_2, y740_3] [] [y833_0, y833_1, y833_2, y833_3] W863 V864 c865 c866 c867 hla740 hla831 hla833 (B_ rfl) (B_ rfl) (B_ rfl) (own_spl3 (gn740 rfl) (gn831 rfl) gl833)
   ·
    obtain ⟨y831_0, y831_1, y831_2, y831_3, rfl⟩ := own_len4 hle831
    have V831 : Ary Z h830 ea831 .char [(.int y831_0), (.int y831_1), (.int y831_2), (.int y831_3)] := VE831
    have l_y831_0 := hla831 y831_0 (by simp)
    have l_y831_1 := hla831 y831_1 (by simp)
    have l_y831_2 := hla831 y831_2 (by simp)
    have l_y831_3 := hla831 y831_3 (by simp)
    refine g_goto (pc' := 82) W830.here hx (hb hby at_76) rfl ?_
    refine g_astore (pc' := 84) (Ls' := #[.val (.int p0), .val (.long p1), .second, .val (.long p2), .second, .val (.long p3), .second, .val (.int 3), .val (.int xq0), .val (.int xq1), .val (.int xq2), .val (.ref ea740), .val (.ref ea831), .unset, .unset, .unset, .unset, .unset]) W830.here hx (hb hby at_82) rfl rfl rfl ?_
    refine g_iload (pc' := 86) W830.here hx (hb hby at_84) rfl rfl ?_
    refine g_iconst (3 : Int32) (pc' := 87) W830.here hx (hb hby at_86) rfl rfl ?_
    refine g_icmpN (pc' := 90) W830.here hx (hb hby at_87) rfl (teq (show (3 : Int32) = (3 : Int32) from (by decide))).2 ?_
    refine g_iload (pc' := 92) W830.here hx (hb hby at_90) rfl rfl ?_
    refine g_lload (pc' := 94) W830.here hx (hb hby at_92) rfl rfl ?_
    refine g_iconst (1 : Int32) (pc' := 95) W830.here hx (hb hby at_94) rfl rfl ?_
    refine w_callS (pc' := 98) (st := []) (y := n_17) W830 hx [(.int xq2), (.long p3), (.int 1)] (M_ hw w_0) (M_ hw w_1) (M_ hw w_2) (M_ hw w_3) (by decide) (c_elem l Z a0 hw hE xq2 p3 (1 : Int32) h830 W830.old) all0 (by rw [hml]; rfl) (lenOf pd_28 rfl) rfl (hb hby at_95) (B_ rfl) (B_ rfl) (B_ rfl) (B_ rfl) rfl fun v868 T868 h868 W868 K868 Q868 => ?_
    have z_K868 : h830.size ≤ h868.size := K868.1
    obtain ⟨ea869, es869, rfl, gz869, VE869, hle869, hla869, gl869, gn869⟩ := Q868
    have ne_ea740_ea869 : ea740 ≠ ea869 := by omega
    have ne_ea831_ea869 : ea831 ≠ ea869 := by omega
    have lt_ea869 : ea869 < h868.size := VE869.lt
    rcases hle869 with hle869 | hle869
    ·
     obtain rfl := List.eq_nil_of_length_eq_zero hle869
     have V869 : Ary Z h868 ea869 .char [] := VE869
     refine g_goto (pc' := 104) W868.here hx (hb hby at_98) rfl ?_
     refine g_astore (pc' := 106) (Ls' := #[.val (.int p0), .val (.long p1), .second, .val (.long p2), .second, .val (.long p3), .second, .val (.int 3), .val (.int xq0), .val (.int xq1), .val (.int xq2), .val (.ref ea740), .val (.ref ea831), .val (.ref ea869), .unset, .unset, .unset, .unset]) W868.here hx (hb hby at_104) rfl rfl rfl ?_
     refine g_aload (pc' := 108) W868.here hx (hb hby at_106) rfl rfl rfl ?_
     have c870 := ((V740.keep K830 nin0).keep K868 nin0)
     refine w_len (pc' := 109) W868 hx c870 (hb hby at_108) rfl ?_
     refine g_name (w := .int (4 : Int32)) rfl ?_
     refine g_aload (pc' := 111) W868.here hx (hb hby at_109) rfl rfl rfl ?_
     have c871 := (V831.keep K868 nin0)
     refine w_len (pc' := 112) W868 hx c871 (hb hby at_111) rfl ?_
     refine g_name (w := .int (4 : Int32)) rfl ?_
     refine g_iadd (pc' := 113) W868.here hx (hb hby at_112) rfl ?_
     refine g_name (w := .int (8 : Int32)) (congrArg Value.int (by decide)) ?_
     refine g_aload (pc' := 115) W868.here hx (hb hby at_113) rfl rfl rfl ?_
     refine w_len (pc' := 116) W868 hx V869 (hb hby at_115) rfl ?_
     refine g_name (w := .int (0 : Int32)) rfl ?_
     refine g_iadd (pc' := 117) W868.here hx (hb hby at_116) rfl ?_
     refine g_name (w := .int (8 : Int32)) (congrArg Value.int (by decide)) ?_
     refine g_iload (pc' := 119) W868.here hx (hb hby at_117) rfl rfl ?_
     refine g_iconst (1 : Int32) (pc' := 120) W868.here hx (hb hby at_119) rfl rfl ?_
     refine g_isub (pc' := 121) W868.here hx (hb hby at_120) rfl ?_
     refine g_name (w := .int (2 : Int32)) (congrArg Value.int (by decide)) ?_
     refine g_iadd (pc' := 122) W868.here hx (hb hby at_121) rfl ?_
     refine g_name (w := .int (10 : Int32)) (congrArg Value.int (by decide)) ?_
     refine g_istore (pc' := 124) (Ls' := #[.val (.int p0), .val (.long p1), .second, .val (.long p2), .second, .val (.long p3), .second, .val (.int 3), .val (.int xq0), .val (.int xq1), .val (.int xq2), .val (.ref ea740), .val (.ref ea831), .val (.ref ea869), .val (.int 10), .unset, .unset, .unset]) W868.here hx (hb hby at_122) rfl rfl ?_
     refine g_iload (pc' := 126) W868.here hx (hb hby at_124) rfl rfl ?_
     refine w_callSF (pc' := 129) (st := []) (y := n_43) W868 hx [(.int 10)] (M_ hw w_6) (M_ hw w_7) (M_ hw w_2) (M_ hw w_8) (by decide) (c_alloc10 l Z a0 hw hE h868 W868.old) all0 (by rw [hml]; rfl) (lenOf pd_29 rfl) rfl (hb hby at_126) (B_ rfl) (B_ rfl) (B_ rfl) (B_ rfl) rfl fun N872 v872 T872 h872 W872 K872 G872 Q872 => ?_
     have z_K872 : h868.size ≤ h872.size := K872.1
     obtain ⟨va873, rfl, rfl, V873⟩ := Q872
     have gz874 := (G872 va873 (List.mem_cons_self ..)).1
     have lt_va873 := (G872 va873 (List.mem_cons_self ..)).2
     have ne_ea740_va873 : ea740 ≠ va873 := by omega
     have ne_ea831_va873 : ea831 ≠ va873 := by omega
     have ne_ea869_va873 : ea869 ≠ va873 := by omega
     refine g_astore (pc' := 131) (Ls' := #[.val (.int p0), .val (.long p1), .second, .val (.long p2), .second, .val (.long p3), .second, .val (.int 3), .val (.int xq0), .val (.int xq1), .val (.int xq2), .val (.ref ea740), .val (.ref ea831), .val (.ref ea869), .val (.int 10), .val (.ref va873), .unset, .unset]) W872.here hx (hb hby at_129) rfl rfl rfl ?_
     refine g_aload (pc' := 133) W872.here hx (hb hby at_131) rfl rfl rfl ?_
     refine g_iconst (0 : Int32) (pc' := 134) W872.here hx (hb hby at_133) rfl rfl ?_
     refine g_aload (pc' := 136) W872.here hx (hb hby at_134) rfl rfl rfl ?_
     have c875 := (c870.keep K872 nin0)
     refine w_callS (pc' := 139) (st := []) (y := n_42) W872 hx [(.ref va873), (.int 0), (.ref ea740)] (M_ hw w_9) (M_ hw w_10) (M_ hw w_2) (M_ hw w_11) (by decide) (c_put4 l Z a0 hw hE va873 ea740 y740_0 y740_1 y740_2 y740_3 _ h872 W872.old (by have := O.1; omega) V873 (B_ rfl) c875 (Ne.symm ne_ea740_va873) l_y740_0 l_y740_1 l_y740_2 l_y740_3) (allS (List.mem_of_getElem? (i := 0) rfl) all0) (by rw [hml]; rfl) (lenOf pd_30 rfl) rfl (hb hby at_136) (B_ rfl) (B_ rfl) (B_ rfl) (B_ rfl) rfl fun v876 T876 h876 W876 K876 Q876 => ?_
     have z_K876 : h872.size ≤ h876.size := K876.1
     obtain ⟨rfl, VX877⟩ := Q876
     have V877 : Ary Z h876 va873 .char [(.int y740_0), (.int y740_1), (.int y740_2), (.int y740_3), (.int 0), (.int 0), (.int 0), (.int 0), (.int 0), (.int 0)] := VX877
     refine g_istore (pc' := 141) (Ls' := #[.val (.int p0), .val (.long p1), .second, .val (.long p2), .second, .val (.long p3), .second, .val (.int 3), .val (.int xq0), .val (.int xq1), .val (.int xq2), .val (.ref ea740), .val (.ref ea831), .val (.ref ea869), .val (.int 10), .val (.ref va873), .val (.int 4), .unset]) W876.here hx (hb hby at_139) rfl rfl ?_
     refine g_iload (pc' := 143) W876.here hx (hb hby at_141) rfl rfl ?_
     refine g_iconst (2 : Int32) (pc' := 144) W876.here hx (hb hby at_143) rfl rfl ?_
     refine g_icmpN (pc' := 147) W876.here hx (hb hby at_144) rfl (flt (show ¬ ((3 : Int32) < (2 : Int32)) from (by decide))).1 ?_
     refine g_aload (pc' := 149) W876.here hx (hb hby at_147) rfl rfl rfl ?_
     refine g_iload (pc' := 151) W876.here hx (hb hby at_149) rfl rfl ?_
     refine g_bipush (44 : Int32) (pc' := 153) W876.here hx (hb hby at_151) rfl rfl ?_
     refine w_castore (pc' := 154) (x' := (44 : Int32)) W876 hx V877 (by decide) (Nat.lt_of_lt_of_le (Nat.lt_succ_self _) (B_ rfl)) (List.mem_of_getElem? (i := 0) rfl) (by decide) (hb hby at_153) rfl fun T878 h878 W878 K878 V878 => ?_
     have z_K878 : h876.size ≤ h878.size := K878.1
     have V878 : Ary Z h878 va873 .char [(.int y740_0), (.int y740_1), (.int y740_2), (.int y740_3), (.int 44), (.int 0), (.int 0), (.int 0), (.int 0), (.int 0)] := V878
     refine g_aload (pc' := 156) W878.here hx (hb hby at_154) rfl rfl rfl ?_
     refine g_iload (pc' := 158) W878.here hx (hb hby at_156) rfl rfl ?_
     refine g_iconst (1 : Int32) (pc' := 159) W878.here hx (hb hby at_158) rfl rfl ?_
     refine g_iadd (pc' := 160) W878.here hx (hb hby at_159) rfl ?_
     refine g_name (w := .int (5 : Int32)) (congrArg Value.int (by decide)) ?_
     refine g_aload (pc' := 162) W878.here hx (hb hby at_160) rfl rfl rfl ?_
     have c879 := (((c871.keep K872 nin0).keep K876 (ninS ne_ea831_va873 nin0)).keep K878 (ninS ne_ea831_va873 nin0))
     refine w_callS (pc' := 165) (st := []) (y := n_42) W878 hx [(.ref va873), (.int 5), (.ref ea831)] (M_ hw w_9) (M_ hw w_10) (M_ hw w_2) (M_ hw w_11) (by decide) (c_put9 l Z a0 hw hE va873 ea831 y831_0 y831_1 y831_2 y831_3 _ h878 W878.old (by have := O.1; omega) V878 (B_ rfl) c879 (Ne.symm ne_ea831_va873) l_y831_0 l_y831_1 l_y831_2 l_y831_3) (allS (List.mem_of_getElem? (i := 0) rfl) all0) (by rw [hml]; rfl) (lenOf pd_30 rfl) rfl (hb hby at_162) (B_ rfl) (B_ rfl) (B_ rfl) (B_ rfl) rfl fun v880 T880 h880 W880 K880 Q880 => ?_
     have z_K880 : h878.size ≤ h880.size := K880.1
     obtain ⟨rfl, VX881⟩ := Q880
     have V881 : Ary Z h880 va873 .char [(.int y740_0), (.int y740_1), (.int y740_2), (.int y740_3), (.int 44), (.int y831_0), (.int y831_1), (.int y831_2), (.int y831_3), (.int 0)] := VX881
     refine g_istore (pc' := 167) (Ls' := #[.val (.int p0), .val (.long p1), .second, .val (.long p2), .second, .val (.long p3), .second, .val (.int 3), .val (.int xq0), .val (.int xq1), .val (.int xq2), .val (.ref ea740), .val (.ref ea831), .val (.ref ea869), .val (.int 10), .val (.ref va873), .val (.int 9), .unset]) W880.here hx (hb hby at_165) rfl rfl ?_
     refine g_iload (pc' := 169) W880.here hx (hb hby at_167) rfl rfl ?_
     refine g_iconst (3 : Int32) (pc' := 170) W880.here hx (hb hby at_169) rfl rfl ?_
     refine g_icmpN (pc' := 173) W880.here hx (hb hby at_170) rfl (teq (show (3 : Int32) = (3 : Int32) from (by decide))).2 ?_
     refine g_aload (pc' := 175) W880.here hx (hb hby at_173) rfl rfl rfl ?_
     refine g_iload (pc' := 177) W880.here hx (hb hby at_175) rfl rfl ?_
     refine g_bipush (44 : Int32) (pc' := 179) W880.here hx (hb hby at_177) rfl rfl ?_
     refine w_castore (pc' := 180) (x' := (44 : Int32)) W880 hx V881 (by decide) (Nat.lt_of_lt_of_le (Nat.lt_succ_self _) (B_ rfl)) (List.mem_of_getElem? (i := 0) rfl) (by decide) (hb hby at_179) rfl fun T882 h882 W882 K882 V882 => ?_
     have z_K882 : h880.size ≤ h882.size := K882.1
     have V882 : Ary Z h882 va873 .char [(.int y740_0), (.int y740_1), (.int y740_2), (.int y740_3), (.int 44), (.int y831_0), (.int y831_1), (.int y831_2), (.int y831_3), (.int 44)] := V882
     refine g_aload (pc' := 182) W882.here hx (hb hby at_180) rfl rfl rfl ?_
     refine g_iload (pc' := 184) W882.here hx (hb hby at_182) rfl rfl ?_
     refine g_iconst (1 : Int32) (pc' := 185) W882.here hx (hb hby at_184) rfl rfl ?_
     refine g_iadd (pc' := 186) W882.here hx (hb hby at_185) rfl ?_
     refine g_name (w := .int (10 : Int32)) (congrArg Value.int (by decide)) ?_
     refine g_aload (pc' := 188) W882.here hx (hb hby at_186) rfl rfl rfl ?_
     have c883 := (((((V869.keep K872 nin0).keep K876 (ninS ne_ea869_va873 nin0)).keep K878 (ninS ne_ea869_va873 nin0)).keep K880 (ninS ne_ea869_va873 nin0)).keep K882 (ninS ne_ea869_va873 nin0))
     refine w_callSp (pc' := 191) (st := []) (y := n_42) W882 hx [(.ref va873), (.int 10), (.ref ea869)] (M_ hw w_9) (M_ hw w_10) (M_ hw w_2) (M_ hw w_11) (by decide) (c_put0 l Z a0 hw hE va873 ea869 (10 : Int32) h882 W882.old c883) (by rw [hml]; rfl) (lenOf pd_30 rfl) rfl (hb hby at_188) (B_ rfl) (B_ rfl) rfl rfl (B_ rfl) (B_ rfl) rfl fun T884 W884 => ?_
     refine g_istore (pc' := 193) (Ls' := #[.val (.int p0), .val (.long p1), .second, .val (.long p2), .second, .val (.long p3), .second, .val (.int 3), .val (.int xq0), .val (.int xq1), .val (.int xq2), .val (.ref ea740), .val (.ref ea831), .val (.ref ea869), .val (.int 10), .val (.ref va873), .val (.int 10), .unset]) W884.here hx (hb hby at_191) rfl rfl ?_
     have c885 := ((((c875.keep K876 (ninS ne_ea740_va873 nin0)).keep K878 (ninS ne_ea740_va873 nin0)).keep K880 (ninS ne_ea740_va873 nin0)).keep K882 (ninS ne_ea740_va873 nin0))
     have c886 := ((c879.keep K880 (ninS ne_ea831_va873 nin0)).keep K882 (ninS ne_ea831_va873 nin0))
     exact TAIL _ _ _ va873 ea740 ea831 ea869 xq0 xq1 xq2 (10 : Int32) (10 : Int32) [y740_0, y740_1, y740_2, y740_3] [y831_0, y831_1, y831_2, y831_3] [] W884 V882 c885 c886 c883 hla740 hla831 hla869 (B_ rfl) (B_ rfl) (B_ rfl) (own_spl3 (gn740 rfl) (gn831 rfl) gl869)
    ·
     obtain ⟨y869_0, y869_1, y869_2, y869_3, rfl⟩ := own_len4 hle869
     have V869 : Ary Z h868 ea869 .char [(.int y869_0), (.int y869_1), (.int y869_2), (.int y869_3)] := VE869
     have l_y869_0 := hla869 y869_0 (by simp)
     have l_y869_1 := hla869 y869_1 (by simp)
     have l_y869_2 := hla869 y869_2 (by simp)
     have l_y869_3 := hla869 y869_3 (by simp)
     refine g_goto (pc' := 104) W868.here hx (hb hby at_98) rfl ?_
     refine g_astore (pc' := 106) (Ls' := #[.val (.int p0), .val (.long p1), .second, .val (.long p2), .second, .val (.long p3), .second, .val (.int 3), .val (.int xq0), .val (.int xq1), .val (.int xq2), .val (.ref ea740), .val (.ref ea831), .val (.ref ea869), .unset, .unset, .unset, .unset]) W868.here hx (hb hby at_104) rfl rfl rfl ?_
     refine g_aload (pc' := 108) W868.here hx (hb hby at_106) rfl rfl rfl ?_
     have c887 := ((V740.keep K830 nin0).keep K868 nin0)
     refine w_len (pc' := 109) W868 hx c887 (hb hby at_108) rfl ?_
     refine g_name (w := .int (4 : Int32)) rfl ?_
     refine g_aload (pc' := 111) W868.here hx (hb hby at_109) rfl rfl rfl ?_
     have c888 := (V831.keep K868 nin0)
     refine w_len (pc' := 112) W868 hx c888 (hb hby at_111) rfl ?_
     refine g_name (w := .int (4 : Int32)) rfl ?_
     refine g_iadd (pc' := 113) W868.here hx (hb hby at_112) rfl ?_
     refine g_name (w := .int (8 : Int32)) (congrArg Value.int (by decide)) ?_
     refine g_aload (pc' := 115) W868.here hx (hb hby at_113) rfl rfl rfl ?_
     refine w_len (pc' := 116) W868 hx V869 (hb hby at_115) rfl ?_
     refine g_name (w := .int (4 : Int32)) rfl ?_
     refine g_iadd (pc' := 117) W868.here hx (hb hby at_116) rfl ?_
     refine g_name (w := .int (12 : Int32)) (congrArg Value.int (by decide)) ?_
     refine g_iload (pc' := 119) W868.here hx (hb hby at_117) rfl rfl ?_
     refine g_iconst (1 : Int32) (pc' := 120) W868.here hx (hb hby at_119) rfl rfl ?_
     refine g_isub (pc' := 121) W868.here hx (hb hby at_120) rfl ?_
     refine g_name (w := .int (2 : Int32)) (congrArg Value.int (by decide)) ?_
     refine g_iadd (pc' := 122) W868.here hx (hb hby at_121) rfl ?_
     refine g_name (w := .int (14 : Int32)) (congrArg Value.int (by decide)) ?_
     refine g_istore (pc' := 124) (Ls' := #[.val (.int p0), .val (.long p1), .second, .val (.long p2), .second, .val (.long p3), .second, .val (.int 3), .val (.int xq0), .val (.int xq1), .val (.int xq2), .val (.ref ea740), .val (.ref ea831), .val (.ref ea869), .val (.int 14), .unset, .unset, .unset]) W868.here hx (hb hby at_122) rfl rfl ?_
     refine g_iload (pc' := 126) W868.here hx (hb hby at_124) rfl rfl ?_
     refine w_callSF (pc' := 129) (st := []) (y := n_43) W868 hx [(.int 14)] (M_ hw w_6) (M_ hw w_7) (M_ hw w_2) (M_ hw w_8) (by decide) (c_alloc14 l Z a0 hw hE h868 W868.old) all0 (by rw [hml]; rfl) (lenOf pd_29 rfl) rfl (hb hby at_126) (B_ rfl) (B_ rfl) (B_ rfl) (B_ rfl) rfl fun N890 v890 T890 h890 W890 K890 G890 Q890 => ?_
     have z_K890 : h868.size ≤ h890.size := K890.1
     obtain ⟨va891, rfl, rfl, V891⟩ := Q890
     have gz892 := (G890 va891 (List.mem_cons_self ..)).1
     have lt_va891 := (G890 va891 (List.mem_cons_self ..)).2
     have ne_ea740_va891 : ea740 ≠ va891 := by omega
     have ne_ea831_va891 : ea831 ≠ va891 := by omega
     have ne_ea869_va891 : ea869 ≠ va891 := by omega
     refine g_astore (pc' := 131) (Ls' := #[.val (.int p0), .val (.long p1), .second, .val (.long p2), .second, .val (.long p3), .second, .val (.int 3), .val (.int xq0), .val (.int xq1), .val (.int xq2), .val (.ref ea740), .val (.ref ea831), .val (.ref ea869), .val (.int 14), .val (.ref va891), .unset, .unset]) W890.here hx (hb hby at_129) rfl rfl rfl ?_
     refine g_aload (pc' := 133) W890.here hx (hb hby at_131) rfl rfl rfl ?_
     refine g_iconst (0 : Int32) (pc' := 134) W890.here hx (hb hby at_133) rfl rfl ?_
     refine g_aload (pc' := 136) W890.here hx (hb hby at_134) rfl rfl rfl ?_
     have c893 := (c887.keep K890 nin0)
     refine w_callS (pc' := 139) (st := []) (y := n_42) W890 hx [(.ref va891), (.int 0), (.ref ea740)] (M_ hw w_9) (M_ hw w_10) (M_ hw w_2) (M_ hw w_11) (by decide) (c_put4 l Z a0 hw hE va891 ea740 y740_0 y740_1 y740_2 y740_3 _ h890 W890.old (by have := O.1; omega) V891 (B_ rfl) c893 (Ne.symm ne_ea740_va891) l_y740_0 l_y740_1 l_y740_2 l_y740_3) (allS (List.mem_of_getElem? (i := 0) rfl) all0) (by rw [hml]; rfl) (lenOf pd_30 rfl) rfl (hb hby at_136) (B_ rfl) (B_ rfl) (B_ rfl) (B_ rfl) rfl fun v894 T894 h894 W894 K894 Q894 => ?_
     have z_K894 : h890.size ≤ h894.size := K894.1
     obtain ⟨rfl, VX895⟩ := Q894
     have V895 : Ary Z h894 va891 .char [(.int y740_0), (.int y740_1), (.int y740_2), (.int y740_3), (.int 0), (.int 0), (.int 0), (.int 0), (.int 0), (.int 0), (.int 0), (.int 0), (.int 0), (.int 0)] := VX895
     refine g_istore (pc' := 141) (Ls' := #[.val (.int p0), .val (.long p1), .second, .val (.long p2), .second, .val (.long p3), .second, .val (.int 3), .val (.int xq0), .val (.int xq1), .val (.int xq2), .val (.ref ea740), .val (.ref ea831), .val (.ref ea869), .val (.int 14), .val (.ref va891), .val (.int 4), .unset]) W894.here hx (hb hby at_139) rfl rfl ?_
     refine g_iload (pc' := 143) W894.here hx (hb hby at_141) rfl rfl ?_
     refine g_iconst (2 : Int32) (pc' := 144) W894.here hx (hb hby at_143) rfl rfl ?_
     refine g_icmpN (pc' := 147) W894.here hx (hb hby at_144) rfl (flt (show ¬ ((3 : Int32) < (2 : Int32)) from (by decide))).1 ?_
     refine g_aload (pc' := 149) W894.here hx (hb hby at_147) rfl rfl rfl ?_
     refine g_iload (pc' := 151) W894.here hx (hb hby at_149) rfl rfl ?_
     refine g_bipush (44 : Int32) (pc' := 153) W894.here hx (hb hby at_151) rfl rfl ?_
     refine w_castore (pc' := 154) (x' := (44 : Int32)) W894 hx V895 (by decide) (Nat.lt_of_lt_of_le (Nat.lt_succ_self _) (B_ rfl)) (List.mem_of_getElem? (i := 0) rfl) (by decide) (hb hby at_153) rfl fun T896 h896 W896 K896 V896 => ?_
     have z_K896 : h894.size ≤ h896.size := K896.1
     have V896 : Ary Z h896 va891 .char [(.int y740_0), (.int y740_1), (.int y740_2), (.int y740_3), (.int 44), (.int 0), (.int 0), (.int 0), (.int 0), (.int 0), (.int 0), (.int 0), (.int 0), (.int 0)] := V896
     refine g_aload (pc' := 156) W896.here hx (hb hby at_154) rfl rfl rfl ?_
     refine g_iload (pc' := 158) W896.here hx (hb hby at_156) rfl rfl ?_
     refine g_iconst (1 : Int32) (pc' := 159) W896.here hx (hb hby at_158) rfl rfl ?_
     refine g_iadd (pc' := 160) W896.here hx (hb hby at_159) rfl ?_
     refine g_name (w := .int (5 : Int32)) (congrArg Value.int (by decide)) ?_
     refine g_aload (pc' := 162) W896.here hx (hb hby at_160) rfl rfl rfl ?_
     have c897 := (((c888.keep K890 nin0).keep K894 (ninS ne_ea831_va891 nin0)).keep K896 (ninS ne_ea831_va891 nin0))
     refine w_callS (pc' := 165) (st := []) (y := n_42) W896 hx [(.ref va891), (.int 5), (.ref ea831)] (M_ hw w_9) (M_ hw w_10) (M_ hw w_2) (M_ hw w_11) (by decide) (c_put9 l Z a0 hw hE va891 ea831 y831_0 y831_1 y831_2 y831_3 _ h896 W896.old (by have := O.1; omega) V896 (B_ rfl) c897 (Ne.symm ne_ea831_va891) l_y831_0 l_y831_1 l_y831_2 l_y831_3) (allS (List.mem_of_getElem? (i := 0) rfl) all0) (by rw [hml]; rfl) (lenOf pd_30 rfl) rfl (hb hby at_162) (B_ rfl) (B_ rfl) (B_ rfl) (B_ rfl) rfl fun v898 T898 h898 W898 K898 Q898 => ?_
     have z_K898 : h896.size ≤ h898.size := K898.1
     obtain ⟨rfl, VX899⟩ := Q898
     have V899 : Ary Z h898 va891 .char [(.int y740_0), (.int y740_1), (.int y740_2), (.int y740_3), (.int 44), (.int y831_0), (.int y831_1), (.int y831_2), (.int y831_3), (.int 0), (.int 0), (.int 0), (.int 0), (.int 0)] := VX899
     refine g_istore (pc' := 167) (Ls' := #[.val (.int p0), .val (.long p1), .second, .val (.long p2), .second, .val (.long p3), .second, .val (.int 3), .val (.int xq0), .val (.int xq1), .val (.int xq2), .val (.ref ea740), .val (.ref ea831), .val (.ref ea869), .val (.int 14), .val (.ref va891), .val (.int 9), .unset]) W898.here hx (hb hby at_165) rfl rfl ?_
     refine g_iload (pc' := 169) W898.here hx (hb hby at_167) rfl rfl ?_
     refine g_iconst (3 : Int32) (pc' := 170) W898.here hx (hb hby at_169) rfl rfl ?_
     refine g_icmpN (pc' := 173) W898.here hx (hb hby at_170) rfl (teq (show (3 : Int32) = (3 : Int32) from (by decide))).2 ?_
     refine g_aload (pc' := 175) W898.here hx (hb hby at_173) rfl rfl rfl ?_
     refine g_iload (pc' := 177) W898.here hx (hb hby at_175) rfl rfl ?_
     refine g_bipush (44 : Int32) (pc' := 179) W898.here hx (hb hby at_177) rfl rfl ?_
     refine w_castore (pc' := 180) (x' := (44 : Int32)) W898 hx V899 (by decide) (Nat.lt_of_lt_of_le (Nat.lt_succ_self _) (B_ rfl)) (List.mem_of_getElem? (i := 0) rfl) (by decide) (hb hby at_179) rfl fun T900 h900 W900 K900 V900 => ?_
     have z_K900 : h898.size ≤ h900.size := K900.1
     have V900 : Ary Z h900 va891 .char [(.int y740_0), (.int y740_1), (.int y740_2), (.int y740_3), (.int 44), (.int y831_0), (.int y831_1), (.int y831_2), (.int y831_3), (.int 44), (.int 0), (.int 0), (.int 0), (.int 0)] := V900
     refine g_aload (pc' := 182) W900.here hx (hb hby at_180) rfl rfl rfl ?_
     refine g_iload (pc' := 184) W900.here hx (hb hby at_182) rfl rfl ?_
     refine g_iconst (1 : Int32) (pc' := 185) W900.here hx (hb hby at_184) rfl rfl ?_
     refine g_iadd (pc' := 186) W900.here hx (hb hby at_185) rfl ?_
     refine g_name (w := .int (10 : Int32)) (congrArg Value.int (by decide)) ?_
     refine g_aload (pc' := 188) W900.here hx (hb hby at_186) rfl rfl rfl ?_
     have c901 := (((((V869.keep K890 nin0).keep K894 (ninS ne_ea869_va891 nin0)).keep K896 (ninS ne_ea869_va891 nin0)).keep K898 (ninS ne_ea869_va891 nin0)).keep K900 (ninS ne_ea869_va891 nin0))
     refine w_callS (pc' := 191) (st := []) (y := n_42) W900 hx [(.ref va891), (.int 10), (.ref ea869)] (M_ hw w_9) (M_ hw w_10) (M_ hw w_2) (M_ hw w_11) (by decide) (c_put14 l Z a0 hw hE va891 ea869 y869_0 y869_1 y869_2 y869_3 _ h900 W900.old (by have := O.1; omega) V900 (B_ rfl) c901 (Ne.symm ne_ea869_va891) l_y869_0 l_y869_1 l_y869_2 l_y869_3) (allS (List.mem_of_getElem? (i := 0) rfl) all0) (by rw [hml]; rfl) (lenOf pd_30 rfl) rfl (hb hby at_188) (B_ rfl) (B_ rfl) (B_ rfl) (B_ rfl) rfl fun v909 T909 h909 W909 K909 Q909 => ?_
     have z_K909 : h900.size ≤ h909.size := K909.1
     obtain ⟨rfl, VX910⟩ := Q909
     have V910 : Ary Z h909 va891 .char [(.int y740_0), (.int y740_1), (.int y740_2), (.int y740_3), (.int 44), (.int y831_0), (.int y831_1), (.int y831_2), (.int y831_3), (.int 44), (.int y869_0), (.int y869_1), (.int y869_2), (.int y869_3)] := VX910
     refine g_istore (pc' := 193) (Ls' := #[.val (.int p0), .val (.long p1), .second, .val (.long p2), .second, .val (.long p3), .second, .val (.int 3), .val (.int xq0), .val (.int xq1), .val (.int xq2), .val (.ref ea740), .val (.ref ea831), .val (.ref ea869), .val (.int 14), .val (.ref va891), .val (.int 14), .unset]) W909.here hx (hb hby at_191) rfl rfl ?_
     have c911 := (((((c893.keep K894 (ninS ne_ea740_va891 nin0)).keep K896 (ninS ne_ea740_va891 nin0)).keep K898 (ninS ne_ea740_va891 nin0)).keep K900 (ninS ne_ea740_va891 nin0)).keep K909 (ninS ne_ea740_va891 nin0))
     have c912 := (((c897.keep K898 (ninS ne_ea831_va891 nin0)).keep K900 (ninS ne_ea831_va891 nin0)).keep K909 (ninS ne_ea831_va891 nin0))
     have c913 := (c901.keep K909 (ninS ne_ea869_va891 nin0))
     exact TAIL _ _ _ va891 ea740 ea831 ea869 xq0 xq1 xq2 (14 : Int32) (14 : Int32) [y740_0, y740_1, y740_2, y740_3] [y831_0, y831_1, y831_2, y831_3] [y869_0, y869_1, y869_2, y869_3] W909 V910 c911 c912 c913 hla740 hla831 hla869 (B_ rfl) (B_ rfl) (B_ rfl) (own_spl3 (gn740 rfl) (gn831 rfl) gl869)
theorem own_len0 {s : State} {args : Array Value} {t : Term} {a : Addr} {cl : Cell} {ty : FieldType} (e : t.eval args s none [] s = some (.ref a)) (A : Arr s s.heap a cl ty) (h : (Jvm.Cond.eq (Jvm.Term.length t) (Jvm.Term.int (0 : Int32))).value args s none s [] = some true) : Ary s s.heap a ty [] := by
  have q : (Jvm.Term.length t).eval args s none [] s = some (.int 0) := eqv_i (Z := s) (F := Jvm.Term.int 0) (y := 0) rfl h
  have hb : cl.slots.size < 2 ^ 31 := by
    rcases Nat.lt_or_ge cl.slots.size (2 ^ 31) with z | z
    · exact z
    · simp [Term.eval, e, A.fin (Vm.Alike.refl _), Nat.not_lt.mpr z] at q
  rw [len_f e (A.fin (Vm.Alike.refl _)) hb] at q
  have q2 : cl.slots.size.toInt32 = 0 := by simpa using q
  have q3 := own_z0 hb q2
  exact ⟨cl, A, by simpa using q3, by decide, fun v hv => nomatch hv⟩
set_option maxRecDepth 65536 in
set_option maxHeartbeats 40000000 in
theorem comes_1 {Post : Tables → Env → Array Value → State → Outcome → State → Prop} (hpost : ∀ tb e args s v u, (limb_1_1.after args s (.returned v) u = true ∧ limb_1_2.after args s (.returned v) u = true ∧ True) → ReturnedEndW s (.returned v) u (Jvm.fieldLocs frame_1_writes args s ++ Jvm.arrayLocs frame_1_arrays args s ++ Jvm.staticLocs frame_1_statics s) 56 2368 → Post tb e args s (.returned v) u) :
    ArmFor flags0 classFile x code maxLocals ret World_1 tables_1 room_1 Calls_1 rest_1 Pre_1 Post := by
  intro l hfl _ _ p e ha hc hk s m args below hf hA hF happ hP
  obtain ⟨hcalls, hrest, hpre⟩ := hP
  obtain ⟨-, -, -, hnamed, -, -, -, hat⟩ := (Spec.applies_iff hf).mp happ
  obtain ⟨hg, hn⟩ := and_e (Cond.before_iff.mp (show (Jvm.Cond.and given_1 narrow_1).before args s = true from hpre))
  obtain ⟨hg0, hg⟩ := and_e hg
  obtain ⟨w0, w1, w2, w3, rfl⟩ : ∃ w0 w1 w2 w3 : Value, args = #[w0, w1, w2, w3] := by
    have hs : args.size = 4 := by simpa [Cond.value, given_1] using hg0
    obtain ⟨L⟩ := args
    match L, hs with
    | [w0, w1, w2, w3], _ => exact ⟨w0, w1, w2, w3, rfl⟩
  have hw := fun d (hd : d ∈ tables_1) => atoms_spec (ws := Jvm.Cond.code x code maxLocals ret :: tables_1) hat d (List.mem_cons_of_mem _ hd)
  have hfit : Fit s := fun {y c} hc i hi => by
    obtain ⟨ha, rfl⟩ := Array.getElem?_eq_some_iff.mp hc
    have q := List.all_eq_true.mp ((Array.all_eq_true_iff_forall_mem.mp hF) _ (Array.getElem_mem ha)) i (List.mem_range.mpr hi)
    simpa [Array.getElem?_eq_getElem hi] using q
  obtain ⟨hg1, hg⟩ := and_e hg
  obtain ⟨p0, ep0⟩ := is_v hg1
  obtain rfl : w0 = (.int p0) := Option.some.inj ep0
  obtain ⟨hg2, hg⟩ := and_e hg
  obtain ⟨p1, ep1⟩ := isL_v hg2
  obtain rfl : w1 = (.long p1) := Option.some.inj ep1
  obtain ⟨hg3, hg⟩ := and_e hg
  obtain ⟨p2, ep2⟩ := isL_v hg3
  obtain rfl : w2 = (.long p2) := Option.some.inj ep2
  have hg4 := hg
  obtain ⟨p3, ep3⟩ := isL_v hg4
  obtain rfl : w3 = (.long p3) := Option.some.inj ep3
  have n1 := hn
  have hsets := (atoms_of jdkStatics_1 (show (jdkStatics_1.foldr Cond.and restOwn_1).before _ s = true by rw [← rest_1_c_eq]; exact hrest)).1
  have hheld : ∀ p ∈ consts_1, Jvm.Lit.constHeld s p.1 p.2 := hcalls.1
  obtain ⟨cc, ecc⟩ := is_v (Cond.before_iff.mp (hsets _ (List.mem_of_getElem? (i := 10) rfl)))
  have hcc : ¬ cc = 0 := fun q => by
    have q1 := not_v (Cond.before_iff.mp (hsets _ (List.mem_of_getElem? (i := 11) rfl)))
    exact absurd q (gotF (Cond.eq_ints ecc (Term.int_eval 0)) q1)
  obtain ⟨fm, efm, hfm⟩ := isR_v (Cond.before_iff.mp (hsets _ (List.mem_of_getElem? (i := 17) rfl)))
  have hG : SEnv s cc fm := ⟨Sta.start ecc (Or.inl (hsets _ (List.mem_of_getElem? (i := 9) rfl))), hcc, Sta.start efm (Or.inl (hsets _ (List.mem_of_getElem? (i := 16) rfl))), hfm⟩
  have hEW : EW s _ consts_1 := (EW.cons (hw _ (List.mem_of_getElem? w_25)) (by decide) (EW.cons (hw _ (List.mem_of_getElem? w_201)) (by decide) EW.nil))
  have hCH : CHv s consts_1 s.vm s.heap := CHv.start hEW hheld (a0 := _) (hsets _ (List.mem_of_getElem? (i := 11) rfl)) (hw _ (List.mem_of_getElem? w_26)) (hw _ (List.mem_of_getElem? w_13))
  have qa := Cond.before_iff.mp (hsets _ (List.mem_of_getElem? (i := 6) rfl))
  obtain ⟨oD, ec⟩ := arr_v qa
  obtain ⟨cl, AC⟩ := Arr.start ec qa
  have VD0 := own_len0 ec AC (Cond.before_iff.mp (hsets _ (List.mem_of_getElem? (i := 8) rfl)))
  obtain ⟨t, o, h1, h2, h3, v, L, rfl, ⟨rfl, N, -⟩, -, hq⟩ := c_law l s _ hw hEW cc fm p0 p1 p2 p3 oD s.heap ⟨Nat.le_refl _, fun _ _ q => q⟩ hG (Sta.start ec (Or.inr ⟨(hw _ (List.mem_of_getElem? w_39)), (hsets _ (List.mem_of_getElem? (i := 2) rfl))⟩)) VD0
    p e ha hc hk s m _ below hf ((Spec.applies_iff_loose hf).mp happ).1 ⟨rfl, State.Warmed39.refl s, rfl, hCH, fun _ q => nomatch q⟩ trivial
  refine ⟨t, _, h1, h2, h3, hpost _ _ _ _ _ _ ⟨Cond.after_iff.mpr rfl, Cond.after_iff.mpr (eq_i res_at (Term.int_eval (1)) rfl), trivial⟩ ⟨hq.1, hq.2.1, hq.2.2.1, (hq.2.2.2.sift fun y hy => Or.inr (N y hy)).mono (by decide) (by decide)⟩⟩
theorem main_1_1 : Claimed_1_1 := comes_1 fun _ _ _ _ _ _ h hF => ⟨h.1, hF⟩
theorem main_1_2 : Claimed_1_2 := comes_1 fun _ _ _ _ _ _ h hF => ⟨h.2.1, hF⟩
end Jvm.Pilot.@@N@@
namespace Jvm.Pilot.@@N@@
open Jvm Jvm.ClassFile Sem Op Lib Jvm.Free Jvm.Stand Jvm.Pilot.@@N@@.Jvm.D
/-! MADE BY PROGRAM (witnessworld.py) out of the Statement's table words and the real class files: 33 classes; the members and pool entries that the words name. The judged class is class 1, her method 1. -/
namespace start1
open Jvm.ClassFile
def u (s : String) : CpInfo := .utf8 (stringToUtf16 s)
/-- a pool by its gaps: so many unusable entries, then the entry; so many at the end -/
def gap : Nat → List CpInfo → List CpInfo
  | 0, r => r
  | n + 1, r => .unusable :: gap n r
def poolList (es : List (Nat × CpInfo)) (last : Nat) : List CpInfo := es.foldr (fun e r => gap e.1 (e.2 :: r)) (gap last [])
def pool (es : List (Nat × CpInfo)) (last : Nat) : Array CpInfo := ⟨poolList es last⟩
def fileOf (pool : Array CpInfo) (this : Nat) (attrs : Array Attribute := #[]) (ms : Array MethodInfo := #[]) (fl : Nat := 33) (sup : Nat := 0) (ifs : Array Nat := #[]) (fds : Array FieldInfo := #[]) : ClassFile where
  minorVersion := 0
  majorVersion := 65
  constantPool := pool
  accessFlags := fl
  thisClass := this
  superClass := sup
  interfaces := ifs
  fields := fds
  methods := ms
  attributes := attrs
def plain (name : String) (sup : Option ClassId) : Class where
  name := name
  kind := .ordinary
  loader := none
  accessFlags := 33
  super := sup
  interfaces := #[]
  cf := none
  fields := #[]
  methods := #[]
  instanceTypes := #[]
  staticTypes := #[]
  resolved := #[]
  callSites := []
  init := .initialized
  statics := none
  mirror := none

def pool0 : Array CpInfo := pool [(5, u "<init>"), (0, u "()V"), (1, .class_ 10), (1, u "java/lang/Object")] 113

def k0c0 : Code := { maxStack := 0, maxLocals := 1, code := object_method_1_code, exceptionTable := #[], attributes := #[] }
def k0m0 : Method := { name := "<init>", desc := "()V", sig := { parameters := [], returnType := none }, accessFlags := 1, code := some k0c0 }
/-- java/lang/Object -/
def k0 : Class := { plain "java/lang/Object" none with
  accessFlags := 33
  interfaces := #[]
  cf := some (fileOf pool0 8 #[] #[{ accessFlags := 1, nameIndex := 5, descriptorIndex := 6, attributes := #[] }] 33 0 #[] #[])
  fields := #[]
  methods := #[k0m0]
  instanceTypes := #[]
  staticTypes := #[]
  resolved := Array.replicate 124 none
  statics := none }

def pool1 : Array CpInfo := pool [(2, .class_ 4), (1, u "java/lang/Object"), (0, u "<init>"), (0, u "()V"), (0, .methodref 8 9), (0, .class_ 10), (0, .nameAndType 11 12), (0, u "com/example/despatch/despatch/http/HeaderListElementsPinLaw"), (0, u "elem"), (0, u "(IJZ)[C"), (0, .methodref 8 14), (0, .nameAndType 15 16), (0, u "alloc"), (0, u "(I)[C"), (0, .methodref 8 18), (0, .nameAndType 19 20), (0, u "put"), (0, u "([CI[C)I"), (0, .class_ 22), (0, u "java/lang/String"), (0, .methodref 21 24), (0, .nameAndType 5 25), (0, u "([C)V"), (0, .methodref 27 28), (0, .class_ 29), (0, .nameAndType 30 31), (0, u "com/example/despatch/despatch/http/HeaderList"), (0, u "elements"), (0, u "(Ljava/lang/String;)Ljava/util/List;"), (0, .interfaceMethodref 33 34), (0, .class_ 35), (0, .nameAndType 36 37), (0, u "java/util/List"), (0, u "size"), (0, u "()I"), (0, .interfaceMethodref 33 39), (0, .nameAndType 40 41), (0, u "get"), (0, u "(I)Ljava/lang/Object;"), (0, .methodref 21 43), (0, .nameAndType 44 45), (0, u "equals"), (0, u "(Ljava/lang/Object;)Z"), (0, .long 255), (1, .methodref 8 49), (0, .nameAndType 50 51), (0, u "plain"), (0, u "(I)C"), (0, .methodref 8 53), (0, .nameAndType 54 51), (0, u "inner"), (0, .methodref 8 56), (0, .nameAndType 57 51), (0, u "open"), (2, u "law"), (0, u "(IJJJ)Z")] 5

def k1m0 : Method := { name := "<init>", desc := "()V", sig := { parameters := [], returnType := none }, accessFlags := 2, code := none }
def k1c1 : Code := { maxStack := 5, maxLocals := 18, code := code, exceptionTable := #[], attributes := #[] }
def k1m1 : Method := { name := "law", desc := "(IJJJ)Z", sig := { parameters := [.int, .long, .long, .long], returnType := some .boolean }, accessFlags := 9, code := some k1c1 }
def k1c2 : Code := { maxStack := 2, maxLocals := 2, code := method_3_code, exceptionTable := #[], attributes := #[] }
def k1m2 : Method := { name := "plain", desc := "(I)C", sig := { parameters := [.int], returnType := some .char }, accessFlags := 10, code := some k1c2 }
def k1c3 : Code := { maxStack := 2, maxLocals := 2, code := method_4_code, exceptionTable := #[], attributes := #[] }
def k1m3 : Method := { name := "inner", desc := "(I)C", sig := { parameters := [.int], returnType := some .char }, accessFlags := 10, code := some k1c3 }
def k1c4 : Code := { maxStack := 2, maxLocals := 2, code := method_5_code, exceptionTable := #[], attributes := #[] }
def k1m4 : Method := { name := "open", desc := "(I)C", sig := { parameters := [.int], returnType := some .char }, accessFlags := 10, code := some k1c4 }
def k1c5 : Code := { maxStack := 4, maxLocals := 8, code := method_6_code, exceptionTable := #[], attributes := #[] }
def k1m5 : Method := { name := "elem", desc := "(IJZ)[C", sig := { parameters := [.int, .long, .boolean], returnType := some (.array .char) }, accessFlags := 10, code := some k1c5 }
def k1c6 : Code := { maxStack := 4, maxLocals := 3, code := method_7_code, exceptionTable := #[], attributes := #[] }
def k1m6 : Method := { name := "put", desc := "([CI[C)I", sig := { parameters := [(.array .char), .int, (.array .char)], returnType := some .int }, accessFlags := 10, code := some k1c6 }
def k1c7 : Code := { maxStack := 2, maxLocals := 1, code := method_8_code, exceptionTable := #[], attributes := #[] }
def k1m7 : Method := { name := "alloc", desc := "(I)[C", sig := { parameters := [.int], returnType := some (.array .char) }, accessFlags := 10, code := some k1c7 }
/-- com/example/despatch/despatch/http/HeaderListElementsPinLaw -/
def k1 : Class := { plain "com/example/despatch/despatch/http/HeaderListElementsPinLaw" (some 0) with
  accessFlags := 49
  interfaces := #[]
  cf := some (fileOf pool1 8 #[] #[{ accessFlags := 2, nameIndex := 5, descriptorIndex := 6, attributes := #[] }, { accessFlags := 9, nameIndex := 60, descriptorIndex := 61, attributes := #[] }, { accessFlags := 10, nameIndex := 50, descriptorIndex := 51, attributes := #[] }, { accessFlags := 10, nameIndex := 54, descriptorIndex := 51, attributes := #[] }, { accessFlags := 10, nameIndex := 57, descriptorIndex := 51, attributes := #[] }, { accessFlags := 10, nameIndex := 11, descriptorIndex := 12, attributes := #[] }, { accessFlags := 10, nameIndex := 19, descriptorIndex := 20, attributes := #[] }, { accessFlags := 10, nameIndex := 15, descriptorIndex := 16, attributes := #[] }] 49 2 #[] #[])
  fields := #[]
  methods := #[k1m0, k1m1, k1m2, k1m3, k1m4, k1m5, k1m6, k1m7]
  instanceTypes := #[]
  staticTypes := #[]
  resolved := Array.replicate 67 none
  statics := none }

def pool2 : Array CpInfo := pool [(1, .class_ 2), (0, u "java/io/Serializable"), (0, .class_ 4), (0, u "java/lang/Object")] 2

/-- java/io/Serializable -/
def k2 : Class := { plain "java/io/Serializable" (some 0) with
  accessFlags := 1537
  interfaces := #[]
  cf := some (fileOf pool2 1 #[] #[] 1537 3 #[] #[])
  fields := #[]
  methods := #[]
  instanceTypes := #[]
  staticTypes := #[]
  resolved := Array.replicate 7 none
  statics := none }

def pool3 : Array CpInfo := pool [(1, .class_ 2), (0, u "java/lang/Comparable"), (0, .class_ 4), (0, u "java/lang/Object")] 7

/-- java/lang/Comparable -/
def k3 : Class := { plain "java/lang/Comparable" (some 0) with
  accessFlags := 1537
  interfaces := #[]
  cf := some (fileOf pool3 1 #[] #[] 1537 3 #[] #[])
  fields := #[]
  methods := #[]
  instanceTypes := #[]
  staticTypes := #[]
  resolved := Array.replicate 12 none
  statics := none }

def pool4 : Array CpInfo := pool [(2, .class_ 4), (1, u "java/lang/CharSequence"), (42, .class_ 48), (0, u "java/lang/CharSequence$1CodePointIterator"), (10, .class_ 60), (0, u "java/lang/CharSequence$1CharIterator"), (5, .class_ 67), (0, u "java/lang/Object")] 63

/-- java/lang/CharSequence -/
def k4 : Class := { plain "java/lang/CharSequence" (some 0) with
  accessFlags := 1537
  interfaces := #[]
  cf := some (fileOf pool4 2 #[.nestMembers #[47, 59]] #[] 1537 66 #[] #[])
  fields := #[]
  methods := #[]
  instanceTypes := #[]
  staticTypes := #[]
  resolved := Array.replicate 131 none
  statics := none }

def pool5 : Array CpInfo := pool [(1, .class_ 2), (0, u "java/lang/constant/Constable"), (0, .class_ 4), (0, u "java/lang/Object")] 6

/-- java/lang/constant/Constable -/
def k5 : Class := { plain "java/lang/constant/Constable" (some 0) with
  accessFlags := 1537
  interfaces := #[]
  cf := some (fileOf pool5 1 #[] #[] 1537 3 #[] #[])
  fields := #[]
  methods := #[]
  instanceTypes := #[]
  staticTypes := #[]
  resolved := Array.replicate 11 none
  statics := none }

def pool6 : Array CpInfo := pool [(1, .class_ 2), (0, u "java/lang/constant/ConstantDesc"), (0, .class_ 4), (0, u "java/lang/Object")] 32

/-- java/lang/constant/ConstantDesc -/
def k6 : Class := { plain "java/lang/constant/ConstantDesc" (some 0) with
  accessFlags := 1537
  interfaces := #[]
  cf := some (fileOf pool6 1 #[] #[] 1537 3 #[] #[])
  fields := #[]
  methods := #[]
  instanceTypes := #[]
  staticTypes := #[]
  resolved := Array.replicate 37 none
  statics := none }

def pool7 : Array CpInfo := pool [(1, .methodref 2 3), (0, .class_ 4), (0, .nameAndType 5 6), (0, u "java/lang/Object"), (0, u "<init>"), (0, u "()V"), (0, .string 8), (0, u ""), (0, .fieldref 10 11), (0, .class_ 12), (0, .nameAndType 13 14), (0, u "java/lang/String"), (0, u "value"), (0, u "[B"), (0, .fieldref 10 16), (0, .nameAndType 17 18), (0, u "coder"), (0, u "B"), (2, u "hash"), (0, u "I"), (2, u "hashIsZero"), (0, u "Z"), (0, .methodref 10 28), (0, .nameAndType 5 29), (0, u "([CIILjava/lang/Void;)V"), (8, .fieldref 10 39), (0, .nameAndType 40 26), (0, u "COMPACT_STRINGS"), (1, .class_ 44), (1, u "java/lang/StringUTF16"), (0, u "compress"), (1, .methodref 42 48), (0, .nameAndType 49 50), (0, u "coderFromArrayLen"), (0, u "([BI)B"), (56, .class_ 109), (1, u "java/lang/StringLatin1"), (32, u "()Z"), (34, .methodref 42 178), (0, .nameAndType 45 179), (0, u "([CII)[B"), (31, u "([BB)V"), (122, u "()I"), (0, .methodref 10 336), (0, .nameAndType 17 337), (0, u "()B"), (25, u "([BI)C"), (27, u "(II)V"), (35, u "(I)C"), (64, .methodref 10 493), (0, .nameAndType 494 142), (0, u "isLatin1"), (0, .methodref 107 496), (0, .nameAndType 497 363), (0, u "charAt"), (3, u "checkIndex"), (3, .methodref 10 506), (0, .nameAndType 507 334), (0, u "length"), (5, u "checkFromToIndex"), (7, .methodref 10 522), (0, .nameAndType 523 524), (0, u "checkBoundsBeginEnd"), (0, u "(III)V"), (16, .methodref 107 542), (0, .nameAndType 543 544), (0, u "equals"), (0, u "([B[B)Z"), (28, u "(Ljava/lang/Object;)Z"), (1, .class_ 576), (0, u "java/lang/CharSequence"), (22, u "CASE_INSENSITIVE_ORDER"), (0, u "Ljava/util/Comparator;"), (80, .methodref 10 682), (0, .nameAndType 683 684), (0, u "substring"), (0, u "(II)Ljava/lang/String;"), (0, .methodref 107 686), (0, .nameAndType 687 688), (0, u "newString"), (0, u "([BII)Ljava/lang/String;"), (203, u "(I)Ljava/lang/String;"), (117, u "([C)V"), (42, .fieldref 1054 1055), (0, .class_ 1056), (0, .nameAndType 1057 1058), (0, u "jdk/internal/util/Preconditions"), (0, u "SIOOBE_FORMATTER"), (0, u "Ljava/util/function/BiFunction;"), (0, .methodref 1054 1060), (0, .nameAndType 501 1061), (0, u "(IILjava/util/function/BiFunction;)I"), (0, .methodref 1054 1063), (0, .nameAndType 513 1064), (0, u "(IIILjava/util/function/BiFunction;)I"), (36, u "serialPersistentFields"), (0, u "[Ljava/io/ObjectStreamField;"), (0, .class_ 1104), (0, u "java/lang/String$CaseInsensitiveComparator"), (1, .class_ 1107), (0, u "java/io/Serializable"), (0, .class_ 1109), (0, u "java/lang/Comparable"), (0, .class_ 1111), (0, u "java/lang/constant/Constable"), (0, .class_ 1113), (0, u "java/lang/constant/ConstantDesc"), (2, u "serialVersionUID"), (0, u "J"), (3, u "REPL"), (0, u "C"), (2, u "LATIN1"), (1, u "UTF16")] 323

def k7m0 : Method := { name := "<init>", desc := "()V", sig := { parameters := [], returnType := none }, accessFlags := 1, code := none }
def k7c1 : Code := { maxStack := 5, maxLocals := 2, code := jdk_42_method_3_code, exceptionTable := #[], attributes := #[] }
def k7m1 : Method := { name := "<init>", desc := "([C)V", sig := { parameters := [(.array .char)], returnType := none }, accessFlags := 1, code := some k7c1 }
def k7c2 : Code := { maxStack := 2, maxLocals := 1, code := jdk_42_method_54_code, exceptionTable := #[], attributes := #[] }
def k7m2 : Method := { name := "length", desc := "()I", sig := { parameters := [], returnType := some .int }, accessFlags := 1, code := some k7c2 }
def k7c3 : Code := { maxStack := 2, maxLocals := 2, code := jdk_42_method_56_code, exceptionTable := #[], attributes := #[] }
def k7m3 : Method := { name := "charAt", desc := "(I)C", sig := { parameters := [.int], returnType := some .char }, accessFlags := 1, code := some k7c3 }
def k7c4 : Code := { maxStack := 2, maxLocals := 3, code := jdk_42_method_66_code, exceptionTable := #[], attributes := #[] }
def k7m4 : Method := { name := "equals", desc := "(Ljava/lang/Object;)Z", sig := { parameters := [(.object "java/lang/Object")], returnType := some .boolean }, accessFlags := 1, code := some k7c4 }
def k7c5 : Code := { maxStack := 3, maxLocals := 2, code := jdk_42_method_91_code, exceptionTable := #[], attributes := #[] }
def k7m5 : Method := { name := "substring", desc := "(I)Ljava/lang/String;", sig := { parameters := [.int], returnType := some (.object "java/lang/String") }, accessFlags := 1, code := some k7c5 }
def k7c6 : Code := { maxStack := 3, maxLocals := 5, code := jdk_42_method_92_code, exceptionTable := #[], attributes := #[] }
def k7m6 : Method := { name := "substring", desc := "(II)Ljava/lang/String;", sig := { parameters := [.int, .int], returnType := some (.object "java/lang/String") }, accessFlags := 1, code := some k7c6 }
def k7c7 : Code := { maxStack := 4, maxLocals := 6, code := jdk_42_method_149_code, exceptionTable := #[], attributes := #[] }
def k7m7 : Method := { name := "<init>", desc := "([CIILjava/lang/Void;)V", sig := { parameters := [(.array .char), .int, .int, (.object "java/lang/Void")], returnType := none }, accessFlags := 2, code := some k7c7 }
def k7c8 : Code := { maxStack := 2, maxLocals := 3, code := jdk_42_method_151_code, exceptionTable := #[], attributes := #[] }
def k7m8 : Method := { name := "<init>", desc := "([BB)V", sig := { parameters := [(.array .byte), .byte], returnType := none }, accessFlags := 0, code := some k7c8 }
def k7c9 : Code := { maxStack := 1, maxLocals := 1, code := jdk_42_method_152_code, exceptionTable := #[], attributes := #[] }
def k7m9 : Method := { name := "coder", desc := "()B", sig := { parameters := [], returnType := some .byte }, accessFlags := 0, code := some k7c9 }
def k7c10 : Code := { maxStack := 1, maxLocals := 1, code := jdk_42_method_154_code, exceptionTable := #[], attributes := #[] }
def k7m10 : Method := { name := "isLatin1", desc := "()Z", sig := { parameters := [], returnType := some .boolean }, accessFlags := 0, code := some k7c10 }
def k7c11 : Code := { maxStack := 3, maxLocals := 2, code := jdk_42_method_155_code, exceptionTable := #[], attributes := #[] }
def k7m11 : Method := { name := "checkIndex", desc := "(II)V", sig := { parameters := [.int, .int], returnType := none }, accessFlags := 8, code := some k7c11 }
def k7c12 : Code := { maxStack := 4, maxLocals := 3, code := jdk_42_method_158_code, exceptionTable := #[], attributes := #[] }
def k7m12 : Method := { name := "checkBoundsBeginEnd", desc := "(III)V", sig := { parameters := [.int, .int, .int], returnType := none }, accessFlags := 8, code := some k7c12 }
/-- java/lang/String -/
def k7 : Class := { plain "java/lang/String" (some 0) with
  accessFlags := 49
  interfaces := #[2, 3, 4, 5, 6]
  cf := some (fileOf pool7 10 #[.nestMembers #[1103]] #[{ accessFlags := 1, nameIndex := 5, descriptorIndex := 6, attributes := #[] }, { accessFlags := 1, nameIndex := 5, descriptorIndex := 1010, attributes := #[] }, { accessFlags := 1, nameIndex := 507, descriptorIndex := 334, attributes := #[] }, { accessFlags := 1, nameIndex := 497, descriptorIndex := 427, attributes := #[] }, { accessFlags := 1, nameIndex := 543, descriptorIndex := 573, attributes := #[] }, { accessFlags := 1, nameIndex := 683, descriptorIndex := 892, attributes := #[] }, { accessFlags := 1, nameIndex := 683, descriptorIndex := 684, attributes := #[] }, { accessFlags := 2, nameIndex := 5, descriptorIndex := 29, attributes := #[] }, { accessFlags := 0, nameIndex := 5, descriptorIndex := 211, attributes := #[] }, { accessFlags := 0, nameIndex := 17, descriptorIndex := 337, attributes := #[] }, { accessFlags := 0, nameIndex := 494, descriptorIndex := 142, attributes := #[] }, { accessFlags := 8, nameIndex := 501, descriptorIndex := 391, attributes := #[] }, { accessFlags := 8, nameIndex := 523, descriptorIndex := 524, attributes := #[] }] 49 2 #[1106, 1108, 575, 1110, 1112] #[{ accessFlags := 18, nameIndex := 13, descriptorIndex := 14, attributes := #[] }, { accessFlags := 18, nameIndex := 17, descriptorIndex := 18, attributes := #[] }, { accessFlags := 2, nameIndex := 21, descriptorIndex := 22, attributes := #[] }, { accessFlags := 2, nameIndex := 25, descriptorIndex := 26, attributes := #[] }, { accessFlags := 26, nameIndex := 1116, descriptorIndex := 1117, attributes := #[] }, { accessFlags := 24, nameIndex := 40, descriptorIndex := 26, attributes := #[] }, { accessFlags := 26, nameIndex := 1101, descriptorIndex := 1102, attributes := #[] }, { accessFlags := 26, nameIndex := 1121, descriptorIndex := 1122, attributes := #[] }, { accessFlags := 25, nameIndex := 599, descriptorIndex := 600, attributes := #[] }, { accessFlags := 24, nameIndex := 1125, descriptorIndex := 18, attributes := #[] }, { accessFlags := 24, nameIndex := 1127, descriptorIndex := 18, attributes := #[] }])
  fields := #[{ name := "value", type := (.array .byte), accessFlags := 18, slot := 0, constantValue := 0 }, { name := "coder", type := .byte, accessFlags := 18, slot := 1, constantValue := 0 }, { name := "hash", type := .int, accessFlags := 2, slot := 2, constantValue := 0 }, { name := "hashIsZero", type := .boolean, accessFlags := 2, slot := 3, constantValue := 0 }, { name := "serialVersionUID", type := .long, accessFlags := 26, slot := 0, constantValue := 0 }, { name := "COMPACT_STRINGS", type := .boolean, accessFlags := 24, slot := 1, constantValue := 0 }, { name := "serialPersistentFields", type := (.array (.object "java/io/ObjectStreamField")), accessFlags := 26, slot := 2, constantValue := 0 }, { name := "REPL", type := .char, accessFlags := 26, slot := 3, constantValue := 0 }, { name := "CASE_INSENSITIVE_ORDER", type := (.object "java/util/Comparator"), accessFlags := 25, slot := 4, constantValue := 0 }, { name := "LATIN1", type := .byte, accessFlags := 24, slot := 5, constantValue := 0 }, { name := "UTF16", type := .byte, accessFlags := 24, slot := 6, constantValue := 0 }]
  methods := #[k7m0, k7m1, k7m2, k7m3, k7m4, k7m5, k7m6, k7m7, k7m8, k7m9, k7m10, k7m11, k7m12]
  instanceTypes := #[(.array .byte), .byte, .int, .boolean]
  staticTypes := #[.long, .boolean, (.array (.object "java/io/ObjectStreamField")), .char, (.object "java/util/Comparator"), .byte, .byte]
  resolved := Array.replicate 1451 none
  statics := some 0 }

def pool8 : Array CpInfo := pool [(2, .class_ 4), (0, .nameAndType 5 6), (0, u "java/lang/Object"), (0, u "<init>"), (0, u "()V"), (0, .class_ 8), (0, u "java/util/ArrayList"), (0, .methodref 7 3), (0, .methodref 11 12), (0, .class_ 13), (0, .nameAndType 14 15), (0, u "java/lang/String"), (0, u "length"), (0, u "()I"), (0, .methodref 11 17), (0, .nameAndType 18 19), (0, u "charAt"), (0, u "(I)C"), (0, .methodref 11 21), (0, .nameAndType 22 23), (0, u "substring"), (0, u "(II)Ljava/lang/String;"), (0, .interfaceMethodref 25 26), (0, .class_ 27), (0, .nameAndType 28 29), (0, u "java/util/List"), (0, u "add"), (0, u "(Ljava/lang/Object;)Z"), (0, .methodref 11 31), (0, .nameAndType 22 32), (0, u "(I)Ljava/lang/String;"), (0, .class_ 34), (0, u "com/example/despatch/despatch/http/HeaderList"), (2, u "elements"), (0, u "(Ljava/lang/String;)Ljava/util/List;")] 5

def k8m0 : Method := { name := "<init>", desc := "()V", sig := { parameters := [], returnType := none }, accessFlags := 2, code := none }
def k8c1 : Code := { maxStack := 4, maxLocals := 7, code := prog_3_method_2_code, exceptionTable := #[], attributes := #[] }
def k8m1 : Method := { name := "elements", desc := "(Ljava/lang/String;)Ljava/util/List;", sig := { parameters := [(.object "java/lang/String")], returnType := some (.object "java/util/List") }, accessFlags := 8, code := some k8c1 }
/-- com/example/despatch/despatch/http/HeaderList -/
def k8 : Class := { plain "com/example/despatch/despatch/http/HeaderList" (some 0) with
  accessFlags := 48
  interfaces := #[]
  cf := some (fileOf pool8 33 #[] #[{ accessFlags := 2, nameIndex := 5, descriptorIndex := 6, attributes := #[] }, { accessFlags := 8, nameIndex := 37, descriptorIndex := 38, attributes := #[] }] 48 2 #[] #[])
  fields := #[]
  methods := #[k8m0, k8m1]
  instanceTypes := #[]
  staticTypes := #[]
  resolved := Array.replicate 44 none
  statics := none }

def pool9 : Array CpInfo := pool [(8, .class_ 10), (1, u "java/lang/Iterable"), (24, .class_ 36), (0, u "java/lang/Object")] 25

/-- java/lang/Iterable -/
def k9 : Class := { plain "java/lang/Iterable" (some 0) with
  accessFlags := 1537
  interfaces := #[]
  cf := some (fileOf pool9 8 #[] #[] 1537 35 #[] #[])
  fields := #[]
  methods := #[]
  instanceTypes := #[]
  staticTypes := #[]
  resolved := Array.replicate 62 none
  statics := none }

def pool10 : Array CpInfo := pool [(10, .class_ 12), (1, u "java/util/Collection"), (47, .class_ 61), (0, u "java/lang/Object"), (0, .class_ 63), (0, u "java/lang/Iterable")] 51

/-- java/util/Collection -/
def k10 : Class := { plain "java/util/Collection" (some 0) with
  accessFlags := 1537
  interfaces := #[9]
  cf := some (fileOf pool10 10 #[] #[] 1537 60 #[62] #[])
  fields := #[]
  methods := #[]
  instanceTypes := #[]
  staticTypes := #[]
  resolved := Array.replicate 115 none
  statics := none }

def pool11 : Array CpInfo := pool [(1, .methodref 2 3), (0, .class_ 4), (0, .nameAndType 5 6), (0, u "java/lang/Object"), (0, u "<init>"), (0, u "()V"), (1, .class_ 10), (1, u "java/util/AbstractCollection"), (66, .class_ 78), (0, u "java/util/Collection")] 81

def k11c0 : Code := { maxStack := 1, maxLocals := 1, code := jdk_22_method_1_code, exceptionTable := #[], attributes := #[] }
def k11m0 : Method := { name := "<init>", desc := "()V", sig := { parameters := [], returnType := none }, accessFlags := 4, code := some k11c0 }
/-- java/util/AbstractCollection -/
def k11 : Class := { plain "java/util/AbstractCollection" (some 0) with
  accessFlags := 1057
  interfaces := #[10]
  cf := some (fileOf pool11 8 #[] #[{ accessFlags := 4, nameIndex := 5, descriptorIndex := 6, attributes := #[] }] 1057 2 #[77] #[])
  fields := #[]
  methods := #[k11m0]
  instanceTypes := #[]
  staticTypes := #[]
  resolved := Array.replicate 160 none
  statics := none }

def pool12 : Array CpInfo := pool [(8, .class_ 10), (1, u "java/util/SequencedCollection"), (15, .class_ 27), (0, u "java/lang/Object"), (0, .class_ 29), (0, u "java/util/Collection")] 27

/-- java/util/SequencedCollection -/
def k12 : Class := { plain "java/util/SequencedCollection" (some 0) with
  accessFlags := 1537
  interfaces := #[10]
  cf := some (fileOf pool12 8 #[] #[] 1537 26 #[28] #[])
  fields := #[]
  methods := #[]
  instanceTypes := #[]
  staticTypes := #[]
  resolved := Array.replicate 57 none
  statics := none }

def pool13 : Array CpInfo := pool [(8, .class_ 10), (1, u "java/util/List"), (49, u "add"), (3, u "(Ljava/lang/Object;)Z"), (10, u "get"), (0, u "(I)Ljava/lang/Object;"), (2, u "size"), (0, u "()I"), (22, .class_ 104), (0, u "java/lang/Object"), (15, .class_ 121), (0, u "java/util/SequencedCollection")] 129

def k13m0 : Method := { name := "size", desc := "()I", sig := { parameters := [], returnType := some .int }, accessFlags := 1025, code := none }
def k13m1 : Method := { name := "add", desc := "(Ljava/lang/Object;)Z", sig := { parameters := [(.object "java/lang/Object")], returnType := some .boolean }, accessFlags := 1025, code := none }
def k13m2 : Method := { name := "get", desc := "(I)Ljava/lang/Object;", sig := { parameters := [.int], returnType := some (.object "java/lang/Object") }, accessFlags := 1025, code := none }
/-- java/util/List -/
def k13 : Class := { plain "java/util/List" (some 0) with
  accessFlags := 1537
  interfaces := #[12]
  cf := some (fileOf pool13 8 #[] #[{ accessFlags := 1025, nameIndex := 79, descriptorIndex := 80, attributes := #[] }, { accessFlags := 1025, nameIndex := 60, descriptorIndex := 64, attributes := #[] }, { accessFlags := 1025, nameIndex := 75, descriptorIndex := 76, attributes := #[] }] 1537 103 #[120] #[])
  fields := #[]
  methods := #[k13m0, k13m1, k13m2]
  instanceTypes := #[]
  staticTypes := #[]
  resolved := Array.replicate 251 none
  statics := none }

def pool14 : Array CpInfo := pool [(1, .methodref 2 3), (0, .class_ 4), (0, .nameAndType 5 6), (0, u "java/util/AbstractCollection"), (0, u "<init>"), (0, u "()V"), (0, .fieldref 8 9), (0, .class_ 10), (0, .nameAndType 11 12), (0, u "java/util/AbstractList"), (0, u "modCount"), (0, u "I"), (64, .class_ 78), (0, u "java/util/AbstractList$Itr"), (3, .class_ 83), (0, u "java/util/AbstractList$ListItr"), (9, .class_ 94), (0, u "java/util/AbstractList$RandomAccessSubList"), (3, .class_ 99), (0, u "java/util/AbstractList$SubList"), (33, .class_ 134), (0, u "java/util/List"), (73, .class_ 209), (0, u "java/util/AbstractList$SubList$1"), (0, .class_ 211), (0, u "java/util/AbstractList$RandomAccessSpliterator")] 6

def k14c0 : Code := { maxStack := 2, maxLocals := 1, code := jdk_39_method_1_code, exceptionTable := #[], attributes := #[] }
def k14m0 : Method := { name := "<init>", desc := "()V", sig := { parameters := [], returnType := none }, accessFlags := 4, code := some k14c0 }
/-- java/util/AbstractList -/
def k14 : Class := { plain "java/util/AbstractList" (some 11) with
  accessFlags := 1057
  interfaces := #[13]
  cf := some (fileOf pool14 8 #[.nestMembers #[93, 98, 208, 210, 82, 77]] #[{ accessFlags := 4, nameIndex := 5, descriptorIndex := 6, attributes := #[] }] 1057 2 #[133] #[{ accessFlags := 132, nameIndex := 11, descriptorIndex := 12, attributes := #[] }])
  fields := #[{ name := "modCount", type := .int, accessFlags := 132, slot := 0, constantValue := 0 }]
  methods := #[k14m0]
  instanceTypes := #[.int]
  staticTypes := #[]
  resolved := Array.replicate 218 none
  statics := none }

def pool15 : Array CpInfo := pool [(1, .class_ 2), (0, u "java/util/RandomAccess"), (0, .class_ 4), (0, u "java/lang/Object")] 2

/-- java/util/RandomAccess -/
def k15 : Class := { plain "java/util/RandomAccess" (some 0) with
  accessFlags := 1537
  interfaces := #[]
  cf := some (fileOf pool15 1 #[] #[] 1537 3 #[] #[])
  fields := #[]
  methods := #[]
  instanceTypes := #[]
  staticTypes := #[]
  resolved := Array.replicate 7 none
  statics := none }

def pool16 : Array CpInfo := pool [(1, .class_ 2), (0, u "java/lang/Cloneable"), (0, .class_ 4), (0, u "java/lang/Object")] 2

/-- java/lang/Cloneable -/
def k16 : Class := { plain "java/lang/Cloneable" (some 0) with
  accessFlags := 1537
  interfaces := #[]
  cf := some (fileOf pool16 1 #[] #[] 1537 3 #[] #[])
  fields := #[]
  methods := #[]
  instanceTypes := #[]
  staticTypes := #[]
  resolved := Array.replicate 7 none
  statics := none }

def pool17 : Array CpInfo := pool [(1, .methodref 2 3), (0, .class_ 4), (0, .nameAndType 5 6), (0, u "java/util/AbstractList"), (0, u "<init>"), (0, u "()V"), (0, .class_ 8), (0, u "java/lang/Object"), (0, .fieldref 10 11), (0, .class_ 12), (0, .nameAndType 13 14), (0, u "java/util/ArrayList"), (0, u "elementData"), (0, u "[Ljava/lang/Object;"), (2, u "EMPTY_ELEMENTDATA"), (21, .fieldref 10 40), (0, .nameAndType 41 14), (0, u "DEFAULTCAPACITY_EMPTY_ELEMENTDATA"), (5, u "()[Ljava/lang/Object;"), (0, .fieldref 10 49), (0, .nameAndType 50 51), (0, u "size"), (0, u "I"), (11, .fieldref 10 64), (0, .nameAndType 65 51), (0, u "modCount"), (3, .methodref 10 70), (0, .nameAndType 71 72), (0, u "grow"), (0, u "(I)[Ljava/lang/Object;"), (6, .methodref 80 81), (0, .class_ 82), (0, .nameAndType 83 84), (0, u "java/lang/Math"), (0, u "max"), (0, u "(II)I"), (11, u "(Ljava/lang/Object;)Z"), (21, .methodref 119 120), (0, .class_ 121), (0, .nameAndType 122 84), (0, u "java/util/Objects"), (0, u "checkIndex"), (0, .methodref 10 124), (0, .nameAndType 13 125), (0, u "(I)Ljava/lang/Object;"), (3, .methodref 10 130), (0, .nameAndType 71 47), (0, .methodref 10 132), (0, .nameAndType 133 134), (0, u "add"), (0, u "(Ljava/lang/Object;[Ljava/lang/Object;I)V"), (13, .class_ 149), (0, u "java/util/List"), (36, u "()I"), (75, .class_ 263), (0, u "java/util/ArrayList$ListItr"), (3, .class_ 268), (0, u "java/util/ArrayList$Itr"), (7, .class_ 277), (0, u "java/util/ArrayList$SubList"), (12, .class_ 291), (0, u "java/util/ArrayList$ArrayListSpliterator"), (37, .class_ 330), (0, u "java/util/RandomAccess"), (0, .class_ 332), (0, u "java/lang/Cloneable"), (0, .class_ 334), (0, u "java/io/Serializable"), (0, u "serialVersionUID"), (0, u "J"), (3, u "DEFAULT_CAPACITY"), (40, u "get"), (118, .class_ 501), (0, u "java/util/ArrayList$SubList$2"), (0, .class_ 503), (0, u "java/util/ArrayList$SubList$1")] 5

def k17c0 : Code := { maxStack := 2, maxLocals := 1, code := jdk_38_method_2_code, exceptionTable := #[], attributes := #[] }
def k17m0 : Method := { name := "<init>", desc := "()V", sig := { parameters := [], returnType := none }, accessFlags := 1, code := some k17c0 }
def k17c1 : Code := { maxStack := 4, maxLocals := 4, code := jdk_38_method_6_code, exceptionTable := #[], attributes := #[] }
def k17m1 : Method := { name := "grow", desc := "(I)[Ljava/lang/Object;", sig := { parameters := [.int], returnType := some (.array (.object "java/lang/Object")) }, accessFlags := 2, code := some k17c1 }
def k17c2 : Code := { maxStack := 3, maxLocals := 1, code := jdk_38_method_7_code, exceptionTable := #[], attributes := #[] }
def k17m2 : Method := { name := "grow", desc := "()[Ljava/lang/Object;", sig := { parameters := [], returnType := some (.array (.object "java/lang/Object")) }, accessFlags := 2, code := some k17c2 }
def k17c3 : Code := { maxStack := 1, maxLocals := 1, code := jdk_38_method_8_code, exceptionTable := #[], attributes := #[] }
def k17m3 : Method := { name := "size", desc := "()I", sig := { parameters := [], returnType := some .int }, accessFlags := 1, code := some k17c3 }
def k17c4 : Code := { maxStack := 2, maxLocals := 2, code := jdk_38_method_18_code, exceptionTable := #[], attributes := #[] }
def k17m4 : Method := { name := "elementData", desc := "(I)Ljava/lang/Object;", sig := { parameters := [.int], returnType := some (.object "java/lang/Object") }, accessFlags := 0, code := some k17c4 }
def k17c5 : Code := { maxStack := 2, maxLocals := 2, code := jdk_38_method_20_code, exceptionTable := #[], attributes := #[] }
def k17m5 : Method := { name := "get", desc := "(I)Ljava/lang/Object;", sig := { parameters := [.int], returnType := some (.object "java/lang/Object") }, accessFlags := 1, code := some k17c5 }
def k17c6 : Code := { maxStack := 3, maxLocals := 4, code := jdk_38_method_24_code, exceptionTable := #[], attributes := #[] }
def k17m6 : Method := { name := "add", desc := "(Ljava/lang/Object;[Ljava/lang/Object;I)V", sig := { parameters := [(.object "java/lang/Object"), (.array (.object "java/lang/Object")), .int], returnType := none }, accessFlags := 2, code := some k17c6 }
def k17c7 : Code := { maxStack := 4, maxLocals := 2, code := jdk_38_method_25_code, exceptionTable := #[], attributes := #[] }
def k17m7 : Method := { name := "add", desc := "(Ljava/lang/Object;)Z", sig := { parameters := [(.object "java/lang/Object")], returnType := some .boolean }, accessFlags := 1, code := some k17c7 }
/-- java/util/ArrayList -/
def k17 : Class := { plain "java/util/ArrayList" (some 14) with
  accessFlags := 33
  interfaces := #[13, 15, 16, 2]
  cf := some (fileOf pool17 10 #[.nestMembers #[290, 276, 500, 502, 262, 267]] #[{ accessFlags := 1, nameIndex := 5, descriptorIndex := 6, attributes := #[] }, { accessFlags := 2, nameIndex := 71, descriptorIndex := 72, attributes := #[] }, { accessFlags := 2, nameIndex := 71, descriptorIndex := 47, attributes := #[] }, { accessFlags := 1, nameIndex := 50, descriptorIndex := 186, attributes := #[] }, { accessFlags := 0, nameIndex := 13, descriptorIndex := 125, attributes := #[] }, { accessFlags := 1, nameIndex := 381, descriptorIndex := 125, attributes := #[] }, { accessFlags := 2, nameIndex := 133, descriptorIndex := 134, attributes := #[] }, { accessFlags := 1, nameIndex := 133, descriptorIndex := 96, attributes := #[] }] 33 2 #[148, 329, 331, 333] #[{ accessFlags := 26, nameIndex := 335, descriptorIndex := 336, attributes := #[] }, { accessFlags := 26, nameIndex := 340, descriptorIndex := 51, attributes := #[] }, { accessFlags := 26, nameIndex := 17, descriptorIndex := 14, attributes := #[] }, { accessFlags := 26, nameIndex := 41, descriptorIndex := 14, attributes := #[] }, { accessFlags := 128, nameIndex := 13, descriptorIndex := 14, attributes := #[] }, { accessFlags := 2, nameIndex := 50, descriptorIndex := 51, attributes := #[] }])
  fields := #[{ name := "serialVersionUID", type := .long, accessFlags := 26, slot := 0, constantValue := 0 }, { name := "DEFAULT_CAPACITY", type := .int, accessFlags := 26, slot := 1, constantValue := 0 }, { name := "EMPTY_ELEMENTDATA", type := (.array (.object "java/lang/Object")), accessFlags := 26, slot := 2, constantValue := 0 }, { name := "DEFAULTCAPACITY_EMPTY_ELEMENTDATA", type := (.array (.object "java/lang/Object")), accessFlags := 26, slot := 3, constantValue := 0 }, { name := "elementData", type := (.array (.object "java/lang/Object")), accessFlags := 128, slot := 1, constantValue := 0 }, { name := "size", type := .int, accessFlags := 2, slot := 2, constantValue := 0 }]
  methods := #[k17m0, k17m1, k17m2, k17m3, k17m4, k17m5, k17m6, k17m7]
  instanceTypes := #[.int, (.array (.object "java/lang/Object")), .int]
  staticTypes := #[.long, .int, (.array (.object "java/lang/Object")), (.array (.object "java/lang/Object"))]
  resolved := Array.replicate 509 none
  statics := some 1 }

def pool18 : Array CpInfo := pool [(2, .class_ 4), (1, u "java/lang/Object"), (0, u "<init>"), (0, u "()V"), (17, .class_ 26), (1, u "jdk/internal/util/Preconditions"), (6, u "checkIndex"), (13, u "checkFromToIndex"), (7, .class_ 56), (0, u "jdk/internal/util/Preconditions$4"), (57, .class_ 115), (0, u "jdk/internal/util/Preconditions$1"), (7, u "SIOOBE_FORMATTER"), (0, u "Ljava/util/function/BiFunction;"), (0, .class_ 126), (0, u "jdk/internal/util/Preconditions$2"), (3, u "AIOOBE_FORMATTER"), (0, .class_ 132), (0, u "jdk/internal/util/Preconditions$3"), (3, u "IOOBE_FORMATTER"), (41, u "(IILjava/util/function/BiFunction;)I"), (4, u "(IIILjava/util/function/BiFunction;)I")] 10

def k18m0 : Method := { name := "<init>", desc := "()V", sig := { parameters := [], returnType := none }, accessFlags := 1, code := none }
def k18c1 : Code := { maxStack := 3, maxLocals := 3, code := jdk_41_method_11_code, exceptionTable := #[], attributes := #[] }
def k18m1 : Method := { name := "checkIndex", desc := "(IILjava/util/function/BiFunction;)I", sig := { parameters := [.int, .int, (.object "java/util/function/BiFunction")], returnType := some .int }, accessFlags := 9, code := some k18c1 }
def k18c2 : Code := { maxStack := 4, maxLocals := 4, code := jdk_41_method_12_code, exceptionTable := #[], attributes := #[] }
def k18m2 : Method := { name := "checkFromToIndex", desc := "(IIILjava/util/function/BiFunction;)I", sig := { parameters := [.int, .int, .int, (.object "java/util/function/BiFunction")], returnType := some .int }, accessFlags := 9, code := some k18c2 }
/-- jdk/internal/util/Preconditions -/
def k18 : Class := { plain "jdk/internal/util/Preconditions" (some 0) with
  accessFlags := 33
  interfaces := #[]
  cf := some (fileOf pool18 24 #[.nestMembers #[55, 131, 125, 114]] #[{ accessFlags := 1, nameIndex := 5, descriptorIndex := 6, attributes := #[] }, { accessFlags := 9, nameIndex := 33, descriptorIndex := 178, attributes := #[] }, { accessFlags := 9, nameIndex := 47, descriptorIndex := 183, attributes := #[] }] 33 2 #[] #[{ accessFlags := 25, nameIndex := 123, descriptorIndex := 124, attributes := #[] }, { accessFlags := 25, nameIndex := 130, descriptorIndex := 124, attributes := #[] }, { accessFlags := 25, nameIndex := 136, descriptorIndex := 124, attributes := #[] }])
  fields := #[{ name := "SIOOBE_FORMATTER", type := (.object "java/util/function/BiFunction"), accessFlags := 25, slot := 0, constantValue := 0 }, { name := "AIOOBE_FORMATTER", type := (.object "java/util/function/BiFunction"), accessFlags := 25, slot := 1, constantValue := 0 }, { name := "IOOBE_FORMATTER", type := (.object "java/util/function/BiFunction"), accessFlags := 25, slot := 2, constantValue := 0 }]
  methods := #[k18m0, k18m1, k18m2]
  instanceTypes := #[]
  staticTypes := #[(.object "java/util/function/BiFunction"), (.object "java/util/function/BiFunction"), (.object "java/util/function/BiFunction")]
  resolved := Array.replicate 194 none
  statics := some 2 }

def pool19 : Array CpInfo := pool [(1, .class_ 2), (0, u "java/lang/Math"), (1, .class_ 6), (1, u "java/lang/Object"), (0, u "<init>"), (0, u "()V"), (89, .class_ 100), (1, u "java/lang/Math$RandomNumberGeneratorHolder"), (71, u "negativeZeroFloatBits"), (0, u "J"), (2, u "negativeZeroDoubleBits"), (21, u "max"), (2, u "min"), (43, u "$assertionsDisabled"), (0, u "Z"), (88, u "(II)I"), (2, u "twoToTheDoubleScaleDown"), (0, u "D"), (4, u "twoToTheDoubleScaleUp"), (9, u "E"), (3, u "PI"), (2, u "TAU"), (2, u "DEGREES_TO_RADIANS"), (0, u "RADIANS_TO_DEGREES")] 94

def k19m0 : Method := { name := "<init>", desc := "()V", sig := { parameters := [], returnType := none }, accessFlags := 2, code := none }
def k19c1 : Code := { maxStack := 2, maxLocals := 2, code := jdk_29_method_65_code, exceptionTable := #[], attributes := #[] }
def k19m1 : Method := { name := "max", desc := "(II)I", sig := { parameters := [.int, .int], returnType := some .int }, accessFlags := 9, code := some k19c1 }
def k19c2 : Code := { maxStack := 2, maxLocals := 2, code := jdk_29_method_69_code, exceptionTable := #[], attributes := #[] }
def k19m2 : Method := { name := "min", desc := "(II)I", sig := { parameters := [.int, .int], returnType := some .int }, accessFlags := 9, code := some k19c2 }
/-- java/lang/Math -/
def k19 : Class := { plain "java/lang/Math" (some 0) with
  accessFlags := 49
  interfaces := #[]
  cf := some (fileOf pool19 1 #[.nestMembers #[98]] #[{ accessFlags := 2, nameIndex := 7, descriptorIndex := 8, attributes := #[] }, { accessFlags := 9, nameIndex := 198, descriptorIndex := 335, attributes := #[] }, { accessFlags := 9, nameIndex := 201, descriptorIndex := 335, attributes := #[] }] 49 4 #[] #[{ accessFlags := 25, nameIndex := 354, descriptorIndex := 339, attributes := #[] }, { accessFlags := 25, nameIndex := 358, descriptorIndex := 339, attributes := #[] }, { accessFlags := 25, nameIndex := 361, descriptorIndex := 339, attributes := #[] }, { accessFlags := 26, nameIndex := 364, descriptorIndex := 339, attributes := #[] }, { accessFlags := 26, nameIndex := 365, descriptorIndex := 339, attributes := #[] }, { accessFlags := 26, nameIndex := 172, descriptorIndex := 173, attributes := #[] }, { accessFlags := 26, nameIndex := 176, descriptorIndex := 173, attributes := #[] }, { accessFlags := 8, nameIndex := 344, descriptorIndex := 339, attributes := #[] }, { accessFlags := 8, nameIndex := 338, descriptorIndex := 339, attributes := #[] }, { accessFlags := 4120, nameIndex := 245, descriptorIndex := 246, attributes := #[] }])
  fields := #[{ name := "E", type := .double, accessFlags := 25, slot := 0, constantValue := 0 }, { name := "PI", type := .double, accessFlags := 25, slot := 1, constantValue := 0 }, { name := "TAU", type := .double, accessFlags := 25, slot := 2, constantValue := 0 }, { name := "DEGREES_TO_RADIANS", type := .double, accessFlags := 26, slot := 3, constantValue := 0 }, { name := "RADIANS_TO_DEGREES", type := .double, accessFlags := 26, slot := 4, constantValue := 0 }, { name := "negativeZeroFloatBits", type := .long, accessFlags := 26, slot := 5, constantValue := 0 }, { name := "negativeZeroDoubleBits", type := .long, accessFlags := 26, slot := 6, constantValue := 0 }, { name := "twoToTheDoubleScaleUp", type := .double, accessFlags := 8, slot := 7, constantValue := 0 }, { name := "twoToTheDoubleScaleDown", type := .double, accessFlags := 8, slot := 8, constantValue := 0 }, { name := "$assertionsDisabled", type := .boolean, accessFlags := 4120, slot := 9, constantValue := 0 }]
  methods := #[k19m0, k19m1, k19m2]
  instanceTypes := #[]
  staticTypes := #[.double, .double, .double, .double, .double, .long, .long, .double, .double, .boolean]
  resolved := Array.replicate 460 none
  statics := none }

def pool20 : Array CpInfo := pool [(2, .class_ 4), (1, u "java/lang/Object"), (0, u "<init>"), (0, u "()V"), (35, .class_ 44), (1, u "java/util/Objects"), (60, .methodref 106 107), (0, .class_ 108), (0, .nameAndType 109 110), (0, u "jdk/internal/util/Preconditions"), (0, u "checkIndex"), (0, u "(IILjava/util/function/BiFunction;)I"), (60, u "(II)I")] 12

def k20m0 : Method := { name := "<init>", desc := "()V", sig := { parameters := [], returnType := none }, accessFlags := 2, code := none }
def k20c1 : Code := { maxStack := 3, maxLocals := 2, code := jdk_31_method_17_code, exceptionTable := #[], attributes := #[] }
def k20m1 : Method := { name := "checkIndex", desc := "(II)I", sig := { parameters := [.int, .int], returnType := some .int }, accessFlags := 9, code := some k20c1 }
/-- java/util/Objects -/
def k20 : Class := { plain "java/util/Objects" (some 0) with
  accessFlags := 49
  interfaces := #[]
  cf := some (fileOf pool20 42 #[] #[{ accessFlags := 2, nameIndex := 5, descriptorIndex := 6, attributes := #[] }, { accessFlags := 9, nameIndex := 109, descriptorIndex := 171, attributes := #[] }] 49 2 #[] #[])
  fields := #[]
  methods := #[k20m0, k20m1]
  instanceTypes := #[]
  staticTypes := #[]
  resolved := Array.replicate 184 none
  statics := none }

def pool21 : Array CpInfo := pool [(1, .class_ 2), (0, u "java/lang/String"), (1, .class_ 6), (1, u "java/lang/Object"), (0, u "<init>"), (0, u "()V"), (0, .methodref 1 10), (0, .nameAndType 11 12), (0, u "checkIndex"), (0, u "(II)V"), (1, .class_ 16), (1, u "java/lang/StringLatin1"), (36, u "([BI)C"), (58, .methodref 1 113), (0, .nameAndType 7 114), (0, u "([BB)V"), (6, u "$assertionsDisabled"), (0, u "Z"), (8, .class_ 133), (1, u "java/util/Arrays"), (17, .string 152), (0, u ""), (43, u "newString"), (0, u "([BII)Ljava/lang/String;"), (23, .class_ 223), (1, u "java/lang/StringLatin1$LinesSpliterator"), (8, .methodref 131 233), (0, .nameAndType 234 235), (0, u "copyOfRange"), (0, u "([BII)[B"), (16, u "charAt"), (28, u "equals"), (0, u "([B[B)Z"), (107, .class_ 391), (0, u "java/lang/StringLatin1$CharsSpliterator")] 3

def k21m0 : Method := { name := "<init>", desc := "()V", sig := { parameters := [], returnType := none }, accessFlags := 0, code := none }
def k21c1 : Code := { maxStack := 2, maxLocals := 2, code := jdk_43_method_2_code, exceptionTable := #[], attributes := #[] }
def k21m1 : Method := { name := "charAt", desc := "([BI)C", sig := { parameters := [(.array .byte), .int], returnType := some .char }, accessFlags := 9, code := some k21c1 }
def k21c2 : Code := { maxStack := 3, maxLocals := 3, code := jdk_43_method_13_code, exceptionTable := #[], attributes := #[] }
def k21m2 : Method := { name := "equals", desc := "([B[B)Z", sig := { parameters := [(.array .byte), (.array .byte)], returnType := some .boolean }, accessFlags := 9, code := some k21c2 }
def k21c3 : Code := { maxStack := 6, maxLocals := 3, code := jdk_43_method_47_code, exceptionTable := #[], attributes := #[] }
def k21m3 : Method := { name := "newString", desc := "([BII)Ljava/lang/String;", sig := { parameters := [(.array .byte), .int, .int], returnType := some (.object "java/lang/String") }, accessFlags := 9, code := some k21c3 }
/-- java/lang/StringLatin1 -/
def k21 : Class := { plain "java/lang/StringLatin1" (some 0) with
  accessFlags := 48
  interfaces := #[]
  cf := some (fileOf pool21 14 #[.nestMembers #[390, 221]] #[{ accessFlags := 0, nameIndex := 7, descriptorIndex := 8, attributes := #[] }, { accessFlags := 9, nameIndex := 252, descriptorIndex := 53, attributes := #[] }, { accessFlags := 9, nameIndex := 281, descriptorIndex := 282, attributes := #[] }, { accessFlags := 9, nameIndex := 196, descriptorIndex := 197, attributes := #[] }] 48 4 #[] #[{ accessFlags := 4120, nameIndex := 121, descriptorIndex := 122, attributes := #[] }])
  fields := #[{ name := "$assertionsDisabled", type := .boolean, accessFlags := 4120, slot := 0, constantValue := 0 }]
  methods := #[k21m0, k21m1, k21m2, k21m3]
  instanceTypes := #[]
  staticTypes := #[.boolean]
  resolved := Array.replicate 395 none
  statics := none }

def pool22 : Array CpInfo := pool [(6, .class_ 8), (1, u "java/lang/Object"), (0, u "<init>"), (0, u "()V"), (1, .class_ 14), (1, u "java/lang/StringUTF16"), (31, u "$assertionsDisabled"), (0, u "Z"), (13, u "HI_BYTE_SHIFT"), (0, u "I"), (2, u "LO_BYTE_SHIFT"), (49, .methodref 12 116), (0, .nameAndType 117 118), (0, u "compress"), (0, u "([CI[BII)I"), (3, u "([CII)[B"), (138, u "coderFromArrayLen"), (0, u "([BI)B"), (106, .class_ 371), (1, u "java/lang/StringUTF16$LinesSpliterator"), (58, u "MAX_LENGTH"), (196, .class_ 628), (0, u "java/lang/StringUTF16$CodePointsSpliterator"), (0, .class_ 630), (0, u "java/lang/StringUTF16$CharsSpliterator")] 4

def k22m0 : Method := { name := "<init>", desc := "()V", sig := { parameters := [], returnType := none }, accessFlags := 0, code := none }
def k22c1 : Code := { maxStack := 2, maxLocals := 2, code := jdk_52_method_15_code, exceptionTable := #[], attributes := #[] }
def k22m1 : Method := { name := "coderFromArrayLen", desc := "([BI)B", sig := { parameters := [(.array .byte), .int], returnType := some .byte }, accessFlags := 8, code := some k22c1 }
def k22c2 : Code := { maxStack := 5, maxLocals := 6, code := jdk_52_method_16_code, exceptionTable := #[], attributes := #[] }
def k22m2 : Method := { name := "compress", desc := "([CII)[B", sig := { parameters := [(.array .char), .int, .int], returnType := some (.array .byte) }, accessFlags := 9, code := some k22c2 }
def k22c3 : Code := { maxStack := 3, maxLocals := 7, code := jdk_52_method_21_code, exceptionTable := #[], attributes := #[] }
def k22m3 : Method := { name := "compress", desc := "([CI[BII)I", sig := { parameters := [(.array .char), .int, (.array .byte), .int, .int], returnType := some .int }, accessFlags := 9, code := some k22c3 }
/-- java/lang/StringUTF16 -/
def k22 : Class := { plain "java/lang/StringUTF16" (some 0) with
  accessFlags := 48
  interfaces := #[]
  cf := some (fileOf pool22 12 #[.nestMembers #[627, 629, 369]] #[{ accessFlags := 0, nameIndex := 9, descriptorIndex := 10, attributes := #[] }, { accessFlags := 8, nameIndex := 261, descriptorIndex := 262, attributes := #[] }, { accessFlags := 9, nameIndex := 117, descriptorIndex := 122, attributes := #[] }, { accessFlags := 9, nameIndex := 117, descriptorIndex := 118, attributes := #[] }] 48 6 #[] #[{ accessFlags := 26, nameIndex := 61, descriptorIndex := 62, attributes := #[] }, { accessFlags := 26, nameIndex := 65, descriptorIndex := 62, attributes := #[] }, { accessFlags := 24, nameIndex := 430, descriptorIndex := 62, attributes := #[] }, { accessFlags := 4120, nameIndex := 46, descriptorIndex := 47, attributes := #[] }])
  fields := #[{ name := "HI_BYTE_SHIFT", type := .int, accessFlags := 26, slot := 0, constantValue := 0 }, { name := "LO_BYTE_SHIFT", type := .int, accessFlags := 26, slot := 1, constantValue := 0 }, { name := "MAX_LENGTH", type := .int, accessFlags := 24, slot := 2, constantValue := 0 }, { name := "$assertionsDisabled", type := .boolean, accessFlags := 4120, slot := 3, constantValue := 0 }]
  methods := #[k22m0, k22m1, k22m2, k22m3]
  instanceTypes := #[]
  staticTypes := #[.int, .int, .int, .boolean]
  resolved := Array.replicate 635 none
  statics := none }

def pool23 : Array CpInfo := pool [(2, .class_ 4), (1, u "java/lang/Object"), (0, u "<init>"), (0, u "()V"), (7, .class_ 16), (1, u "java/util/Arrays"), (57, .class_ 76), (1, u "java/util/Arrays$NaturalOrder"), (36, .class_ 115), (1, u "java/util/Arrays$LegacyMergeSort"), (1, u "Z"), (21, u "copyOfRange"), (10, .methodref 151 152), (0, .class_ 153), (0, .nameAndType 154 155), (0, u "java/lang/System"), (0, u "arraycopy"), (0, u "(Ljava/lang/Object;ILjava/lang/Object;II)V"), (148, .methodref 305 306), (0, .class_ 307), (0, .nameAndType 308 309), (0, u "java/lang/Math"), (0, u "min"), (0, u "(II)I"), (29, .methodref 14 340), (0, .nameAndType 341 342), (0, u "copyOfRangeByte"), (0, u "([BII)[B"), (0, .methodref 14 344), (0, .nameAndType 345 346), (0, u "checkLength"), (0, u "(II)V"), (28, .class_ 376), (0, u "java/util/Arrays$ArrayList"), (68, u "$assertionsDisabled"), (269, u "MIN_ARRAY_SORT_GRAN"), (0, u "I"), (2, u "INSERTIONSORT_THRESHOLD"), (255, .class_ 976), (0, u "java/util/Arrays$ArrayItr")] 52

def k23m0 : Method := { name := "<init>", desc := "()V", sig := { parameters := [], returnType := none }, accessFlags := 2, code := none }
def k23c1 : Code := { maxStack := 4, maxLocals := 2, code := jdk_65_method_131_code, exceptionTable := #[], attributes := #[] }
def k23m1 : Method := { name := "checkLength", desc := "(II)V", sig := { parameters := [.int, .int], returnType := none }, accessFlags := 10, code := some k23c1 }
def k23c2 : Code := { maxStack := 3, maxLocals := 3, code := jdk_65_method_132_code, exceptionTable := #[], attributes := #[] }
def k23m2 : Method := { name := "copyOfRange", desc := "([BII)[B", sig := { parameters := [(.array .byte), .int, .int], returnType := some (.array .byte) }, accessFlags := 9, code := some k23c2 }
def k23c3 : Code := { maxStack := 6, maxLocals := 5, code := jdk_65_method_133_code, exceptionTable := #[], attributes := #[] }
def k23m3 : Method := { name := "copyOfRangeByte", desc := "([BII)[B", sig := { parameters := [(.array .byte), .int, .int], returnType := some (.array .byte) }, accessFlags := 10, code := some k23c3 }
/-- java/util/Arrays -/
def k23 : Class := { plain "java/util/Arrays" (some 0) with
  accessFlags := 49
  interfaces := #[]
  cf := some (fileOf pool23 14 #[.nestMembers #[975, 375, 113, 74]] #[{ accessFlags := 2, nameIndex := 5, descriptorIndex := 6, attributes := #[] }, { accessFlags := 10, nameIndex := 345, descriptorIndex := 346, attributes := #[] }, { accessFlags := 9, nameIndex := 139, descriptorIndex := 342, attributes := #[] }, { accessFlags := 10, nameIndex := 341, descriptorIndex := 342, attributes := #[] }] 49 2 #[] #[{ accessFlags := 26, nameIndex := 715, descriptorIndex := 716, attributes := #[] }, { accessFlags := 26, nameIndex := 719, descriptorIndex := 716, attributes := #[] }, { accessFlags := 4120, nameIndex := 445, descriptorIndex := 117, attributes := #[] }])
  fields := #[{ name := "MIN_ARRAY_SORT_GRAN", type := .int, accessFlags := 26, slot := 0, constantValue := 0 }, { name := "INSERTIONSORT_THRESHOLD", type := .int, accessFlags := 26, slot := 1, constantValue := 0 }, { name := "$assertionsDisabled", type := .boolean, accessFlags := 4120, slot := 2, constantValue := 0 }]
  methods := #[k23m0, k23m1, k23m2, k23m3]
  instanceTypes := #[]
  staticTypes := #[.int, .int, .boolean]
  resolved := Array.replicate 1029 none
  statics := none }

def pool24 : Array CpInfo := pool [(2, .class_ 4), (1, u "java/lang/Object"), (0, u "<init>"), (0, u "()V"), (1, .class_ 10), (1, u "java/lang/System"), (0, u "allowSecurityManager"), (0, u "I"), (16, u "cons"), (0, u "Ljava/io/Console;"), (77, .class_ 110), (1, u "java/lang/System$CallersHolder"), (43, u "initialErrStream"), (0, u "Ljava/io/PrintStream;"), (19, u "security"), (0, u "Ljava/lang/SecurityManager;"), (31, .class_ 209), (0, u "java/lang/System$1"), (7, u "props"), (0, u "Ljava/util/Properties;"), (2, u "lineSeparator"), (0, u "Ljava/lang/String;"), (96, .class_ 321), (1, u "java/lang/System$LoggerFinder"), (5, .class_ 328), (0, u "java/lang/System$Logger"), (67, u "err"), (2, u "out"), (91, u "notSupportedJnuEncoding"), (15, u "in"), (17, u "initialIn"), (0, u "Ljava/io/InputStream;"), (35, u "bootLayer"), (0, u "Ljava/lang/ModuleLayer;"), (99, .class_ 664), (0, u "java/lang/System$2"), (9, u "NEVER"), (2, u "MAYBE"), (49, u "arraycopy"), (0, u "(Ljava/lang/Object;ILjava/lang/Object;II)V"), (72, .class_ 802), (0, u "java/lang/System$Logger$Level")] 31

def k24m0 : Method := { name := "<init>", desc := "()V", sig := { parameters := [], returnType := none }, accessFlags := 2, code := none }
def k24m1 : Method := { name := "arraycopy", desc := "(Ljava/lang/Object;ILjava/lang/Object;II)V", sig := { parameters := [(.object "java/lang/Object"), .int, (.object "java/lang/Object"), .int, .int], returnType := none }, accessFlags := 265, code := none }
/-- java/lang/System -/
def k24 : Class := { plain "java/lang/System" (some 0) with
  accessFlags := 49
  interfaces := #[]
  cf := some (fileOf pool24 8 #[.nestMembers #[319, 327, 801, 108, 663, 208]] #[{ accessFlags := 2, nameIndex := 5, descriptorIndex := 6, attributes := #[] }, { accessFlags := 265, nameIndex := 727, descriptorIndex := 728, attributes := #[] }] 49 2 #[] #[{ accessFlags := 25, nameIndex := 507, descriptorIndex := 526, attributes := #[] }, { accessFlags := 25, nameIndex := 399, descriptorIndex := 155, attributes := #[] }, { accessFlags := 25, nameIndex := 396, descriptorIndex := 155, attributes := #[] }, { accessFlags := 10, nameIndex := 525, descriptorIndex := 526, attributes := #[] }, { accessFlags := 26, nameIndex := 674, descriptorIndex := 12, attributes := #[] }, { accessFlags := 26, nameIndex := 677, descriptorIndex := 12, attributes := #[] }, { accessFlags := 10, nameIndex := 11, descriptorIndex := 12, attributes := #[] }, { accessFlags := 74, nameIndex := 175, descriptorIndex := 176, attributes := #[] }, { accessFlags := 10, nameIndex := 491, descriptorIndex := 222, attributes := #[] }, { accessFlags := 74, nameIndex := 29, descriptorIndex := 30, attributes := #[] }, { accessFlags := 74, nameIndex := 154, descriptorIndex := 155, attributes := #[] }, { accessFlags := 10, nameIndex := 217, descriptorIndex := 218, attributes := #[] }, { accessFlags := 10, nameIndex := 221, descriptorIndex := 222, attributes := #[] }, { accessFlags := 8, nameIndex := 562, descriptorIndex := 563, attributes := #[] }])
  fields := #[{ name := "in", type := (.object "java/io/InputStream"), accessFlags := 25, slot := 0, constantValue := 0 }, { name := "out", type := (.object "java/io/PrintStream"), accessFlags := 25, slot := 1, constantValue := 0 }, { name := "err", type := (.object "java/io/PrintStream"), accessFlags := 25, slot := 2, constantValue := 0 }, { name := "initialIn", type := (.object "java/io/InputStream"), accessFlags := 10, slot := 3, constantValue := 0 }, { name := "NEVER", type := .int, accessFlags := 26, slot := 4, constantValue := 0 }, { name := "MAYBE", type := .int, accessFlags := 26, slot := 5, constantValue := 0 }, { name := "allowSecurityManager", type := .int, accessFlags := 10, slot := 6, constantValue := 0 }, { name := "security", type := (.object "java/lang/SecurityManager"), accessFlags := 74, slot := 7, constantValue := 0 }, { name := "notSupportedJnuEncoding", type := (.object "java/lang/String"), accessFlags := 10, slot := 8, constantValue := 0 }, { name := "cons", type := (.object "java/io/Console"), accessFlags := 74, slot := 9, constantValue := 0 }, { name := "initialErrStream", type := (.object "java/io/PrintStream"), accessFlags := 74, slot := 10, constantValue := 0 }, { name := "props", type := (.object "java/util/Properties"), accessFlags := 10, slot := 11, constantValue := 0 }, { name := "lineSeparator", type := (.object "java/lang/String"), accessFlags := 10, slot := 12, constantValue := 0 }, { name := "bootLayer", type := (.object "java/lang/ModuleLayer"), accessFlags := 8, slot := 13, constantValue := 0 }]
  methods := #[k24m0, k24m1]
  instanceTypes := #[]
  staticTypes := #[(.object "java/io/InputStream"), (.object "java/io/PrintStream"), (.object "java/io/PrintStream"), (.object "java/io/InputStream"), .int, .int, .int, (.object "java/lang/SecurityManager"), (.object "java/lang/String"), (.object "java/io/Console"), (.object "java/io/PrintStream"), (.object "java/util/Properties"), (.object "java/lang/String"), (.object "java/lang/ModuleLayer")]
  resolved := Array.replicate 834 none
  statics := none }

def pool25 : Array CpInfo := pool [(9, u "<init>"), (6, .class_ 18), (1, u "java/lang/Object"), (0, u "()V"), (1, .class_ 23), (1, u "jdk/internal/util/ArraysSupport"), (0, u "LOG2_ARRAY_LONG_INDEX_SCALE"), (0, u "I"), (2, u "U"), (0, u "Ljdk/internal/misc/Unsafe;"), (8, u "BIG_ENDIAN"), (0, u "Z"), (8, u "LOG2_BYTE_BIT_SIZE"), (4, u "LOG2_ARRAY_INT_INDEX_SCALE"), (54, u "JLA"), (0, u "Ljdk/internal/access/JavaLangAccess;"), (11, u "LOG2_ARRAY_BOOLEAN_INDEX_SCALE"), (9, u "LOG2_ARRAY_BYTE_INDEX_SCALE"), (5, u "LOG2_ARRAY_CHAR_INDEX_SCALE"), (5, u "LOG2_ARRAY_SHORT_INDEX_SCALE"), (18, u "LOG2_ARRAY_FLOAT_INDEX_SCALE"), (24, u "LOG2_ARRAY_DOUBLE_INDEX_SCALE"), (89, u "T_BOOLEAN"), (2, u "T_CHAR"), (1, u "T_FLOAT"), (1, u "T_DOUBLE"), (1, u "T_BYTE"), (1, u "T_SHORT"), (1, u "T_INT"), (1, u "T_LONG"), (1, u "SOFT_MAX_ARRAY_LENGTH")] 83

def k25m0 : Method := { name := "<init>", desc := "()V", sig := { parameters := [], returnType := none }, accessFlags := 2, code := none }
/-- jdk/internal/util/ArraysSupport -/
def k25 : Class := { plain "jdk/internal/util/ArraysSupport" (some 0) with
  accessFlags := 33
  interfaces := #[]
  cf := some (fileOf pool25 21 #[] #[{ accessFlags := 2, nameIndex := 9, descriptorIndex := 19, attributes := #[] }] 33 16 #[] #[{ accessFlags := 24, nameIndex := 28, descriptorIndex := 29, attributes := #[] }, { accessFlags := 26, nameIndex := 38, descriptorIndex := 39, attributes := #[] }, { accessFlags := 25, nameIndex := 121, descriptorIndex := 25, attributes := #[] }, { accessFlags := 25, nameIndex := 131, descriptorIndex := 25, attributes := #[] }, { accessFlags := 25, nameIndex := 137, descriptorIndex := 25, attributes := #[] }, { accessFlags := 25, nameIndex := 143, descriptorIndex := 25, attributes := #[] }, { accessFlags := 25, nameIndex := 53, descriptorIndex := 25, attributes := #[] }, { accessFlags := 25, nameIndex := 24, descriptorIndex := 25, attributes := #[] }, { accessFlags := 25, nameIndex := 162, descriptorIndex := 25, attributes := #[] }, { accessFlags := 25, nameIndex := 187, descriptorIndex := 25, attributes := #[] }, { accessFlags := 26, nameIndex := 48, descriptorIndex := 25, attributes := #[] }, { accessFlags := 25, nameIndex := 277, descriptorIndex := 25, attributes := #[] }, { accessFlags := 25, nameIndex := 280, descriptorIndex := 25, attributes := #[] }, { accessFlags := 25, nameIndex := 282, descriptorIndex := 25, attributes := #[] }, { accessFlags := 25, nameIndex := 284, descriptorIndex := 25, attributes := #[] }, { accessFlags := 25, nameIndex := 286, descriptorIndex := 25, attributes := #[] }, { accessFlags := 25, nameIndex := 288, descriptorIndex := 25, attributes := #[] }, { accessFlags := 25, nameIndex := 290, descriptorIndex := 25, attributes := #[] }, { accessFlags := 25, nameIndex := 292, descriptorIndex := 25, attributes := #[] }, { accessFlags := 26, nameIndex := 108, descriptorIndex := 109, attributes := #[] }, { accessFlags := 25, nameIndex := 294, descriptorIndex := 25, attributes := #[] }])
  fields := #[{ name := "U", type := (.object "jdk/internal/misc/Unsafe"), accessFlags := 24, slot := 0, constantValue := 0 }, { name := "BIG_ENDIAN", type := .boolean, accessFlags := 26, slot := 1, constantValue := 0 }, { name := "LOG2_ARRAY_BOOLEAN_INDEX_SCALE", type := .int, accessFlags := 25, slot := 2, constantValue := 0 }, { name := "LOG2_ARRAY_BYTE_INDEX_SCALE", type := .int, accessFlags := 25, slot := 3, constantValue := 0 }, { name := "LOG2_ARRAY_CHAR_INDEX_SCALE", type := .int, accessFlags := 25, slot := 4, constantValue := 0 }, { name := "LOG2_ARRAY_SHORT_INDEX_SCALE", type := .int, accessFlags := 25, slot := 5, constantValue := 0 }, { name := "LOG2_ARRAY_INT_INDEX_SCALE", type := .int, accessFlags := 25, slot := 6, constantValue := 0 }, { name := "LOG2_ARRAY_LONG_INDEX_SCALE", type := .int, accessFlags := 25, slot := 7, constantValue := 0 }, { name := "LOG2_ARRAY_FLOAT_INDEX_SCALE", type := .int, accessFlags := 25, slot := 8, constantValue := 0 }, { name := "LOG2_ARRAY_DOUBLE_INDEX_SCALE", type := .int, accessFlags := 25, slot := 9, constantValue := 0 }, { name := "LOG2_BYTE_BIT_SIZE", type := .int, accessFlags := 26, slot := 10, constantValue := 0 }, { name := "T_BOOLEAN", type := .int, accessFlags := 25, slot := 11, constantValue := 0 }, { name := "T_CHAR", type := .int, accessFlags := 25, slot := 12, constantValue := 0 }, { name := "T_FLOAT", type := .int, accessFlags := 25, slot := 13, constantValue := 0 }, { name := "T_DOUBLE", type := .int, accessFlags := 25, slot := 14, constantValue := 0 }, { name := "T_BYTE", type := .int, accessFlags := 25, slot := 15, constantValue := 0 }, { name := "T_SHORT", type := .int, accessFlags := 25, slot := 16, constantValue := 0 }, { name := "T_INT", type := .int, accessFlags := 25, slot := 17, constantValue := 0 }, { name := "T_LONG", type := .int, accessFlags := 25, slot := 18, constantValue := 0 }, { name := "JLA", type := (.object "jdk/internal/access/JavaLangAccess"), accessFlags := 26, slot := 19, constantValue := 0 }, { name := "SOFT_MAX_ARRAY_LENGTH", type := .int, accessFlags := 25, slot := 20, constantValue := 0 }]
  methods := #[k25m0]
  instanceTypes := #[]
  staticTypes := #[(.object "jdk/internal/misc/Unsafe"), .boolean, .int, .int, .int, .int, .int, .int, .int, .int, .int, .int, .int, .int, .int, .int, .int, .int, .int, (.object "jdk/internal/access/JavaLangAccess"), .int]
  resolved := Array.replicate 378 none
  statics := none }

/-- the primitive byte -/
def k26 : Class := { plain "byte" none with kind := .primitive 'B', accessFlags := 0x411 }
/-- [B -/
def k27 : Class := { plain "[B" (some 0) with kind := .array 26 .byte, interfaces := #[16, 2], accessFlags := 1041 }

/-- the primitive char -/
def k28 : Class := { plain "char" none with kind := .primitive 'C', accessFlags := 0x411 }
/-- [C -/
def k29 : Class := { plain "[C" (some 0) with kind := .array 28 .char, interfaces := #[16, 2], accessFlags := 1041 }

/-- the primitive int -/
def k30 : Class := { plain "int" none with kind := .primitive 'I', accessFlags := 0x411 }
/-- [I -/
def k31 : Class := { plain "[I" (some 0) with kind := .array 30 .int, interfaces := #[16, 2], accessFlags := 1041 }

/-- [Ljava/lang/Object; -/
def k32 : Class := { plain "[Ljava/lang/Object;" (some 0) with kind := .array 0 (.object "java/lang/Object"), interfaces := #[16, 2], accessFlags := 1041 }

def heap : Heap := #[{ cls := 7, slots := #[.long 0, .int 1, .null, .int 0, .null, .int 0, .int 0], vm := .statics 7 },
  { cls := 17, slots := #[.long 0, .int 0, .ref 3, .ref 4], vm := .statics 17 },
  { cls := 18, slots := #[.null, .null, .null], vm := .statics 18 },
  { cls := 32, slots := #[], vm := .none },
  { cls := 32, slots := #[], vm := .none }]
def classes : Array Class := #[k0, k1, k2, k3, k4, k5, k6, k7, k8, k9, k10, k11, k12, k13, k14, k15, k16, k17, k18, k19, k20, k21, k22, k23, k24, k25, k26, k27, k28, k29, k30, k31, k32]
def interned : List (Array UInt16 × Addr) := []
def slotsUsed : Nat := 14
def theMethod : MethodId := ⟨1, 1⟩
def args0 : Array Value := #[.int 0, .long 5, .long 6, .long 7]
def aboutOver (below : List Frame) : State where
  vm := { classes := classes, interned := interned.toArray }
  heap := heap
  slotsUsed := slotsUsed
  threads := #[{ frames := .invoking theMethod args0 :: below }]
def below0 : List Frame := [.native { method := ⟨0, 0⟩, args := #[] }]
def about1 : State := aboutOver below0
def p0 : Program := .bare "" "" ""
def e0 : Env := launch0.env 0 0 0
theorem w_frames : about1.frames = Frame.invoking theMethod args0 :: below0 := rfl
set_option maxRecDepth 65536 in
theorem w_args : argsFit about1.vm theMethod args0 = true := by decide +kernel
set_option maxRecDepth 65536 in
theorem w_heap : heapFits about1 = true := by decide +kernel
set_option maxRecDepth 65536 in
theorem w_runnable : about1.curStatus? = some .runnable := by decide +kernel
set_option maxRecDepth 65536 in
theorem w_alone : about1.alone = true := by decide +kernel
set_option maxRecDepth 65536 in
theorem w_named : about1.methodNamed? x = some theMethod := by decide +kernel
set_option maxRecDepth 65536 in
theorem w_hears : about1.hears theMethod below0 = true := by decide +kernel
set_option maxRecDepth 65536 in
theorem w_ripe : about1.ripe theMethod args0 below0 = true := by decide +kernel
theorem w_running : about1.status = .running := rfl
set_option maxRecDepth 65536 in
theorem w_room : about1.hasRoom e0.platform room_1 = true :=
  launch0.hasRoom_least _ room_1 (by decide +kernel) (by decide +kernel) (by decide +kernel) (by decide +kernel) (by decide +kernel) (by decide +kernel)
theorem allAtoms_all (ts : List Jvm.Cond) (a : Array Jvm.Value) (st : Jvm.State) : (allAtoms ts).before a st = ts.all (fun c => c.before a st) := by
  induction ts with
  | nil => rfl
  | cons c t ih =>
    show (Jvm.Cond.and c (allAtoms t)).before a st = _
    rw [Jvm.Cond.before_and, ih, List.all_cons]
def words1 : List Jvm.Cond := Jvm.Cond.code x code maxLocals ret :: tables_1
/-- a 'code' word, met by the world's own term for the bytes: nothing is compared byte by byte -/
theorem code_word {y : MethodName} {bytes : ByteArray} {mx : Nat} {rt : Option FieldType} {a : Array Value} {s : State} {m : MethodId} {meth : Method} {c : Code} (h1 : s.methodNamed? y = some m) (h2 : s.vm.method? m = some meth) (h3 : meth.code = some c) (h4 : c.code = bytes)
    (h5 : (c.maxLocals == mx && c.exceptionTable.isEmpty && decide (c.maxStack ≤ mostOperands) && decide (meth.sig.returnType = rt) && !meth.locks && decide (parseMethodDescriptor y.desc = some meth.sig)) = true) : (Jvm.Cond.code y bytes mx rt).before a s = true := by
  simp only [Bool.and_eq_true, beq_iff_eq, Bool.not_eq_true', decide_eq_true_eq] at h5
  obtain ⟨⟨⟨⟨⟨g1, g2⟩, g3⟩, g4⟩, g5⟩, g6⟩ := h5
  simp [Cond.before, Cond.holds, Cond.value, h1, h2, h3, h4, g1, g2, g3, g4, g5, g6]
def isCode : Jvm.Cond → Bool
  | .code _ _ _ _ => true
  | _ => false
theorem all_split {L : List Jvm.Cond} {P : Jvm.Cond → Bool} (h1 : L.all (fun c => isCode c || P c) = true) (h2 : ∀ c ∈ L.filter isCode, P c = true) : L.all P = true := by
  refine List.all_eq_true.mpr fun c hc => ?_
  have h := List.all_eq_true.mp h1 c hc
  rcases Bool.eq_false_or_eq_true (isCode c) with hi | hi
  · exact h2 c (List.mem_filter.mpr ⟨hc, hi⟩)
  · simpa [hi] using h
set_option maxRecDepth 65536 in
theorem w_c0 : (Jvm.Cond.code x code maxLocals ret).before args0 about1 = true := code_word (m := ⟨1, 1⟩) (meth := k1m1) (c := k1c1) (by decide +kernel) rfl rfl rfl (by decide +kernel)
set_option maxRecDepth 65536 in
theorem w_c1 : (Jvm.Cond.code ({ cls := "com/example/despatch/despatch/http/HeaderListElementsPinLaw", name := "elem", desc := "(IJZ)[C" } : Jvm.MethodName) method_6_code (8 : Nat) (Option.some (Jvm.ClassFile.FieldType.array Jvm.ClassFile.FieldType.char))).before args0 about1 = true := code_word (m := ⟨1, 5⟩) (meth := k1m5) (c := k1c5) (by decide +kernel) rfl rfl rfl (by decide +kernel)
set_option maxRecDepth 65536 in
theorem w_c2 : (Jvm.Cond.code ({ cls := "com/example/despatch/despatch/http/HeaderListElementsPinLaw", name := "alloc", desc := "(I)[C" } : Jvm.MethodName) method_8_code (1 : Nat) (Option.some (Jvm.ClassFile.FieldType.array Jvm.ClassFile.FieldType.char))).before args0 about1 = true := code_word (m := ⟨1, 7⟩) (meth := k1m7) (c := k1c7) (by decide +kernel) rfl rfl rfl (by decide +kernel)
set_option maxRecDepth 65536 in
theorem w_c3 : (Jvm.Cond.code ({ cls := "com/example/despatch/despatch/http/HeaderListElementsPinLaw", name := "put", desc := "([CI[C)I" } : Jvm.MethodName) method_7_code (3 : Nat) (Option.some Jvm.ClassFile.FieldType.int)).before args0 about1 = true := code_word (m := ⟨1, 6⟩) (meth := k1m6) (c := k1c6) (by decide +kernel) rfl rfl rfl (by decide +kernel)
set_option maxRecDepth 65536 in
theorem w_c4 : (Jvm.Cond.code ({ cls := "java/lang/String", name := "<init>", desc := "([C)V" } : Jvm.MethodName) jdk_42_method_3_code (2 : Nat) (Option.none : Option Jvm.ClassFile.FieldType)).before args0 about1 = true := code_word (m := ⟨7, 1⟩) (meth := k7m1) (c := k7c1) (by decide +kernel) rfl rfl rfl (by decide +kernel)
set_option maxRecDepth 65536 in
theorem w_c5 : (Jvm.Cond.code ({ cls := "java/lang/String", name := "<init>", desc := "([CIILjava/lang/Void;)V" } : Jvm.MethodName) jdk_42_method_149_code (6 : Nat) (Option.none : Option Jvm.ClassFile.FieldType)).before args0 about1 = true := code_word (m := ⟨7, 7⟩) (meth := k7m7) (c := k7c7) (by decide +kernel) rfl rfl rfl (by decide +kernel)
set_option maxRecDepth 65536 in
theorem w_c6 : (Jvm.Cond.code ({ cls := "java/lang/Object", name := "<init>", desc := "()V" } : Jvm.MethodName) object_method_1_code (1 : Nat) (Option.none : Option Jvm.ClassFile.FieldType)).before args0 about1 = true := code_word (m := ⟨0, 0⟩) (meth := k0m0) (c := k0c0) (by decide +kernel) rfl rfl rfl (by decide +kernel)
set_option maxRecDepth 65536 in
theorem w_c7 : (Jvm.Cond.code ({ cls := "com/example/despatch/despatch/http/HeaderList", name := "elements", desc := "(Ljava/lang/String;)Ljava/util/List;" } : Jvm.MethodName) prog_3_method_2_code (7 : Nat) (Option.some (Jvm.ClassFile.FieldType.object "java/util/List"))).before args0 about1 = true := code_word (m := ⟨8, 1⟩) (meth := k8m1) (c := k8c1) (by decide +kernel) rfl rfl rfl (by decide +kernel)
set_option maxRecDepth 65536 in
theorem w_c8 : (Jvm.Cond.code ({ cls := "java/util/ArrayList", name := "<init>", desc := "()V" } : Jvm.MethodName) jdk_38_method_2_code (1 : Nat) (Option.none : Option Jvm.ClassFile.FieldType)).before args0 about1 = true := code_word (m := ⟨17, 0⟩) (meth := k17m0) (c := k17c0) (by decide +kernel) rfl rfl rfl (by decide +kernel)
set_option maxRecDepth 65536 in
theorem w_c9 : (Jvm.Cond.code ({ cls := "java/util/AbstractList", name := "<init>", desc := "()V" } : Jvm.MethodName) jdk_39_method_1_code (1 : Nat) (Option.none : Option Jvm.ClassFile.FieldType)).before args0 about1 = true := code_word (m := ⟨14, 0⟩) (meth := k14m0) (c := k14c0) (by decide +kernel) rfl rfl rfl (by decide +kernel)
set_option maxRecDepth 65536 in
theorem w_c10 : (Jvm.Cond.code ({ cls := "java/util/AbstractCollection", name := "<init>", desc := "()V" } : Jvm.MethodName) jdk_22_method_1_code (1 : Nat) (Option.none : Option Jvm.ClassFile.FieldType)).before args0 about1 = true := code_word (m := ⟨11, 0⟩) (meth := k11m0) (c := k11c0) (by decide +kernel) rfl rfl rfl (by decide +kernel)
set_option maxRecDepth 65536 in
theorem w_c11 : (Jvm.Cond.code ({ cls := "java/lang/String", name := "length", desc := "()I" } : Jvm.MethodName) jdk_42_method_54_code (1 : Nat) (Option.some Jvm.ClassFile.FieldType.int)).before args0 about1 = true := code_word (m := ⟨7, 2⟩) (meth := k7m2) (c := k7c2) (by decide +kernel) rfl rfl rfl (by decide +kernel)
set_option maxRecDepth 65536 in
theorem w_c12 : (Jvm.Cond.code ({ cls := "java/lang/String", name := "coder", desc := "()B" } : Jvm.MethodName) jdk_42_method_152_code (1 : Nat) (Option.some Jvm.ClassFile.FieldType.byte)).before args0 about1 = true := code_word (m := ⟨7, 9⟩) (meth := k7m9) (c := k7c9) (by decide +kernel) rfl rfl rfl (by decide +kernel)
set_option maxRecDepth 65536 in
theorem w_c13 : (Jvm.Cond.code ({ cls := "java/lang/String", name := "substring", desc := "(I)Ljava/lang/String;" } : Jvm.MethodName) jdk_42_method_91_code (2 : Nat) (Option.some (Jvm.ClassFile.FieldType.object "java/lang/String"))).before args0 about1 = true := code_word (m := ⟨7, 5⟩) (meth := k7m5) (c := k7c5) (by decide +kernel) rfl rfl rfl (by decide +kernel)
set_option maxRecDepth 65536 in
theorem w_c14 : (Jvm.Cond.code ({ cls := "java/lang/String", name := "substring", desc := "(II)Ljava/lang/String;" } : Jvm.MethodName) jdk_42_method_92_code (5 : Nat) (Option.some (Jvm.ClassFile.FieldType.object "java/lang/String"))).before args0 about1 = true := code_word (m := ⟨7, 6⟩) (meth := k7m6) (c := k7c6) (by decide +kernel) rfl rfl rfl (by decide +kernel)
set_option maxRecDepth 65536 in
theorem w_c15 : (Jvm.Cond.code ({ cls := "java/lang/String", name := "checkBoundsBeginEnd", desc := "(III)V" } : Jvm.MethodName) jdk_42_method_158_code (3 : Nat) (Option.none : Option Jvm.ClassFile.FieldType)).before args0 about1 = true := code_word (m := ⟨7, 12⟩) (meth := k7m12) (c := k7c12) (by decide +kernel) rfl rfl rfl (by decide +kernel)
set_option maxRecDepth 65536 in
theorem w_c16 : (Jvm.Cond.code ({ cls := "jdk/internal/util/Preconditions", name := "checkFromToIndex", desc := "(IIILjava/util/function/BiFunction;)I" } : Jvm.MethodName) jdk_41_method_12_code (4 : Nat) (Option.some Jvm.ClassFile.FieldType.int)).before args0 about1 = true := code_word (m := ⟨18, 2⟩) (meth := k18m2) (c := k18c2) (by decide +kernel) rfl rfl rfl (by decide +kernel)
set_option maxRecDepth 65536 in
theorem w_c17 : (Jvm.Cond.code ({ cls := "java/util/ArrayList", name := "add", desc := "(Ljava/lang/Object;)Z" } : Jvm.MethodName) jdk_38_method_25_code (2 : Nat) (Option.some Jvm.ClassFile.FieldType.boolean)).before args0 about1 = true := code_word (m := ⟨17, 7⟩) (meth := k17m7) (c := k17c7) (by decide +kernel) rfl rfl rfl (by decide +kernel)
set_option maxRecDepth 65536 in
theorem w_c18 : (Jvm.Cond.code ({ cls := "java/util/ArrayList", name := "add", desc := "(Ljava/lang/Object;[Ljava/lang/Object;I)V" } : Jvm.MethodName) jdk_38_method_24_code (4 : Nat) (Option.none : Option Jvm.ClassFile.FieldType)).before args0 about1 = true := code_word (m := ⟨17, 6⟩) (meth := k17m6) (c := k17c6) (by decide +kernel) rfl rfl rfl (by decide +kernel)
set_option maxRecDepth 65536 in
theorem w_c19 : (Jvm.Cond.code ({ cls := "java/util/ArrayList", name := "grow", desc := "()[Ljava/lang/Object;" } : Jvm.MethodName) jdk_38_method_7_code (1 : Nat) (Option.some (Jvm.ClassFile.FieldType.array (Jvm.ClassFile.FieldType.object "java/lang/Object")))).before args0 about1 = true := code_word (m := ⟨17, 2⟩) (meth := k17m2) (c := k17c2) (by decide +kernel) rfl rfl rfl (by decide +kernel)
set_option maxRecDepth 65536 in
theorem w_c20 : (Jvm.Cond.code ({ cls := "java/util/ArrayList", name := "grow", desc := "(I)[Ljava/lang/Object;" } : Jvm.MethodName) jdk_38_method_6_code (4 : Nat) (Option.some (Jvm.ClassFile.FieldType.array (Jvm.ClassFile.FieldType.object "java/lang/Object")))).before args0 about1 = true := code_word (m := ⟨17, 1⟩) (meth := k17m1) (c := k17c1) (by decide +kernel) rfl rfl rfl (by decide +kernel)
set_option maxRecDepth 65536 in
theorem w_c21 : (Jvm.Cond.code ({ cls := "java/lang/Math", name := "max", desc := "(II)I" } : Jvm.MethodName) jdk_29_method_65_code (2 : Nat) (Option.some Jvm.ClassFile.FieldType.int)).before args0 about1 = true := code_word (m := ⟨19, 1⟩) (meth := k19m1) (c := k19c1) (by decide +kernel) rfl rfl rfl (by decide +kernel)
set_option maxRecDepth 65536 in
theorem w_c22 : (Jvm.Cond.code ({ cls := "java/util/ArrayList", name := "size", desc := "()I" } : Jvm.MethodName) jdk_38_method_8_code (1 : Nat) (Option.some Jvm.ClassFile.FieldType.int)).before args0 about1 = true := code_word (m := ⟨17, 3⟩) (meth := k17m3) (c := k17c3) (by decide +kernel) rfl rfl rfl (by decide +kernel)
set_option maxRecDepth 65536 in
theorem w_c23 : (Jvm.Cond.code ({ cls := "java/util/ArrayList", name := "get", desc := "(I)Ljava/lang/Object;" } : Jvm.MethodName) jdk_38_method_20_code (2 : Nat) (Option.some (Jvm.ClassFile.FieldType.object "java/lang/Object"))).before args0 about1 = true := code_word (m := ⟨17, 5⟩) (meth := k17m5) (c := k17c5) (by decide +kernel) rfl rfl rfl (by decide +kernel)
set_option maxRecDepth 65536 in
theorem w_c24 : (Jvm.Cond.code ({ cls := "java/util/Objects", name := "checkIndex", desc := "(II)I" } : Jvm.MethodName) jdk_31_method_17_code (2 : Nat) (Option.some Jvm.ClassFile.FieldType.int)).before args0 about1 = true := code_word (m := ⟨20, 1⟩) (meth := k20m1) (c := k20c1) (by decide +kernel) rfl rfl rfl (by decide +kernel)
set_option maxRecDepth 65536 in
theorem w_c25 : (Jvm.Cond.code ({ cls := "jdk/internal/util/Preconditions", name := "checkIndex", desc := "(IILjava/util/function/BiFunction;)I" } : Jvm.MethodName) jdk_41_method_11_code (3 : Nat) (Option.some Jvm.ClassFile.FieldType.int)).before args0 about1 = true := code_word (m := ⟨18, 1⟩) (meth := k18m1) (c := k18c1) (by decide +kernel) rfl rfl rfl (by decide +kernel)
set_option maxRecDepth 65536 in
theorem w_c26 : (Jvm.Cond.code ({ cls := "java/util/ArrayList", name := "elementData", desc := "(I)Ljava/lang/Object;" } : Jvm.MethodName) jdk_38_method_18_code (2 : Nat) (Option.some (Jvm.ClassFile.FieldType.object "java/lang/Object"))).before args0 about1 = true := code_word (m := ⟨17, 4⟩) (meth := k17m4) (c := k17c4) (by decide +kernel) rfl rfl rfl (by decide +kernel)
set_option maxRecDepth 65536 in
theorem w_c27 : (Jvm.Cond.code ({ cls := "java/lang/String", name := "equals", desc := "(Ljava/lang/Object;)Z" } : Jvm.MethodName) jdk_42_method_66_code (3 : Nat) (Option.some Jvm.ClassFile.FieldType.boolean)).before args0 about1 = true := code_word (m := ⟨7, 4⟩) (meth := k7m4) (c := k7c4) (by decide +kernel) rfl rfl rfl (by decide +kernel)
set_option maxRecDepth 65536 in
theorem w_c28 : (Jvm.Cond.code ({ cls := "java/lang/StringLatin1", name := "equals", desc := "([B[B)Z" } : Jvm.MethodName) jdk_43_method_13_code (3 : Nat) (Option.some Jvm.ClassFile.FieldType.boolean)).before args0 about1 = true := code_word (m := ⟨21, 2⟩) (meth := k21m2) (c := k21c2) (by decide +kernel) rfl rfl rfl (by decide +kernel)
set_option maxRecDepth 65536 in
theorem w_c29 : (Jvm.Cond.code ({ cls := "com/example/despatch/despatch/http/HeaderListElementsPinLaw", name := "inner", desc := "(I)C" } : Jvm.MethodName) method_4_code (2 : Nat) (Option.some Jvm.ClassFile.FieldType.char)).before args0 about1 = true := code_word (m := ⟨1, 3⟩) (meth := k1m3) (c := k1c3) (by decide +kernel) rfl rfl rfl (by decide +kernel)
set_option maxRecDepth 65536 in
theorem w_c30 : (Jvm.Cond.code ({ cls := "java/lang/StringUTF16", name := "compress", desc := "([CII)[B" } : Jvm.MethodName) jdk_52_method_16_code (6 : Nat) (Option.some (Jvm.ClassFile.FieldType.array Jvm.ClassFile.FieldType.byte))).before args0 about1 = true := code_word (m := ⟨22, 2⟩) (meth := k22m2) (c := k22c2) (by decide +kernel) rfl rfl rfl (by decide +kernel)
set_option maxRecDepth 65536 in
theorem w_c31 : (Jvm.Cond.code ({ cls := "java/lang/StringUTF16", name := "compress", desc := "([CI[BII)I" } : Jvm.MethodName) jdk_52_method_21_code (7 : Nat) (Option.some Jvm.ClassFile.FieldType.int)).before args0 about1 = true := code_word (m := ⟨22, 3⟩) (meth := k22m3) (c := k22c3) (by decide +kernel) rfl rfl rfl (by decide +kernel)
set_option maxRecDepth 65536 in
theorem w_c32 : (Jvm.Cond.code ({ cls := "java/lang/StringUTF16", name := "coderFromArrayLen", desc := "([BI)B" } : Jvm.MethodName) jdk_52_method_15_code (2 : Nat) (Option.some Jvm.ClassFile.FieldType.byte)).before args0 about1 = true := code_word (m := ⟨22, 1⟩) (meth := k22m1) (c := k22c1) (by decide +kernel) rfl rfl rfl (by decide +kernel)
set_option maxRecDepth 65536 in
theorem w_c33 : (Jvm.Cond.code ({ cls := "java/lang/String", name := "charAt", desc := "(I)C" } : Jvm.MethodName) jdk_42_method_56_code (2 : Nat) (Option.some Jvm.ClassFile.FieldType.char)).before args0 about1 = true := code_word (m := ⟨7, 3⟩) (meth := k7m3) (c := k7c3) (by decide +kernel) rfl rfl rfl (by decide +kernel)
set_option maxRecDepth 65536 in
theorem w_c34 : (Jvm.Cond.code ({ cls := "java/lang/String", name := "isLatin1", desc := "()Z" } : Jvm.MethodName) jdk_42_method_154_code (1 : Nat) (Option.some Jvm.ClassFile.FieldType.boolean)).before args0 about1 = true := code_word (m := ⟨7, 10⟩) (meth := k7m10) (c := k7c10) (by decide +kernel) rfl rfl rfl (by decide +kernel)
set_option maxRecDepth 65536 in
theorem w_c35 : (Jvm.Cond.code ({ cls := "java/lang/StringLatin1", name := "charAt", desc := "([BI)C" } : Jvm.MethodName) jdk_43_method_2_code (2 : Nat) (Option.some Jvm.ClassFile.FieldType.char)).before args0 about1 = true := code_word (m := ⟨21, 1⟩) (meth := k21m1) (c := k21c1) (by decide +kernel) rfl rfl rfl (by decide +kernel)
set_option maxRecDepth 65536 in
theorem w_c36 : (Jvm.Cond.code ({ cls := "java/lang/String", name := "checkIndex", desc := "(II)V" } : Jvm.MethodName) jdk_42_method_155_code (2 : Nat) (Option.none : Option Jvm.ClassFile.FieldType)).before args0 about1 = true := code_word (m := ⟨7, 11⟩) (meth := k7m11) (c := k7c11) (by decide +kernel) rfl rfl rfl (by decide +kernel)
set_option maxRecDepth 65536 in
theorem w_c37 : (Jvm.Cond.code ({ cls := "com/example/despatch/despatch/http/HeaderListElementsPinLaw", name := "plain", desc := "(I)C" } : Jvm.MethodName) method_3_code (2 : Nat) (Option.some Jvm.ClassFile.FieldType.char)).before args0 about1 = true := code_word (m := ⟨1, 2⟩) (meth := k1m2) (c := k1c2) (by decide +kernel) rfl rfl rfl (by decide +kernel)
set_option maxRecDepth 65536 in
theorem w_c38 : (Jvm.Cond.code ({ cls := "java/lang/StringLatin1", name := "newString", desc := "([BII)Ljava/lang/String;" } : Jvm.MethodName) jdk_43_method_47_code (3 : Nat) (Option.some (Jvm.ClassFile.FieldType.object "java/lang/String"))).before args0 about1 = true := code_word (m := ⟨21, 3⟩) (meth := k21m3) (c := k21c3) (by decide +kernel) rfl rfl rfl (by decide +kernel)
set_option maxRecDepth 65536 in
theorem w_c39 : (Jvm.Cond.code ({ cls := "java/util/Arrays", name := "copyOfRange", desc := "([BII)[B" } : Jvm.MethodName) jdk_65_method_132_code (3 : Nat) (Option.some (Jvm.ClassFile.FieldType.array Jvm.ClassFile.FieldType.byte))).before args0 about1 = true := code_word (m := ⟨23, 2⟩) (meth := k23m2) (c := k23c2) (by decide +kernel) rfl rfl rfl (by decide +kernel)
set_option maxRecDepth 65536 in
theorem w_c40 : (Jvm.Cond.code ({ cls := "java/util/Arrays", name := "copyOfRangeByte", desc := "([BII)[B" } : Jvm.MethodName) jdk_65_method_133_code (5 : Nat) (Option.some (Jvm.ClassFile.FieldType.array Jvm.ClassFile.FieldType.byte))).before args0 about1 = true := code_word (m := ⟨23, 3⟩) (meth := k23m3) (c := k23c3) (by decide +kernel) rfl rfl rfl (by decide +kernel)
set_option maxRecDepth 65536 in
theorem w_c41 : (Jvm.Cond.code ({ cls := "java/util/Arrays", name := "checkLength", desc := "(II)V" } : Jvm.MethodName) jdk_65_method_131_code (2 : Nat) (Option.none : Option Jvm.ClassFile.FieldType)).before args0 about1 = true := code_word (m := ⟨23, 1⟩) (meth := k23m1) (c := k23c1) (by decide +kernel) rfl rfl rfl (by decide +kernel)
set_option maxRecDepth 65536 in
theorem w_c42 : (Jvm.Cond.code ({ cls := "java/lang/Math", name := "min", desc := "(II)I" } : Jvm.MethodName) jdk_29_method_69_code (2 : Nat) (Option.some Jvm.ClassFile.FieldType.int)).before args0 about1 = true := code_word (m := ⟨19, 2⟩) (meth := k19m2) (c := k19c2) (by decide +kernel) rfl rfl rfl (by decide +kernel)
set_option maxRecDepth 65536 in
theorem w_c43 : (Jvm.Cond.code ({ cls := "java/lang/String", name := "<init>", desc := "([BB)V" } : Jvm.MethodName) jdk_42_method_151_code (3 : Nat) (Option.none : Option Jvm.ClassFile.FieldType)).before args0 about1 = true := code_word (m := ⟨7, 8⟩) (meth := k7m8) (c := k7c8) (by decide +kernel) rfl rfl rfl (by decide +kernel)
set_option maxRecDepth 65536 in
theorem w_c44 : (Jvm.Cond.code ({ cls := "com/example/despatch/despatch/http/HeaderListElementsPinLaw", name := "open", desc := "(I)C" } : Jvm.MethodName) method_5_code (2 : Nat) (Option.some Jvm.ClassFile.FieldType.char)).before args0 about1 = true := code_word (m := ⟨1, 4⟩) (meth := k1m4) (c := k1c4) (by decide +kernel) rfl rfl rfl (by decide +kernel)
def codes1 : List Jvm.Cond := [Jvm.Cond.code x code maxLocals ret, Jvm.Cond.code ({ cls := "com/example/despatch/despatch/http/HeaderListElementsPinLaw", name := "elem", desc := "(IJZ)[C" } : Jvm.MethodName) method_6_code (8 : Nat) (Option.some (Jvm.ClassFile.FieldType.array Jvm.ClassFile.FieldType.char)), Jvm.Cond.code ({ cls := "com/example/despatch/despatch/http/HeaderListElementsPinLaw", name := "alloc", desc := "(I)[C" } : Jvm.MethodName) method_8_code (1 : Nat) (Option.some (Jvm.ClassFile.FieldType.array Jvm.ClassFile.FieldType.char)), Jvm.Cond.code ({ cls := "com/example/despatch/despatch/http/HeaderListElementsPinLaw", name := "put", desc := "([CI[C)I" } : Jvm.MethodName) method_7_code (3 : Nat) (Option.some Jvm.ClassFile.FieldType.int), Jvm.Cond.code ({ cls := "java/lang/String", name := "<init>", desc := "([C)V" } : Jvm.MethodName) jdk_42_method_3_code (2 : Nat) (Option.none : Option Jvm.ClassFile.FieldType), Jvm.Cond.code ({ cls := "java/lang/String", name := "<init>", desc := "([CIILjava/lang/Void;)V" } : Jvm.MethodName) jdk_42_method_149_code (6 : Nat) (Option.none : Option Jvm.ClassFile.FieldType), Jvm.Cond.code ({ cls := "java/lang/Object", name := "<init>", desc := "()V" } : Jvm.MethodName) object_method_1_code (1 : Nat) (Option.none : Option Jvm.ClassFile.FieldType), Jvm.Cond.code ({ cls := "com/example/despatch/despatch/http/HeaderList", name := "elements", desc := "(Ljava/lang/String;)Ljava/util/List;" } : Jvm.MethodName) prog_3_method_2_code (7 : Nat) (Option.some (Jvm.ClassFile.FieldType.object "java/util/List")), Jvm.Cond.code ({ cls := "java/util/ArrayList", name := "<init>", desc := "()V" } : Jvm.MethodName) jdk_38_method_2_code (1 : Nat) (Option.none : Option Jvm.ClassFile.FieldType), Jvm.Cond.code ({ cls := "java/util/AbstractList", name := "<init>", desc := "()V" } : Jvm.MethodName) jdk_39_method_1_code (1 : Nat) (Option.none : Option Jvm.ClassFile.FieldType), Jvm.Cond.code ({ cls := "java/util/AbstractCollection", name := "<init>", desc := "()V" } : Jvm.MethodName) jdk_22_method_1_code (1 : Nat) (Option.none : Option Jvm.ClassFile.FieldType), Jvm.Cond.code ({ cls := "java/lang/String", name := "length", desc := "()I" } : Jvm.MethodName) jdk_42_method_54_code (1 : Nat) (Option.some Jvm.ClassFile.FieldType.int), Jvm.Cond.code ({ cls := "java/lang/String", name := "coder", desc := "()B" } : Jvm.MethodName) jdk_42_method_152_code (1 : Nat) (Option.some Jvm.ClassFile.FieldType.byte), Jvm.Cond.code ({ cls := "java/lang/String", name := "substring", desc := "(I)Ljava/lang/String;" } : Jvm.MethodName) jdk_42_method_91_code (2 : Nat) (Option.some (Jvm.ClassFile.FieldType.object "java/lang/String")), Jvm.Cond.code ({ cls := "java/lang/String", name := "substring", desc := "(II)Ljava/lang/String;" } : Jvm.MethodName) jdk_42_method_92_code (5 : Nat) (Option.some (Jvm.ClassFile.FieldType.object "java/lang/String")), Jvm.Cond.code ({ cls := "java/lang/String", name := "checkBoundsBeginEnd", desc := "(III)V" } : Jvm.MethodName) jdk_42_method_158_code (3 : Nat) (Option.none : Option Jvm.ClassFile.FieldType), Jvm.Cond.code ({ cls := "jdk/internal/util/Preconditions", name := "checkFromToIndex", desc := "(IIILjava/util/function/BiFunction;)I" } : Jvm.MethodName) jdk_41_method_12_code (4 : Nat) (Option.some Jvm.ClassFile.FieldType.int), Jvm.Cond.code ({ cls := "java/util/ArrayList", name := "add", desc := "(Ljava/lang/Object;)Z" } : Jvm.MethodName) jdk_38_method_25_code (2 : Nat) (Option.some Jvm.ClassFile.FieldType.boolean), Jvm.Cond.code ({ cls := "java/util/ArrayList", name := "add", desc := "(Ljava/lang/Object;[Ljava/lang/Object;I)V" } : Jvm.MethodName) jdk_38_method_24_code (4 : Nat) (Option.none : Option Jvm.ClassFile.FieldType), Jvm.Cond.code ({ cls := "java/util/ArrayList", name := "grow", desc := "()[Ljava/lang/Object;" } : Jvm.MethodName) jdk_38_method_7_code (1 : Nat) (Option.some (Jvm.ClassFile.FieldType.array (Jvm.ClassFile.FieldType.object "java/lang/Object"))), Jvm.Cond.code ({ cls := "java/util/ArrayList", name := "grow", desc := "(I)[Ljava/lang/Object;" } : Jvm.MethodName) jdk_38_method_6_code (4 : Nat) (Option.some (Jvm.ClassFile.FieldType.array (Jvm.ClassFile.FieldType.object "java/lang/Object"))), Jvm.Cond.code ({ cls := "java/lang/Math", name := "max", desc := "(II)I" } : Jvm.MethodName) jdk_29_method_65_code (2 : Nat) (Option.some Jvm.ClassFile.FieldType.int), Jvm.Cond.code ({ cls := "java/util/ArrayList", name := "size", desc := "()I" } : Jvm.MethodName) jdk_38_method_8_code (1 : Nat) (Option.some Jvm.ClassFile.FieldType.int), Jvm.Cond.code ({ cls := "java/util/ArrayList", name := "get", desc := "(I)Ljava/lang/Object;" } : Jvm.MethodName) jdk_38_method_20_code (2 : Nat) (Option.some (Jvm.ClassFile.FieldType.object "java/lang/Object")), Jvm.Cond.code ({ cls := "java/util/Objects", name := "checkIndex", desc := "(II)I" } : Jvm.MethodName) jdk_31_method_17_code (2 : Nat) (Option.some Jvm.ClassFile.FieldType.int), Jvm.Cond.code ({ cls := "jdk/internal/util/Preconditions", name := "checkIndex", desc := "(IILjava/util/function/BiFunction;)I" } : Jvm.MethodName) jdk_41_method_11_code (3 : Nat) (Option.some Jvm.ClassFile.FieldType.int), Jvm.Cond.code ({ cls := "java/util/ArrayList", name := "elementData", desc := "(I)Ljava/lang/Object;" } : Jvm.MethodName) jdk_38_method_18_code (2 : Nat) (Option.some (Jvm.ClassFile.FieldType.object "java/lang/Object")), Jvm.Cond.code ({ cls := "java/lang/String", name := "equals", desc := "(Ljava/lang/Object;)Z" } : Jvm.MethodName) jdk_42_method_66_code (3 : Nat) (Option.some Jvm.ClassFile.FieldType.boolean), Jvm.Cond.code ({ cls := "java/lang/StringLatin1", name := "equals", desc := "([B[B)Z" } : Jvm.MethodName) jdk_43_method_13_code (3 : Nat) (Option.some Jvm.ClassFile.FieldType.boolean), Jvm.Cond.code ({ cls := "com/example/despatch/despatch/http/HeaderListElementsPinLaw", name := "inner", desc := "(I)C" } : Jvm.MethodName) method_4_code (2 : Nat) (Option.some Jvm.ClassFile.FieldType.char), Jvm.Cond.code ({ cls := "java/lang/StringUTF16", name := "compress", desc := "([CII)[B" } : Jvm.MethodName) jdk_52_method_16_code (6 : Nat) (Option.some (Jvm.ClassFile.FieldType.array Jvm.ClassFile.FieldType.byte)), Jvm.Cond.code ({ cls := "java/lang/StringUTF16", name := "compress", desc := "([CI[BII)I" } : Jvm.MethodName) jdk_52_method_21_code (7 : Nat) (Option.some Jvm.ClassFile.FieldType.int), Jvm.Cond.code ({ cls := "java/lang/StringUTF16", name := "coderFromArrayLen", desc := "([BI)B" } : Jvm.MethodName) jdk_52_method_15_code (2 : Nat) (Option.some Jvm.ClassFile.FieldType.byte), Jvm.Cond.code ({ cls := "java/lang/String", name := "charAt", desc := "(I)C" } : Jvm.MethodName) jdk_42_method_56_code (2 : Nat) (Option.some Jvm.ClassFile.FieldType.char), Jvm.Cond.code ({ cls := "java/lang/String", name := "isLatin1", desc := "()Z" } : Jvm.MethodName) jdk_42_method_154_code (1 : Nat) (Option.some Jvm.ClassFile.FieldType.boolean), Jvm.Cond.code ({ cls := "java/lang/StringLatin1", name := "charAt", desc := "([BI)C" } : Jvm.MethodName) jdk_43_method_2_code (2 : Nat) (Option.some Jvm.ClassFile.FieldType.char), Jvm.Cond.code ({ cls := "java/lang/String", name := "checkIndex", desc := "(II)V" } : Jvm.MethodName) jdk_42_method_155_code (2 : Nat) (Option.none : Option Jvm.ClassFile.FieldType), Jvm.Cond.code ({ cls := "com/example/despatch/despatch/http/HeaderListElementsPinLaw", name := "plain", desc := "(I)C" } : Jvm.MethodName) method_3_code (2 : Nat) (Option.some Jvm.ClassFile.FieldType.char), Jvm.Cond.code ({ cls := "java/lang/StringLatin1", name := "newString", desc := "([BII)Ljava/lang/String;" } : Jvm.MethodName) jdk_43_method_47_code (3 : Nat) (Option.some (Jvm.ClassFile.FieldType.object "java/lang/String")), Jvm.Cond.code ({ cls := "java/util/Arrays", name := "copyOfRange", desc := "([BII)[B" } : Jvm.MethodName) jdk_65_method_132_code (3 : Nat) (Option.some (Jvm.ClassFile.FieldType.array Jvm.ClassFile.FieldType.byte)), Jvm.Cond.code ({ cls := "java/util/Arrays", name := "copyOfRangeByte", desc := "([BII)[B" } : Jvm.MethodName) jdk_65_method_133_code (5 : Nat) (Option.some (Jvm.ClassFile.FieldType.array Jvm.ClassFile.FieldType.byte)), Jvm.Cond.code ({ cls := "java/util/Arrays", name := "checkLength", desc := "(II)V" } : Jvm.MethodName) jdk_65_method_131_code (2 : Nat) (Option.none : Option Jvm.ClassFile.FieldType), Jvm.Cond.code ({ cls := "java/lang/Math", name := "min", desc := "(II)I" } : Jvm.MethodName) jdk_29_method_69_code (2 : Nat) (Option.some Jvm.ClassFile.FieldType.int), Jvm.Cond.code ({ cls := "java/lang/String", name := "<init>", desc := "([BB)V" } : Jvm.MethodName) jdk_42_method_151_code (3 : Nat) (Option.none : Option Jvm.ClassFile.FieldType), Jvm.Cond.code ({ cls := "com/example/despatch/despatch/http/HeaderListElementsPinLaw", name := "open", desc := "(I)C" } : Jvm.MethodName) method_5_code (2 : Nat) (Option.some Jvm.ClassFile.FieldType.char)]
set_option maxRecDepth 65536 in
theorem codes_eq : words1.filter isCode = codes1 := rfl
theorem w_codes : ∀ c ∈ words1.filter isCode, c.before args0 about1 = true := by
  rw [codes_eq]
  intro c hc
  simp only [codes1, List.mem_cons, List.not_mem_nil, or_false] at hc
  rcases hc with rfl | rfl | rfl | rfl | rfl | rfl | rfl | rfl | rfl | rfl | rfl | rfl | rfl | rfl | rfl | rfl | rfl | rfl | rfl | rfl | rfl | rfl | rfl | rfl | rfl | rfl | rfl | rfl | rfl | rfl | rfl | rfl | rfl | rfl | rfl | rfl | rfl | rfl | rfl | rfl | rfl | rfl | rfl | rfl | rfl
  · exact w_c0
  · exact w_c1
  · exact w_c2
  · exact w_c3
  · exact w_c4
  · exact w_c5
  · exact w_c6
  · exact w_c7
  · exact w_c8
  · exact w_c9
  · exact w_c10
  · exact w_c11
  · exact w_c12
  · exact w_c13
  · exact w_c14
  · exact w_c15
  · exact w_c16
  · exact w_c17
  · exact w_c18
  · exact w_c19
  · exact w_c20
  · exact w_c21
  · exact w_c22
  · exact w_c23
  · exact w_c24
  · exact w_c25
  · exact w_c26
  · exact w_c27
  · exact w_c28
  · exact w_c29
  · exact w_c30
  · exact w_c31
  · exact w_c32
  · exact w_c33
  · exact w_c34
  · exact w_c35
  · exact w_c36
  · exact w_c37
  · exact w_c38
  · exact w_c39
  · exact w_c40
  · exact w_c41
  · exact w_c42
  · exact w_c43
  · exact w_c44
set_option maxRecDepth 65536 in
theorem w_t1 : (words1.take 24).all (fun c => isCode c || c.before args0 about1) = true := by decide +kernel
set_option maxRecDepth 65536 in
theorem w_t2 : ((words1.drop 24).take 24).all (fun c => isCode c || c.before args0 about1) = true := by decide +kernel
set_option maxRecDepth 65536 in
theorem w_t3 : (((words1.drop 24).drop 24).take 24).all (fun c => isCode c || c.before args0 about1) = true := by decide +kernel
set_option maxRecDepth 65536 in
theorem w_t4 : ((((words1.drop 24).drop 24).drop 24).take 24).all (fun c => isCode c || c.before args0 about1) = true := by decide +kernel
set_option maxRecDepth 65536 in
theorem w_t5 : (((((words1.drop 24).drop 24).drop 24).drop 24).take 24).all (fun c => isCode c || c.before args0 about1) = true := by decide +kernel
set_option maxRecDepth 65536 in
theorem w_t6 : ((((((words1.drop 24).drop 24).drop 24).drop 24).drop 24).take 24).all (fun c => isCode c || c.before args0 about1) = true := by decide +kernel
set_option maxRecDepth 65536 in
theorem w_t7 : (((((((words1.drop 24).drop 24).drop 24).drop 24).drop 24).drop 24).take 24).all (fun c => isCode c || c.before args0 about1) = true := by decide +kernel
set_option maxRecDepth 65536 in
theorem w_t8 : ((((((((words1.drop 24).drop 24).drop 24).drop 24).drop 24).drop 24).drop 24).take 24).all (fun c => isCode c || c.before args0 about1) = true := by decide +kernel
set_option maxRecDepth 65536 in
theorem w_t9 : (((((((((words1.drop 24).drop 24).drop 24).drop 24).drop 24).drop 24).drop 24).drop 24).take 24).all (fun c => isCode c || c.before args0 about1) = true := by decide +kernel
set_option maxRecDepth 65536 in
theorem w_t10 : (((((((((words1.drop 24).drop 24).drop 24).drop 24).drop 24).drop 24).drop 24).drop 24).drop 24).all (fun c => isCode c || c.before args0 about1) = true := by decide +kernel
theorem w_tables : (allAtoms (Jvm.Cond.code x code maxLocals ret :: tables_1)).before args0 about1 = true := by
  rw [allAtoms_all]
  show words1.all (fun c => c.before args0 about1) = true
  refine all_split ?_ w_codes
  rw [← List.take_append_drop 24 words1, List.all_append, w_t1, ← List.take_append_drop 24 (words1.drop 24), List.all_append, w_t2, ← List.take_append_drop 24 ((words1.drop 24).drop 24), List.all_append, w_t3, ← List.take_append_drop 24 (((words1.drop 24).drop 24).drop 24), List.all_append, w_t4, ← List.take_append_drop 24 ((((words1.drop 24).drop 24).drop 24).drop 24), List.all_append, w_t5, ← List.take_append_drop 24 (((((words1.drop 24).drop 24).drop 24).drop 24).drop 24), List.all_append, w_t6, ← List.take_append_drop 24 ((((((words1.drop 24).drop 24).drop 24).drop 24).drop 24).drop 24), List.all_append, w_t7, ← List.take_append_drop 24 (((((((words1.drop 24).drop 24).drop 24).drop 24).drop 24).drop 24).drop 24), List.all_append, w_t8, ← List.take_append_drop 24 ((((((((words1.drop 24).drop 24).drop 24).drop 24).drop 24).drop 24).drop 24).drop 24), List.all_append, w_t9, w_t10]
  rfl
set_option maxRecDepth 65536 in
theorem w_rest : rest_1_c.before args0 about1 = true := by decide +kernel
set_option maxRecDepth 65536 in
theorem w_case : (Jvm.Cond.and given_1 narrow_1).before args0 about1 = true := by decide +kernel
set_option maxRecDepth 65536 in
theorem w_consts : constsHeld consts_1 about1 := Jvm.Lit.constsHeldB_iff.mp (by decide +kernel)
theorem w_applies : (headSpec (Jvm.Cond.code x code maxLocals ret :: tables_1) room_1).applies x e0.platform about1 = true :=
  (Spec.applies_iff w_frames).mpr ⟨w_running, w_runnable, w_alone, w_named, w_hears, w_ripe, w_room, w_tables⟩
theorem atStart : AtStart classFile x code maxLocals ret World_1 tables_1 room_1 Calls_1 rest_1 Pre_1 launch0 p0 e0 about1 theMethod args0 below0 :=
  ⟨lists_1, trivial, launch0.admits_env _ _ _, launch0.least_env, fairChoices_fair.cas, fairChoices_fair.clock, w_frames, w_args, w_heap, w_applies, ⟨w_consts, trivial⟩, w_rest, w_case⟩
end start1
theorem witness_1 : WitnessClaimed_1 := ⟨start1.p0, start1.e0, start1.about1, start1.theMethod, start1.args0, start1.below0, start1.atStart⟩
end Jvm.Pilot.@@N@@
