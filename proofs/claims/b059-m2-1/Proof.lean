import JvmDerived
import JvmDerived.Pilot.@@N@@Statement
import JvmDerived.Pilot.@@N@@Code
set_option linter.unusedVariables false
set_option linter.unusedSimpArgs false

namespace Jvm.Pilot.@@N@@
open Jvm Jvm.ClassFile Sem Op Lib Jvm.Free Jvm.Stand Jvm.LawKit Jvm.RoadKit Bundle Jvm.Pilot.@@N@@.Jvm.D
/-- from S the run comes to an end of which P holds -/
abbrev Ends (tb : Tables) (e : Env) (below : List Frame) (S : State) (P : State → Outcome → Prop) : Prop := ∃ t o, Steps tb e below S t ∧ P t o
theorem own_via {tb : Tables} {e : Env} {below : List Frame} {S S' : State} {P : State → Outcome → Prop} (h : ∀ t, Steps tb e below S' t → Steps tb e below S t) (k : Ends tb e below S' P) : Ends tb e below S P := by
  obtain ⟨t, o, a, b⟩ := k
  exact ⟨t, o, h t a, b⟩
theorem own_begin {tb : Tables} {e : Env} {below : List Frame} {T : State} {g g' : JFrame} {P : State → Outcome → Prop} (q : g = g') (k : Ends tb e below (T.setTop g') P) : ∃ t o, Steps tb e below (T.setTop g) t ∧ P t o := by
  subst q
  exact k
/-- several roads come to one place -/
theorem own_join {tb : Tables} {e : Env} {below : List Frame} {S0 : State} {P : State → Outcome → Prop} {α : Type} (S : α → State) (H : α → Prop) (k1 : (∀ w, H w → Ends tb e below (S w) P) → Ends tb e below S0 P) (k2 : ∀ w, H w → Ends tb e below (S w) P) : Ends tb e below S0 P := k1 k2
theorem own_rwm {s t : State} {o : Outcome} {L : List Loc} {k n k' n' : Nat} (h : ReturnedEndW s o t L k n) (h1 : k ≤ k') (h2 : n ≤ n') : ReturnedEndW s o t L k' n' := ⟨h.1, h.2.1, h.2.2.1, h.2.2.2.mono h1 h2⟩
theorem own_narR {v : Value} {C : String} (h : v.isRef = true) : narrow (.object C) v = v := by cases v <;> first | rfl | (simp [Value.isRef] at h)
theorem own_fitR {v : Value} {C : String} (h : v.isRef = true) : fits (.object C) v = true := by cases v <;> first | rfl | (simp [Value.isRef] at h)
theorem own_catR {v : Value} (h : v.isRef = true) : v.category = 1 := by cases v <;> first | rfl | (simp [Value.isRef] at h)
theorem own_selPriv {s : State} {args : Array Value} {y z : MethodName} (hz : z.cls = y.cls) (hsel : (Jvm.Cond.selects z.cls z z).before args s = true) (hpriv : s.PrivateAt y) (hinst : (Jvm.Cond.instanceMethod y).before args s = true) (hy : y.cls ≠ "java/lang/invoke/MethodHandle" ∧ y.cls ≠ "java/lang/invoke/VarHandle") : (Jvm.Cond.selects y.cls y y).before args s = true := by
  obtain ⟨c2, r2, m2, -, -, q3, -, kP, hkP, hkPi⟩ := Cond.selects_spec hsel
  exact selects_self_of_private (hz ▸ findClass_of_methodNamed q3) hkP hkPi hpriv hinst hy
section OwnSteps
variable {tb : Tables} [Ours tb] {e : Env} {below : List Frame} {T : State} {m : MethodId} {c : Code} {P : State → Outcome → Prop} {pc pc' : Nat} {ls l' : Array Slot} {st : List Value}
theorem s_iload (h : At T m c below) (hx : tb.exec = Jvm.exec) {k : Nat} {v : Int32} (hd : decode c.code pc = .ok (.iload k, 2)) (hl : ls[k]? = some (.val (.int v))) (hp : pc + 2 = pc') (hr : Ends tb e below (T.setTop (mkF m pc' ls (.int v :: st))) P) : Ends tb e below (T.setTop (mkF m pc ls st)) P := by
  subst hp
  exact own_via (fun t_ k_ => XS.iload h hx rfl hd hl k_) hr
theorem s_istore (h : At T m c below) (hx : tb.exec = Jvm.exec) {k : Nat} {v : Int32} (hd : decode c.code pc = .ok (.istore k, 2)) (hl : storeLocals ls k (.int v) = some l') (hp : pc + 2 = pc') (hr : Ends tb e below (T.setTop (mkF m pc' l' st)) P) : Ends tb e below (T.setTop (mkF m pc ls (.int v :: st))) P := by
  subst hp
  exact own_via (fun t_ k_ => XS.istore h hx rfl hd rfl hl k_) hr
theorem s_iloadN (h : At T m c below) (hx : tb.exec = Jvm.exec) {k : Fin 4} {v : Int32} (hd : decode c.code pc = .ok (.iload_n k, 1)) (hl : ls[k.val]? = some (.val (.int v))) (hp : pc + 1 = pc') (hr : Ends tb e below (T.setTop (mkF m pc' ls (.int v :: st))) P) : Ends tb e below (T.setTop (mkF m pc ls st)) P := by
  subst hp
  exact own_via (fun t_ k_ => XS.iloadN h hx rfl hd hl k_) hr
theorem s_istoreN (h : At T m c below) (hx : tb.exec = Jvm.exec) {k : Fin 4} {v : Int32} (hd : decode c.code pc = .ok (.istore_n k, 1)) (hl : storeLocals ls k.val (.int v) = some l') (hp : pc + 1 = pc') (hr : Ends tb e below (T.setTop (mkF m pc' l' st)) P) : Ends tb e below (T.setTop (mkF m pc ls (.int v :: st))) P := by
  subst hp
  exact own_via (fun t_ k_ => XS.istoreN h hx rfl hd rfl hl k_) hr
theorem s_lload (h : At T m c below) (hx : tb.exec = Jvm.exec) {k : Nat} {v : Int64} (hd : decode c.code pc = .ok (.lload k, 2)) (hl : ls[k]? = some (.val (.long v))) (hp : pc + 2 = pc') (hr : Ends tb e below (T.setTop (mkF m pc' ls (.long v :: st))) P) : Ends tb e below (T.setTop (mkF m pc ls st)) P := by
  subst hp
  exact own_via (fun t_ k_ => XS.lload h hx rfl hd hl k_) hr
theorem s_lstore (h : At T m c below) (hx : tb.exec = Jvm.exec) {k : Nat} {v : Int64} (hd : decode c.code pc = .ok (.lstore k, 2)) (hl : storeLocals ls k (.long v) = some l') (hp : pc + 2 = pc') (hr : Ends tb e below (T.setTop (mkF m pc' l' st)) P) : Ends tb e below (T.setTop (mkF m pc ls (.long v :: st))) P := by
  subst hp
  exact own_via (fun t_ k_ => XS.lstore h hx rfl hd rfl hl k_) hr
theorem s_lloadN (h : At T m c below) (hx : tb.exec = Jvm.exec) {k : Fin 4} {v : Int64} (hd : decode c.code pc = .ok (.lload_n k, 1)) (hl : ls[k.val]? = some (.val (.long v))) (hp : pc + 1 = pc') (hr : Ends tb e below (T.setTop (mkF m pc' ls (.long v :: st))) P) : Ends tb e below (T.setTop (mkF m pc ls st)) P := by
  subst hp
  exact own_via (fun t_ k_ => XS.lloadN h hx rfl hd hl k_) hr
theorem s_lstoreN (h : At T m c below) (hx : tb.exec = Jvm.exec) {k : Fin 4} {v : Int64} (hd : decode c.code pc = .ok (.lstore_n k, 1)) (hl : storeLocals ls k.val (.long v) = some l') (hp : pc + 1 = pc') (hr : Ends tb e below (T.setTop (mkF m pc' l' st)) P) : Ends tb e below (T.setTop (mkF m pc ls (.long v :: st))) P := by
  subst hp
  exact own_via (fun t_ k_ => XS.lstoreN h hx rfl hd rfl hl k_) hr
theorem s_dload (h : At T m c below) (hx : tb.exec = Jvm.exec) {k : Nat} {v : UInt64} (hd : decode c.code pc = .ok (.dload k, 2)) (hl : ls[k]? = some (.val (.double v))) (hp : pc + 2 = pc') (hr : Ends tb e below (T.setTop (mkF m pc' ls (.double v :: st))) P) : Ends tb e below (T.setTop (mkF m pc ls st)) P := by
  subst hp
  exact own_via (fun t_ k_ => XS.dload h hx rfl hd hl k_) hr
theorem s_dstore (h : At T m c below) (hx : tb.exec = Jvm.exec) {k : Nat} {v : UInt64} (hd : decode c.code pc = .ok (.dstore k, 2)) (hl : storeLocals ls k (.double v) = some l') (hp : pc + 2 = pc') (hr : Ends tb e below (T.setTop (mkF m pc' l' st)) P) : Ends tb e below (T.setTop (mkF m pc ls (.double v :: st))) P := by
  subst hp
  exact own_via (fun t_ k_ => XS.dstore h hx rfl hd rfl hl k_) hr
theorem s_dloadN (h : At T m c below) (hx : tb.exec = Jvm.exec) {k : Fin 4} {v : UInt64} (hd : decode c.code pc = .ok (.dload_n k, 1)) (hl : ls[k.val]? = some (.val (.double v))) (hp : pc + 1 = pc') (hr : Ends tb e below (T.setTop (mkF m pc' ls (.double v :: st))) P) : Ends tb e below (T.setTop (mkF m pc ls st)) P := by
  subst hp
  exact own_via (fun t_ k_ => XS.dloadN h hx rfl hd hl k_) hr
theorem s_dstoreN (h : At T m c below) (hx : tb.exec = Jvm.exec) {k : Fin 4} {v : UInt64} (hd : decode c.code pc = .ok (.dstore_n k, 1)) (hl : storeLocals ls k.val (.double v) = some l') (hp : pc + 1 = pc') (hr : Ends tb e below (T.setTop (mkF m pc' l' st)) P) : Ends tb e below (T.setTop (mkF m pc ls (.double v :: st))) P := by
  subst hp
  exact own_via (fun t_ k_ => XS.dstoreN h hx rfl hd rfl hl k_) hr
theorem s_aload (h : At T m c below) (hx : tb.exec = Jvm.exec) {k : Nat} {v : Value} (hd : decode c.code pc = .ok (.aload k, 2)) (hl : ls[k]? = some (.val v)) (hv : v.isRef = true) (hp : pc + 2 = pc') (hr : Ends tb e below (T.setTop (mkF m pc' ls (v :: st))) P) : Ends tb e below (T.setTop (mkF m pc ls st)) P := by
  subst hp
  exact own_via (fun t_ k_ => XS.aload h hx rfl hd hl hv k_) hr
theorem s_astore (h : At T m c below) (hx : tb.exec = Jvm.exec) {k : Nat} {v : Value} (hd : decode c.code pc = .ok (.astore k, 2)) (hv : v.isRef = true) (hl : storeLocals ls k v = some l') (hp : pc + 2 = pc') (hr : Ends tb e below (T.setTop (mkF m pc' l' st)) P) : Ends tb e below (T.setTop (mkF m pc ls (v :: st))) P := by
  subst hp
  exact own_via (fun t_ k_ => XS.astore h hx rfl hd rfl hv hl k_) hr
theorem s_aloadN (h : At T m c below) (hx : tb.exec = Jvm.exec) {k : Fin 4} {v : Value} (hd : decode c.code pc = .ok (.aload_n k, 1)) (hl : ls[k.val]? = some (.val v)) (hv : v.isRef = true) (hp : pc + 1 = pc') (hr : Ends tb e below (T.setTop (mkF m pc' ls (v :: st))) P) : Ends tb e below (T.setTop (mkF m pc ls st)) P := by
  subst hp
  exact own_via (fun t_ k_ => XS.aloadN h hx rfl hd hl hv k_) hr
theorem s_astoreN (h : At T m c below) (hx : tb.exec = Jvm.exec) {k : Fin 4} {v : Value} (hd : decode c.code pc = .ok (.astore_n k, 1)) (hv : v.isRef = true) (hl : storeLocals ls k.val v = some l') (hp : pc + 1 = pc') (hr : Ends tb e below (T.setTop (mkF m pc' l' st)) P) : Ends tb e below (T.setTop (mkF m pc ls (v :: st))) P := by
  subst hp
  exact own_via (fun t_ k_ => XS.astoreN h hx rfl hd rfl hv hl k_) hr
theorem s_iconst (h : At T m c below) (hx : tb.exec = Jvm.exec) {i : Int} {v : Int32} (hd : decode c.code pc = .ok (.iconst i, 1)) (hv : Int32.ofInt i = v) (hp : pc + 1 = pc') (hr : Ends tb e below (T.setTop (mkF m pc' ls (.int v :: st))) P) : Ends tb e below (T.setTop (mkF m pc ls st)) P := by
  subst hp hv
  exact own_via (fun t_ k_ => XS.iconst h hx rfl hd k_) hr
theorem s_bipush (h : At T m c below) (hx : tb.exec = Jvm.exec) {i : Int} {v : Int32} (hd : decode c.code pc = .ok (.bipush i, 2)) (hv : (Int8.ofInt i).toInt32 = v) (hp : pc + 2 = pc') (hr : Ends tb e below (T.setTop (mkF m pc' ls (.int v :: st))) P) : Ends tb e below (T.setTop (mkF m pc ls st)) P := by
  subst hp hv
  exact own_via (fun t_ k_ => XS.bipush h hx rfl hd k_) hr
theorem s_sipush (h : At T m c below) (hx : tb.exec = Jvm.exec) {i : Int} {v : Int32} (hd : decode c.code pc = .ok (.sipush i, 3)) (hv : (Int16.ofInt i).toInt32 = v) (hp : pc + 3 = pc') (hr : Ends tb e below (T.setTop (mkF m pc' ls (.int v :: st))) P) : Ends tb e below (T.setTop (mkF m pc ls st)) P := by
  subst hp hv
  exact own_via (fun t_ k_ => XS.sipush h hx rfl hd k_) hr
theorem s_lconst (h : At T m c below) (hx : tb.exec = Jvm.exec) {i : Fin 2} {v : Int64} (hd : decode c.code pc = .ok (.lconst i, 1)) (hv : Int64.ofNat i = v) (hp : pc + 1 = pc') (hr : Ends tb e below (T.setTop (mkF m pc' ls (.long v :: st))) P) : Ends tb e below (T.setTop (mkF m pc ls st)) P := by
  subst hp hv
  exact own_via (fun t_ k_ => XS.lconst h hx rfl hd k_) hr
theorem s_aconstNull (h : At T m c below) (hx : tb.exec = Jvm.exec)  (hd : decode c.code pc = .ok (.aconst_null, 1))  (hp : pc + 1 = pc') (hr : Ends tb e below (T.setTop (mkF m pc' ls (.null :: st))) P) : Ends tb e below (T.setTop (mkF m pc ls st)) P := by
  subst hp
  exact own_via (fun t_ k_ => XS.aconstNull h hx rfl hd k_) hr
theorem s_iadd (h : At T m c below) (hx : tb.exec = Jvm.exec) {x y : Int32} (hd : decode c.code pc = .ok (.iadd, 1))  (hp : pc + 1 = pc') (hr : Ends tb e below (T.setTop (mkF m pc' ls (.int (x + y) :: st))) P) : Ends tb e below (T.setTop (mkF m pc ls (.int y :: .int x :: st))) P := by
  subst hp
  exact own_via (fun t_ k_ => XS.iadd h hx rfl hd rfl k_) hr
theorem s_isub (h : At T m c below) (hx : tb.exec = Jvm.exec) {x y : Int32} (hd : decode c.code pc = .ok (.isub, 1))  (hp : pc + 1 = pc') (hr : Ends tb e below (T.setTop (mkF m pc' ls (.int (x - y) :: st))) P) : Ends tb e below (T.setTop (mkF m pc ls (.int y :: .int x :: st))) P := by
  subst hp
  exact own_via (fun t_ k_ => XS.isub h hx rfl hd rfl k_) hr
theorem s_imul (h : At T m c below) (hx : tb.exec = Jvm.exec) {x y : Int32} (hd : decode c.code pc = .ok (.imul, 1))  (hp : pc + 1 = pc') (hr : Ends tb e below (T.setTop (mkF m pc' ls (.int (x * y) :: st))) P) : Ends tb e below (T.setTop (mkF m pc ls (.int y :: .int x :: st))) P := by
  subst hp
  exact own_via (fun t_ k_ => XS.imul h hx rfl hd rfl k_) hr
theorem s_iand (h : At T m c below) (hx : tb.exec = Jvm.exec) {x y : Int32} (hd : decode c.code pc = .ok (.iand, 1))  (hp : pc + 1 = pc') (hr : Ends tb e below (T.setTop (mkF m pc' ls (.int (x &&& y) :: st))) P) : Ends tb e below (T.setTop (mkF m pc ls (.int y :: .int x :: st))) P := by
  subst hp
  exact own_via (fun t_ k_ => XS.iand h hx rfl hd rfl k_) hr
theorem s_ior (h : At T m c below) (hx : tb.exec = Jvm.exec) {x y : Int32} (hd : decode c.code pc = .ok (.ior, 1))  (hp : pc + 1 = pc') (hr : Ends tb e below (T.setTop (mkF m pc' ls (.int (x ||| y) :: st))) P) : Ends tb e below (T.setTop (mkF m pc ls (.int y :: .int x :: st))) P := by
  subst hp
  exact own_via (fun t_ k_ => XS.ior h hx rfl hd rfl k_) hr
theorem s_ixor (h : At T m c below) (hx : tb.exec = Jvm.exec) {x y : Int32} (hd : decode c.code pc = .ok (.ixor, 1))  (hp : pc + 1 = pc') (hr : Ends tb e below (T.setTop (mkF m pc' ls (.int (x ^^^ y) :: st))) P) : Ends tb e below (T.setTop (mkF m pc ls (.int y :: .int x :: st))) P := by
  subst hp
  exact own_via (fun t_ k_ => XS.ixor h hx rfl hd rfl k_) hr
theorem s_ishl (h : At T m c below) (hx : tb.exec = Jvm.exec) {x y : Int32} (hd : decode c.code pc = .ok (.ishl, 1))  (hp : pc + 1 = pc') (hr : Ends tb e below (T.setTop (mkF m pc' ls (.int (x <<< (y &&& 31)) :: st))) P) : Ends tb e below (T.setTop (mkF m pc ls (.int y :: .int x :: st))) P := by
  subst hp
  exact own_via (fun t_ k_ => XS.ishl h hx rfl hd rfl k_) hr
theorem s_ishr (h : At T m c below) (hx : tb.exec = Jvm.exec) {x y : Int32} (hd : decode c.code pc = .ok (.ishr, 1))  (hp : pc + 1 = pc') (hr : Ends tb e below (T.setTop (mkF m pc' ls (.int (x >>> (y &&& 31)) :: st))) P) : Ends tb e below (T.setTop (mkF m pc ls (.int y :: .int x :: st))) P := by
  subst hp
  exact own_via (fun t_ k_ => XS.ishr h hx rfl hd rfl k_) hr
theorem s_iushr (h : At T m c below) (hx : tb.exec = Jvm.exec) {x y : Int32} (hd : decode c.code pc = .ok (.iushr, 1))  (hp : pc + 1 = pc') (hr : Ends tb e below (T.setTop (mkF m pc' ls (.int ((x.toUInt32 >>> (y &&& 31).toUInt32).toInt32) :: st))) P) : Ends tb e below (T.setTop (mkF m pc ls (.int y :: .int x :: st))) P := by
  subst hp
  exact own_via (fun t_ k_ => XS.iushr h hx rfl hd rfl k_) hr
theorem s_ladd (h : At T m c below) (hx : tb.exec = Jvm.exec) {x y : Int64} (hd : decode c.code pc = .ok (.ladd, 1))  (hp : pc + 1 = pc') (hr : Ends tb e below (T.setTop (mkF m pc' ls (.long (x + y) :: st))) P) : Ends tb e below (T.setTop (mkF m pc ls (.long y :: .long x :: st))) P := by
  subst hp
  exact own_via (fun t_ k_ => XS.ladd h hx rfl hd rfl k_) hr
theorem s_lsub (h : At T m c below) (hx : tb.exec = Jvm.exec) {x y : Int64} (hd : decode c.code pc = .ok (.lsub, 1))  (hp : pc + 1 = pc') (hr : Ends tb e below (T.setTop (mkF m pc' ls (.long (x - y) :: st))) P) : Ends tb e below (T.setTop (mkF m pc ls (.long y :: .long x :: st))) P := by
  subst hp
  exact own_via (fun t_ k_ => XS.lsub h hx rfl hd rfl k_) hr
theorem s_lmul (h : At T m c below) (hx : tb.exec = Jvm.exec) {x y : Int64} (hd : decode c.code pc = .ok (.lmul, 1))  (hp : pc + 1 = pc') (hr : Ends tb e below (T.setTop (mkF m pc' ls (.long (x * y) :: st))) P) : Ends tb e below (T.setTop (mkF m pc ls (.long y :: .long x :: st))) P := by
  subst hp
  exact own_via (fun t_ k_ => XS.lmul h hx rfl hd rfl k_) hr
theorem s_land (h : At T m c below) (hx : tb.exec = Jvm.exec) {x y : Int64} (hd : decode c.code pc = .ok (.land, 1))  (hp : pc + 1 = pc') (hr : Ends tb e below (T.setTop (mkF m pc' ls (.long (x &&& y) :: st))) P) : Ends tb e below (T.setTop (mkF m pc ls (.long y :: .long x :: st))) P := by
  subst hp
  exact own_via (fun t_ k_ => XS.land h hx rfl hd rfl k_) hr
theorem s_lor (h : At T m c below) (hx : tb.exec = Jvm.exec) {x y : Int64} (hd : decode c.code pc = .ok (.lor, 1))  (hp : pc + 1 = pc') (hr : Ends tb e below (T.setTop (mkF m pc' ls (.long (x ||| y) :: st))) P) : Ends tb e below (T.setTop (mkF m pc ls (.long y :: .long x :: st))) P := by
  subst hp
  exact own_via (fun t_ k_ => XS.lor h hx rfl hd rfl k_) hr
theorem s_lxor (h : At T m c below) (hx : tb.exec = Jvm.exec) {x y : Int64} (hd : decode c.code pc = .ok (.lxor, 1))  (hp : pc + 1 = pc') (hr : Ends tb e below (T.setTop (mkF m pc' ls (.long (x ^^^ y) :: st))) P) : Ends tb e below (T.setTop (mkF m pc ls (.long y :: .long x :: st))) P := by
  subst hp
  exact own_via (fun t_ k_ => XS.lxor h hx rfl hd rfl k_) hr
theorem s_lshl (h : At T m c below) (hx : tb.exec = Jvm.exec) {x : Int64} {y : Int32} (hd : decode c.code pc = .ok (.lshl, 1))  (hp : pc + 1 = pc') (hr : Ends tb e below (T.setTop (mkF m pc' ls (.long (x <<< (y &&& 0x3f).toInt64) :: st))) P) : Ends tb e below (T.setTop (mkF m pc ls (.int y :: .long x :: st))) P := by
  subst hp
  exact own_via (fun t_ k_ => XS.lshl h hx rfl hd rfl k_) hr
theorem s_lshr (h : At T m c below) (hx : tb.exec = Jvm.exec) {x : Int64} {y : Int32} (hd : decode c.code pc = .ok (.lshr, 1))  (hp : pc + 1 = pc') (hr : Ends tb e below (T.setTop (mkF m pc' ls (.long (x >>> (y &&& 0x3f).toInt64) :: st))) P) : Ends tb e below (T.setTop (mkF m pc ls (.int y :: .long x :: st))) P := by
  subst hp
  exact own_via (fun t_ k_ => XS.lshr h hx rfl hd rfl k_) hr
theorem s_lushr (h : At T m c below) (hx : tb.exec = Jvm.exec) {x : Int64} {y : Int32} (hd : decode c.code pc = .ok (.lushr, 1))  (hp : pc + 1 = pc') (hr : Ends tb e below (T.setTop (mkF m pc' ls (.long ((x.toUInt64 >>> (y &&& 0x3f).toInt64.toUInt64).toInt64) :: st))) P) : Ends tb e below (T.setTop (mkF m pc ls (.int y :: .long x :: st))) P := by
  subst hp
  exact own_via (fun t_ k_ => XS.lushr h hx rfl hd rfl k_) hr
theorem s_idiv (h : At T m c below) (hx : tb.exec = Jvm.exec) {x y : Int32} (hd : decode c.code pc = .ok (.idiv, 1)) (hy : y ≠ 0) (hp : pc + 1 = pc') (hr : Ends tb e below (T.setTop (mkF m pc' ls (.int (x / y) :: st))) P) : Ends tb e below (T.setTop (mkF m pc ls (.int y :: .int x :: st))) P := by
  subst hp
  exact own_via (fun t_ k_ => XS.idiv h hx rfl hd rfl hy k_) hr
theorem s_ldiv (h : At T m c below) (hx : tb.exec = Jvm.exec) {x y : Int64} (hd : decode c.code pc = .ok (.ldiv, 1)) (hy : y ≠ 0) (hp : pc + 1 = pc') (hr : Ends tb e below (T.setTop (mkF m pc' ls (.long (x / y) :: st))) P) : Ends tb e below (T.setTop (mkF m pc ls (.long y :: .long x :: st))) P := by
  subst hp
  exact own_via (fun t_ k_ => XS.ldiv h hx rfl hd rfl hy k_) hr
theorem s_lrem (h : At T m c below) (hx : tb.exec = Jvm.exec) {x y : Int64} (hd : decode c.code pc = .ok (.lrem, 1)) (hy : y ≠ 0) (hp : pc + 1 = pc') (hr : Ends tb e below (T.setTop (mkF m pc' ls (.long (x % y) :: st))) P) : Ends tb e below (T.setTop (mkF m pc ls (.long y :: .long x :: st))) P := by
  subst hp
  exact own_via (fun t_ k_ => XS.lrem h hx rfl hd rfl hy (by rw [lrem_mod]; exact k_)) hr
theorem s_ineg (h : At T m c below) (hx : tb.exec = Jvm.exec) {x : Int32} (hd : decode c.code pc = .ok (.ineg, 1))  (hp : pc + 1 = pc') (hr : Ends tb e below (T.setTop (mkF m pc' ls (.int (-x) :: st))) P) : Ends tb e below (T.setTop (mkF m pc ls (.int x :: st))) P := by
  subst hp
  exact own_via (fun t_ k_ => XS.ineg h hx rfl hd rfl k_) hr
theorem s_lneg (h : At T m c below) (hx : tb.exec = Jvm.exec) {x : Int64} (hd : decode c.code pc = .ok (.lneg, 1))  (hp : pc + 1 = pc') (hr : Ends tb e below (T.setTop (mkF m pc' ls (.long (-x) :: st))) P) : Ends tb e below (T.setTop (mkF m pc ls (.long x :: st))) P := by
  subst hp
  exact own_via (fun t_ k_ => XS.lneg h hx rfl hd rfl k_) hr
theorem s_i2l (h : At T m c below) (hx : tb.exec = Jvm.exec) {x : Int32} (hd : decode c.code pc = .ok (.i2l, 1))  (hp : pc + 1 = pc') (hr : Ends tb e below (T.setTop (mkF m pc' ls (.long (x.toInt64) :: st))) P) : Ends tb e below (T.setTop (mkF m pc ls (.int x :: st))) P := by
  subst hp
  exact own_via (fun t_ k_ => XS.i2l h hx rfl hd rfl k_) hr
theorem s_l2i (h : At T m c below) (hx : tb.exec = Jvm.exec) {x : Int64} (hd : decode c.code pc = .ok (.l2i, 1))  (hp : pc + 1 = pc') (hr : Ends tb e below (T.setTop (mkF m pc' ls (.int (x.toInt32) :: st))) P) : Ends tb e below (T.setTop (mkF m pc ls (.long x :: st))) P := by
  subst hp
  exact own_via (fun t_ k_ => XS.l2i h hx rfl hd rfl k_) hr
theorem s_i2b (h : At T m c below) (hx : tb.exec = Jvm.exec) {x : Int32} (hd : decode c.code pc = .ok (.i2b, 1))  (hp : pc + 1 = pc') (hr : Ends tb e below (T.setTop (mkF m pc' ls (.int (x.toInt8.toInt32) :: st))) P) : Ends tb e below (T.setTop (mkF m pc ls (.int x :: st))) P := by
  subst hp
  exact own_via (fun t_ k_ => XS.i2b h hx rfl hd rfl k_) hr
theorem s_i2s (h : At T m c below) (hx : tb.exec = Jvm.exec) {x : Int32} (hd : decode c.code pc = .ok (.i2s, 1))  (hp : pc + 1 = pc') (hr : Ends tb e below (T.setTop (mkF m pc' ls (.int (x.toInt16.toInt32) :: st))) P) : Ends tb e below (T.setTop (mkF m pc ls (.int x :: st))) P := by
  subst hp
  exact own_via (fun t_ k_ => XS.i2s h hx rfl hd rfl k_) hr
theorem s_i2c (h : At T m c below) (hx : tb.exec = Jvm.exec) {x : Int32} (hd : decode c.code pc = .ok (.i2c, 1))  (hp : pc + 1 = pc') (hr : Ends tb e below (T.setTop (mkF m pc' ls (.int (x.toUInt32.toUInt16.toUInt32.toInt32) :: st))) P) : Ends tb e below (T.setTop (mkF m pc ls (.int x :: st))) P := by
  subst hp
  exact own_via (fun t_ k_ => XS.i2c h hx rfl hd rfl k_) hr
theorem s_lcmp (h : At T m c below) (hx : tb.exec = Jvm.exec) {x y : Int64} (hd : decode c.code pc = .ok (.lcmp, 1))  (hp : pc + 1 = pc') (hr : Ends tb e below (T.setTop (mkF m pc' ls (.int (lcmpW x y) :: st))) P) : Ends tb e below (T.setTop (mkF m pc ls (.long y :: .long x :: st))) P := by
  subst hp
  exact own_via (fun t_ k_ => XS.lcmp h hx rfl hd rfl k_) hr
theorem s_l2d (h : At T m c below) (hx : tb.exec = Jvm.exec) {x : Int64} (hd : decode c.code pc = .ok (.l2d, 1))  (hp : pc + 1 = pc') (hr : Ends tb e below (T.setTop (mkF m pc' ls (.double (FP.l2d x) :: st))) P) : Ends tb e below (T.setTop (mkF m pc ls (.long x :: st))) P := by
  subst hp
  exact own_via (fun t_ k_ => XS.l2dS h hx rfl hd rfl rfl k_) hr
theorem s_dneg (h : At T m c below) (hx : tb.exec = Jvm.exec) {x : UInt64} (hd : decode c.code pc = .ok (.dneg, 1))  (hp : pc + 1 = pc') (hr : Ends tb e below (T.setTop (mkF m pc' ls (.double (FP.dneg x) :: st))) P) : Ends tb e below (T.setTop (mkF m pc ls (.double x :: st))) P := by
  subst hp
  exact own_via (fun t_ k_ => XS.dnegS h hx rfl hd rfl rfl k_) hr
theorem s_dcmp (h : At T m c below) (hx : tb.exec = Jvm.exec) {o : CmpOp} {x y : UInt64} (hd : decode c.code pc = .ok (.dcmp o, 1))  (hp : pc + 1 = pc') (hr : Ends tb e below (T.setTop (mkF m pc' ls (.int (cmpValue (FP.dcmp x y) o) :: st))) P) : Ends tb e below (T.setTop (mkF m pc ls (.double y :: .double x :: st))) P := by
  subst hp
  exact own_via (fun t_ k_ => XS.dcmpS h hx rfl hd rfl rfl k_) hr
theorem s_iinc (h : At T m c below) (hx : tb.exec = Jvm.exec) {k : Nat} {i : Int} {x v : Int32} (hd : decode c.code pc = .ok (.iinc k i, 3)) (hv : Int32.ofInt i = v) (hl : ls[k]? = some (.val (.int x))) (hl' : storeLocals ls k (.int (x + v)) = some l') (hp : pc + 3 = pc') (hr : Ends tb e below (T.setTop (mkF m pc' l' st)) P) : Ends tb e below (T.setTop (mkF m pc ls st)) P := by
  subst hp hv
  exact own_via (fun t_ k_ => XS.iinc h hx rfl hd hl hl' k_) hr
theorem s_dup (h : At T m c below) (hx : tb.exec = Jvm.exec) {x : Value} (hd : decode c.code pc = .ok (.dup, 1)) (hc : x.category = 1) (hp : pc + 1 = pc') (hr : Ends tb e below (T.setTop (mkF m pc' ls (x :: x :: st))) P) : Ends tb e below (T.setTop (mkF m pc ls (x :: st))) P := by
  subst hp
  exact own_via (fun t_ k_ => XS.dup h hx rfl hd rfl hc k_) hr
theorem s_dupX1 (h : At T m c below) (hx : tb.exec = Jvm.exec) {x y : Value} (hd : decode c.code pc = .ok (.dup_x1, 1)) (hc : x.category = 1) (hc' : y.category = 1) (hp : pc + 1 = pc') (hr : Ends tb e below (T.setTop (mkF m pc' ls (x :: y :: x :: st))) P) : Ends tb e below (T.setTop (mkF m pc ls (x :: y :: st))) P := by
  subst hp
  exact own_via (fun t_ k_ => XS.dupX1 h hx rfl hd rfl hc hc' k_) hr
theorem s_dup2 (h : At T m c below) (hx : tb.exec = Jvm.exec) {x y : Value} (hd : decode c.code pc = .ok (.dup2, 1)) (hc : x.category = 1) (hc' : y.category = 1) (hp : pc + 1 = pc') (hr : Ends tb e below (T.setTop (mkF m pc' ls (x :: y :: x :: y :: st))) P) : Ends tb e below (T.setTop (mkF m pc ls (x :: y :: st))) P := by
  subst hp
  exact own_via (fun t_ k_ => XT.dup2 h hx rfl hd rfl hc hc' k_) hr
theorem s_dup2L (h : At T m c below) (hx : tb.exec = Jvm.exec) {x : Int64} (hd : decode c.code pc = .ok (.dup2, 1))  (hp : pc + 1 = pc') (hr : Ends tb e below (T.setTop (mkF m pc' ls (.long x :: .long x :: st))) P) : Ends tb e below (T.setTop (mkF m pc ls (.long x :: st))) P := by
  subst hp
  exact own_via (fun t_ k_ => XT.dup2L h hx rfl hd rfl k_) hr
theorem s_pop (h : At T m c below) (hx : tb.exec = Jvm.exec) {x : Value} (hd : decode c.code pc = .ok (.pop, 1)) (hc : x.category = 1) (hp : pc + 1 = pc') (hr : Ends tb e below (T.setTop (mkF m pc' ls st)) P) : Ends tb e below (T.setTop (mkF m pc ls (x :: st))) P := by
  subst hp
  exact own_via (fun t_ k_ => XS.pop h hx rfl hd rfl hc k_) hr
theorem own_pop2L {target : State} {g : JFrame} (h : At T m c below) (hx : tb.exec = Jvm.exec) (hg : g.method = m) {x : Int64} {rest : List Value} (hd : decode c.code g.pc = .ok (.pop2, 1)) (hs : g.stack = .long x :: rest)
    (hr : Steps tb e below (T.setTop { g with pc := g.pc + 1, stack := rest }) target) : Steps tb e below (T.setTop g) target := by
  subst hg
  jvm_step h [h.top, hx, hd, hs, Value.category]
  exact hr
theorem s_pop2L (h : At T m c below) (hx : tb.exec = Jvm.exec) {x : Int64} (hd : decode c.code pc = .ok (.pop2, 1))  (hp : pc + 1 = pc') (hr : Ends tb e below (T.setTop (mkF m pc' ls st)) P) : Ends tb e below (T.setTop (mkF m pc ls (.long x :: st))) P := by
  subst hp
  exact own_via (fun t_ k_ => own_pop2L h hx rfl hd rfl k_) hr
theorem s_goto (h : At T m c below) (hx : tb.exec = Jvm.exec)  {o : Int} (hd : decode c.code pc = .ok (.goto o, 3))  (ho : 0 ≤ (pc : Int) + o) (hp : ((pc : Int) + o).toNat = pc') (hr : Ends tb e below (T.setTop (mkF m pc' ls st)) P) : Ends tb e below (T.setTop (mkF m pc ls st)) P := own_via (fun t_ k_ => XS.goto h hx rfl rfl hd ho hp k_) hr
theorem s_ifYes (h : At T m c below) (hx : tb.exec = Jvm.exec) {cd : ClassFile.Cond} {x : Int32} {o : Int} (hd : decode c.code pc = .ok (.ifCond cd o, 3)) (hc : ifCond.holds cd x = true) (ho : 0 ≤ (pc : Int) + o) (hp : ((pc : Int) + o).toNat = pc') (hr : Ends tb e below (T.setTop (mkF m pc' ls st)) P) : Ends tb e below (T.setTop (mkF m pc ls (.int x :: st))) P := own_via (fun t_ k_ => XS.ifYes h hx rfl rfl hd rfl hc ho hp k_) hr
theorem s_ifNo (h : At T m c below) (hx : tb.exec = Jvm.exec) {cd : ClassFile.Cond} {x : Int32} {o : Int} (hd : decode c.code pc = .ok (.ifCond cd o, 3)) (hc : ifCond.holds cd x = false) (hp : pc + 3 = pc') (hr : Ends tb e below (T.setTop (mkF m pc' ls st)) P) : Ends tb e below (T.setTop (mkF m pc ls (.int x :: st))) P := by
  subst hp
  exact own_via (fun t_ k_ => XS.ifNo h hx rfl hd rfl hc k_) hr
theorem s_icmpYes (h : At T m c below) (hx : tb.exec = Jvm.exec) {cd : ClassFile.Cond} {x y : Int32} {o : Int} (hd : decode c.code pc = .ok (.if_icmp cd o, 3)) (hc : if_icmp.holds cd x y = true) (ho : 0 ≤ (pc : Int) + o) (hp : ((pc : Int) + o).toNat = pc') (hr : Ends tb e below (T.setTop (mkF m pc' ls st)) P) : Ends tb e below (T.setTop (mkF m pc ls (.int y :: .int x :: st))) P := own_via (fun t_ k_ => XS.icmpYes h hx rfl rfl hd rfl hc ho hp k_) hr
theorem s_icmpNo (h : At T m c below) (hx : tb.exec = Jvm.exec) {cd : ClassFile.Cond} {x y : Int32} {o : Int} (hd : decode c.code pc = .ok (.if_icmp cd o, 3)) (hc : if_icmp.holds cd x y = false) (hp : pc + 3 = pc') (hr : Ends tb e below (T.setTop (mkF m pc' ls st)) P) : Ends tb e below (T.setTop (mkF m pc ls (.int y :: .int x :: st))) P := by
  subst hp
  exact own_via (fun t_ k_ => XS.icmpNo h hx rfl hd rfl hc k_) hr
theorem s_ifnullYes (h : At T m c below) (hx : tb.exec = Jvm.exec)  {o : Int} (hd : decode c.code pc = .ok (.ifnull o, 3))  (ho : 0 ≤ (pc : Int) + o) (hp : ((pc : Int) + o).toNat = pc') (hr : Ends tb e below (T.setTop (mkF m pc' ls st)) P) : Ends tb e below (T.setTop (mkF m pc ls (.null :: st))) P := own_via (fun t_ k_ => XS.ifnullYes h hx rfl rfl hd rfl ho hp k_) hr
theorem s_ifnullNo (h : At T m c below) (hx : tb.exec = Jvm.exec) {b : Addr} {o : Int} (hd : decode c.code pc = .ok (.ifnull o, 3))  (hp : pc + 3 = pc') (hr : Ends tb e below (T.setTop (mkF m pc' ls st)) P) : Ends tb e below (T.setTop (mkF m pc ls (.ref b :: st))) P := by
  subst hp
  exact own_via (fun t_ k_ => XS.ifnullNo h hx rfl hd rfl k_) hr
theorem s_ifnonnullYes (h : At T m c below) (hx : tb.exec = Jvm.exec) {b : Addr} {o : Int} (hd : decode c.code pc = .ok (.ifnonnull o, 3))  (ho : 0 ≤ (pc : Int) + o) (hp : ((pc : Int) + o).toNat = pc') (hr : Ends tb e below (T.setTop (mkF m pc' ls st)) P) : Ends tb e below (T.setTop (mkF m pc ls (.ref b :: st))) P := own_via (fun t_ k_ => XS.ifnonnullYes h hx rfl rfl hd rfl ho hp k_) hr
theorem s_ifnonnullNo (h : At T m c below) (hx : tb.exec = Jvm.exec)  {o : Int} (hd : decode c.code pc = .ok (.ifnonnull o, 3))  (hp : pc + 3 = pc') (hr : Ends tb e below (T.setTop (mkF m pc' ls st)) P) : Ends tb e below (T.setTop (mkF m pc ls (.null :: st))) P := by
  subst hp
  exact own_via (fun t_ k_ => XS.ifnonnullNo h hx rfl hd rfl k_) hr
end OwnSteps
section OwnLaws
variable {p : Program} {l : Launch} {e : Env} {R : Room} {s : State} {m : MethodId} {args : Array Value} {below : List Frame} {meth : Method} {c : Code} {T : State} {locs : List Loc} {cells slots : Nat} {Z : State} {a0 : Array Value} {h : Heap} {P : State → Outcome → Prop} {pc pc' : Nat} {ls : Array Slot} {st : List Value}
theorem s_getF (X : Stand p l e R s m args below meth c T locs cells slots) (hx : p.tables.exec = Jvm.exec) (hZ : Z.Warmed39 s.vm) {own R0 O n d host : String} {index : Nat} (hown : s.vm.findClass own = some m.cls) (w : (Jvm.Cond.fieldLink own index R0 n d).before a0 Z = true ∨ (Jvm.Cond.fieldLinkNest own index R0 n d host).before a0 Z = true) (via : Via Z R0 O n d) (eT : T.heap = h) {a : Addr} {v : Value} (F : Fld Z h a O n d v) (hd : decode c.code pc = .ok (.getfield index, 3)) (hp : pc + 3 = pc') (k : ∀ T', Stand p l e R s m args below meth c T' locs cells slots → T'.heap = h → Ends p.tables e below (T'.setTop (mkF m pc' ls (v :: st))) P) : Ends p.tables e below (T.setTop (mkF m pc ls (.ref a :: st))) P := by
  subst hp
  obtain ⟨T', X', e', s'⟩ := getF X hx hZ hown w via eT F (g := mkF m pc ls (.ref a :: st)) rfl rfl hd
  exact own_via s' (k T' X' e')
theorem s_getS (X : Stand p l e R s m args below meth c T locs cells slots) (hx : p.tables.exec = Jvm.exec) (hZ : Z.Warmed39 s.vm) {own R0 O n d host : String} {index : Nat} (hown : s.vm.findClass own = some m.cls) (w : (Jvm.Cond.fieldLink own index R0 n d).before a0 Z = true ∨ (Jvm.Cond.fieldLinkNest own index R0 n d host).before a0 Z = true) (via : Via Z R0 O n d) (eT : T.heap = h) {v : Value} (F : Sta Z h O n d v) (hd : decode c.code pc = .ok (.getstatic index, 3)) (hp : pc + 3 = pc') (k : ∀ T', Stand p l e R s m args below meth c T' locs cells slots → T'.heap = h → Ends p.tables e below (T'.setTop (mkF m pc' ls (v :: st))) P) : Ends p.tables e below (T.setTop (mkF m pc ls st)) P := by
  subst hp
  obtain ⟨T', X', e', s'⟩ := getS2 X hx hZ hown w via eT F (g := mkF m pc ls st) rfl hd
  exact own_via s' (k T' X' e')
theorem s_putF (X : Stand p l e R s m args below meth c T locs cells slots) (hx : p.tables.exec = Jvm.exec) (hZ : Z.Warmed39 s.vm) {own R0 O n d host : String} {index : Nat} (hown : s.vm.findClass own = some m.cls) (w : (Jvm.Cond.fieldLink own index R0 n d).before a0 Z = true ∨ (Jvm.Cond.fieldLinkNest own index R0 n d host).before a0 Z = true) (via : Via Z R0 O n d) (eT : T.heap = h) {C : String} {kk : Nat} {ty : FieldType} {a : Addr} {v old : Value} (F : Fld Z h a O n d old) (E : Exa Z h a C) (L : (Jvm.Cond.lays C O n d).before a0 Z = true ∨ ((Jvm.Cond.laysFinal C O n d).before a0 Z = true ∧ own = O ∧ meth.name = "<init>")) (wi : (Jvm.Cond.instantiable C kk).before a0 Z = true) (hty : parseFieldDescriptor d = some ty) (hn : narrow ty v = v) (hf : fits ty v = true) (hd : decode c.code pc = .ok (.putfield index, 3)) (hp : pc + 3 = pc') (k : ∀ T' h', Stand p l e R s m args below meth c T' (locs ++ [⟨a, Jvm.RoadKit.slotOf Z O n d⟩]) cells slots → T'.heap = h' → Wr h h' a (Jvm.RoadKit.slotOf Z O n d) v → Ends p.tables e below (T'.setTop (mkF m pc' ls st)) P) : Ends p.tables e below (T.setTop (mkF m pc ls (v :: .ref a :: st))) P := by
  subst hp
  obtain ⟨T', h', X', e', W, s'⟩ := putF X hx hZ hown w via eT F E L wi hty hn hf (g := mkF m pc ls (v :: .ref a :: st)) rfl rfl hd
  exact own_via s' (k T' h' X' e' W)
theorem s_putFN (X : Stand p l e R s m args below meth c T locs cells slots) (hx : p.tables.exec = Jvm.exec) (hZ : Z.Warmed39 s.vm) {own R0 O n d : String} {index : Nat} (hown : s.vm.findClass own = some m.cls) (w : (Jvm.Cond.fieldLink own index R0 n d).before a0 Z = true) (via : Via Z R0 O n d) (eT : T.heap = h) {C : String} {kk : Nat} {ty : FieldType} {a : Addr} {v v' old : Value} (F : Fld Z h a O n d old) (E : Exa Z h a C) (L : (Jvm.Cond.lays C O n d).before a0 Z = true ∨ ((Jvm.Cond.laysFinal C O n d).before a0 Z = true ∧ own = O ∧ meth.name = "<init>")) (wi : (Jvm.Cond.instantiable C kk).before a0 Z = true) (hty : parseFieldDescriptor d = some ty) (hn : narrow ty v = v') (hf : fits ty v' = true) (hd : decode c.code pc = .ok (.putfield index, 3)) (hp : pc + 3 = pc') (k : ∀ T' h', Stand p l e R s m args below meth c T' (locs ++ [⟨a, Jvm.RoadKit.slotOf Z O n d⟩]) cells slots → T'.heap = h' → Wr h h' a (Jvm.RoadKit.slotOf Z O n d) v' → Ends p.tables e below (T'.setTop (mkF m pc' ls st)) P) : Ends p.tables e below (T.setTop (mkF m pc ls (v :: .ref a :: st))) P := by
  subst hp
  obtain ⟨T', h', X', e', W, s'⟩ := putFN X hx hZ hown w via eT F E L wi hty hn hf (g := mkF m pc ls (v :: .ref a :: st)) rfl rfl hd
  exact own_via s' (k T' h' X' e' W)
theorem s_newO (X : Stand p l e R s m args below meth c T locs cells slots) (hx : p.tables.exec = Jvm.exec) (hZ : Z.Warmed39 s.vm) {own C : String} {index n : Nat} (hown : s.vm.findClass own = some m.cls) (w : (Jvm.Cond.classLink own index C).before a0 Z = true) (wi : (Jvm.Cond.instantiable C n).before a0 Z = true) (wz : (Jvm.Cond.initialized C).before a0 Z = true) (eT : T.heap = h) (hd : decode c.code pc = .ok (.new index, 3)) (hc : cells + 1 ≤ R.cells) (hl : slots + n ≤ R.slots) (hp : pc + 3 = pc') (k : ∀ T' h', Stand p l e R s m args below meth c T' locs (cells + 1) (slots + n) → T'.heap = h' → Ext h h' → ∀ b, b = h.size → Exa Z h' b C → (∀ {O nm d : String} {ty : FieldType}, Laid Z a0 C O nm d → parseFieldDescriptor d = some ty → Fld Z h' b O nm d (defaultValue ty)) → Ends p.tables e below (T'.setTop (mkF m pc' ls (.ref b :: st))) P) : Ends p.tables e below (T.setTop (mkF m pc ls st)) P := by
  subst hp
  obtain ⟨T', h', X', e', E, A, D, -, s'⟩ := newO X hx hZ hown w wi wz eT (g := mkF m pc ls st) rfl hd hc hl
  exact own_via s' (k T' h' X' e' E _ rfl A D)
theorem s_newP (X : Stand p l e R s m args below meth c T locs cells slots) (hx : p.tables.exec = Jvm.exec) (hZ : Z.Warmed39 s.vm) {aty : ArrayType} (w : (Jvm.Cond.arrayClass (newarray.typeOf aty)).before a0 Z = true) (eT : T.heap = h) (hd : decode c.code pc = .ok (.newarray aty, 2)) {n : Int32} (hn : ¬ n < 0) {cap : Nat} (hcap : n.toNatClampNeg ≤ cap) (hb : cap * 8 ≤ 536870912) (hc : cells + 1 ≤ R.cells) (hl : slots + cap ≤ R.slots) (hp : pc + 2 = pc') (k : ∀ T' h', Stand p l e R s m args below meth c T' locs (cells + 1) (slots + cap) → T'.heap = h' → ∀ cA, Ext h h' → ∀ b, b = h.size → Arr Z h' b (newA cA (newarray.typeOf aty) n) (newarray.typeOf aty) → Ends p.tables e below (T'.setTop (mkF m pc' ls (.ref b :: st))) P) : Ends p.tables e below (T.setTop (mkF m pc ls (.int n :: st))) P := by
  subst hp
  obtain ⟨T', h', cA, X', e', E, A, s'⟩ := newP X hx hZ w eT (g := mkF m pc ls (.int n :: st)) rfl hd rfl hn hcap hb hc hl
  exact own_via s' (k T' h' X' e' cA E _ rfl A)
theorem s_newPE (X : Stand p l e R s m args below meth c T locs cells slots) (hx : p.tables.exec = Jvm.exec) (hZ : Z.Warmed39 s.vm) {aty : ArrayType} (w : (Jvm.Cond.arrayClass (newarray.typeOf aty)).before a0 Z = true) (eT : T.heap = h) (hd : decode c.code pc = .ok (.newarray aty, 2)) {n : Int32} (hn : ¬ n < 0) {cap : Nat} (hcap : n.toNatClampNeg ≤ cap) (hb : cap * 8 ≤ 536870912) (hc : cells + 1 ≤ R.cells) (hl : slots + cap ≤ R.slots) {ad : String} (had : "[" ++ (newarray.typeOf aty).toString = ad) (hp : pc + 2 = pc') (k : ∀ T' h', Stand p l e R s m args below meth c T' locs (cells + 1) (slots + cap) → T'.heap = h' → ∀ cA, Ext h h' → ∀ b, b = h.size → Arr Z h' b (newA cA (newarray.typeOf aty) n) (newarray.typeOf aty) → Exa Z h' b ad → Ends p.tables e below (T'.setTop (mkF m pc' ls (.ref b :: st))) P) : Ends p.tables e below (T.setTop (mkF m pc ls (.int n :: st))) P := by
  subst hp
  obtain ⟨T', h', cA, X', e', E, A, Ex, s'⟩ := newPE X hx hZ w eT (g := mkF m pc ls (.int n :: st)) rfl hd rfl hn hcap hb hc hl had
  exact own_via s' (k T' h' X' e' cA E _ rfl A Ex)
theorem s_newR (X : Stand p l e R s m args below meth c T locs cells slots) (hx : p.tables.exec = Jvm.exec) (hZ : Z.Warmed39 s.vm) {own C : String} {index : Nat} (hown : s.vm.findClass own = some m.cls) (w1 : (Jvm.Cond.classLink own index C).before a0 Z = true) (w2 : (Jvm.Cond.arrayOver (.object C)).before a0 Z = true) (eT : T.heap = h) (hd : decode c.code pc = .ok (.anewarray index, 3)) {n : Int32} (hn : ¬ n < 0) {cap : Nat} (hcap : n.toNatClampNeg ≤ cap) (hb : cap * 8 ≤ 536870912) (hc : cells + 1 ≤ R.cells) (hl : slots + cap ≤ R.slots) (hp : pc + 3 = pc') (k : ∀ T' h', Stand p l e R s m args below meth c T' locs (cells + 1) (slots + cap) → T'.heap = h' → ∀ cA, Ext h h' → ∀ b, b = h.size → Arr Z h' b (newA cA (.object C) n) (.object C) → Ends p.tables e below (T'.setTop (mkF m pc' ls (.ref b :: st))) P) : Ends p.tables e below (T.setTop (mkF m pc ls (.int n :: st))) P := by
  subst hp
  obtain ⟨T', h', cA, X', e', E, A, -, s'⟩ := newR X hx hZ hown w1 w2 eT (g := mkF m pc ls (.int n :: st)) rfl hd rfl hn hcap hb hc hl
  exact own_via s' (k T' h' X' e' cA E _ rfl A)
theorem s_stI (X : Stand p l e R s m args below meth c T locs cells slots) (hx : p.tables.exec = Jvm.exec) (hZ : Z.Warmed39 s.vm) (eT : T.heap = h) {a : Addr} {cl : Cell} (A : Arr Z h a cl .int) {j : Int32} {x : Int32} (hj : ¬ (j < 0 ∨ cl.slots.size ≤ j.toNatClampNeg)) (hd : decode c.code pc = .ok (.iastore, 1)) (hp : pc + 1 = pc') (k : ∀ T' h', Stand p l e R s m args below meth c T' (locs ++ [⟨a, j.toNatClampNeg⟩]) cells slots → T'.heap = h' → Wr h h' a j.toNatClampNeg (.int x) → Ends p.tables e below (T'.setTop (mkF m pc' ls st)) P) : Ends p.tables e below (T.setTop (mkF m pc ls (.int x :: .int j :: .ref a :: st))) P := by
  subst hp
  obtain ⟨T', h', X', e', W, s'⟩ := stI X hx hZ eT A (j := j) hj (g := mkF m pc ls (.int x :: .int j :: .ref a :: st)) rfl rfl hd
  exact own_via s' (k T' h' X' e' W)
theorem s_stJ (X : Stand p l e R s m args below meth c T locs cells slots) (hx : p.tables.exec = Jvm.exec) (hZ : Z.Warmed39 s.vm) (eT : T.heap = h) {a : Addr} {cl : Cell} (A : Arr Z h a cl .long) {j : Int32} {x : Int64} (hj : ¬ (j < 0 ∨ cl.slots.size ≤ j.toNatClampNeg)) (hd : decode c.code pc = .ok (.lastore, 1)) (hp : pc + 1 = pc') (k : ∀ T' h', Stand p l e R s m args below meth c T' (locs ++ [⟨a, j.toNatClampNeg⟩]) cells slots → T'.heap = h' → Wr h h' a j.toNatClampNeg (.long x) → Ends p.tables e below (T'.setTop (mkF m pc' ls st)) P) : Ends p.tables e below (T.setTop (mkF m pc ls (.long x :: .int j :: .ref a :: st))) P := by
  subst hp
  obtain ⟨T', h', X', e', W, s'⟩ := stJ X hx hZ eT A (j := j) hj (g := mkF m pc ls (.long x :: .int j :: .ref a :: st)) rfl rfl hd
  exact own_via s' (k T' h' X' e' W)
theorem s_stC (X : Stand p l e R s m args below meth c T locs cells slots) (hx : p.tables.exec = Jvm.exec) (hZ : Z.Warmed39 s.vm) (eT : T.heap = h) {a : Addr} {cl : Cell} (A : Arr Z h a cl .char) {j : Int32} {x : Int32} (hj : ¬ (j < 0 ∨ cl.slots.size ≤ j.toNatClampNeg)) (hd : decode c.code pc = .ok (.castore, 1)) (hp : pc + 1 = pc') (k : ∀ T' h', Stand p l e R s m args below meth c T' (locs ++ [⟨a, j.toNatClampNeg⟩]) cells slots → T'.heap = h' → Wr h h' a j.toNatClampNeg (.int (nar .char x)) → Ends p.tables e below (T'.setTop (mkF m pc' ls st)) P) : Ends p.tables e below (T.setTop (mkF m pc ls (.int x :: .int j :: .ref a :: st))) P := by
  subst hp
  obtain ⟨T', h', X', e', W, s'⟩ := stC X hx hZ eT A (j := j) hj (g := mkF m pc ls (.int x :: .int j :: .ref a :: st)) rfl rfl hd
  exact own_via s' (k T' h' X' e' W)
theorem s_stB (X : Stand p l e R s m args below meth c T locs cells slots) (hx : p.tables.exec = Jvm.exec) (hZ : Z.Warmed39 s.vm) (eT : T.heap = h) {a : Addr} {cl : Cell} (A : Arr Z h a cl .byte) {j : Int32} {x : Int32} (hj : ¬ (j < 0 ∨ cl.slots.size ≤ j.toNatClampNeg)) (hd : decode c.code pc = .ok (.bastore, 1)) (hp : pc + 1 = pc') (k : ∀ T' h', Stand p l e R s m args below meth c T' (locs ++ [⟨a, j.toNatClampNeg⟩]) cells slots → T'.heap = h' → Wr h h' a j.toNatClampNeg (.int (nar .byte x)) → Ends p.tables e below (T'.setTop (mkF m pc' ls st)) P) : Ends p.tables e below (T.setTop (mkF m pc ls (.int x :: .int j :: .ref a :: st))) P := by
  subst hp
  obtain ⟨T', h', X', e', W, s'⟩ := stB X hx hZ eT A (j := j) hj (g := mkF m pc ls (.int x :: .int j :: .ref a :: st)) rfl rfl hd
  exact own_via s' (k T' h' X' e' W)
theorem s_stN (X : Stand p l e R s m args below meth c T locs cells slots) (hx : p.tables.exec = Jvm.exec) (hZ : Z.Warmed39 s.vm) (eT : T.heap = h) {a : Addr} {cl : Cell} {ty : FieldType} (A : Arr Z h a cl ty) (hr : ty.isReference = true) {j : Int32} (hj : ¬ (j < 0 ∨ cl.slots.size ≤ j.toNatClampNeg)) (hd : decode c.code pc = .ok (.aastore, 1)) (hp : pc + 1 = pc') (k : ∀ T' h', Stand p l e R s m args below meth c T' (locs ++ [⟨a, j.toNatClampNeg⟩]) cells slots → T'.heap = h' → Wr h h' a j.toNatClampNeg .null → Ends p.tables e below (T'.setTop (mkF m pc' ls st)) P) : Ends p.tables e below (T.setTop (mkF m pc ls (.null :: .int j :: .ref a :: st))) P := by
  subst hp
  obtain ⟨T', h', X', e', W, s'⟩ := stR X hx hZ eT A (j := j) hj hr (Or.inl rfl) (g := mkF m pc ls (.null :: .int j :: .ref a :: st)) rfl rfl hd
  exact own_via s' (k T' h' X' e' W)
theorem s_iaload (X : Stand p l e R s m args below meth c T locs cells slots) (hx : p.tables.exec = Jvm.exec) (hZ : Z.Warmed39 s.vm) (eT : T.heap = h) {a : Addr} {k : ClassId} {z : Int32} {vs : List Value} {dv v : Value} {j : Int32} (F : Arv Z h a k .int z vs dv) (hj : ¬ j < 0 ∧ j < z) (hv : vs.getD j.toNatClampNeg dv = v) (hd : decode c.code pc = .ok (.iaload, 1)) (hp : pc + 1 = pc') (hr : Ends p.tables e below (T.setTop (mkF m pc' ls (v :: st))) P) : Ends p.tables e below (T.setTop (mkF m pc ls (.int j :: .ref a :: st))) P := by
  subst hp
  obtain ⟨cl, A, -, S, M, H, -⟩ := F
  have hin := inb_of S hj
  exact own_via (X.iaload hx (j := j) (v := v) (by rw [eT]; exact A.1) (State.isArrayOf_alike hZ.alike A.2.1) A.2.2 hin (H.at hin hv) (g := mkF m pc ls (.int j :: .ref a :: st)) rfl rfl hd) hr
theorem s_laload (X : Stand p l e R s m args below meth c T locs cells slots) (hx : p.tables.exec = Jvm.exec) (hZ : Z.Warmed39 s.vm) (eT : T.heap = h) {a : Addr} {k : ClassId} {z : Int32} {vs : List Value} {dv v : Value} {j : Int32} (F : Arv Z h a k .long z vs dv) (hj : ¬ j < 0 ∧ j < z) (hv : vs.getD j.toNatClampNeg dv = v) (hd : decode c.code pc = .ok (.laload, 1)) (hp : pc + 1 = pc') (hr : Ends p.tables e below (T.setTop (mkF m pc' ls (v :: st))) P) : Ends p.tables e below (T.setTop (mkF m pc ls (.int j :: .ref a :: st))) P := by
  subst hp
  obtain ⟨cl, A, -, S, M, H, -⟩ := F
  have hin := inb_of S hj
  exact own_via (X.laload hx (j := j) (v := v) (by rw [eT]; exact A.1) (State.isArrayOf_alike hZ.alike A.2.1) A.2.2 hin (H.at hin hv) (g := mkF m pc ls (.int j :: .ref a :: st)) rfl rfl hd) hr
theorem s_caload (X : Stand p l e R s m args below meth c T locs cells slots) (hx : p.tables.exec = Jvm.exec) (hZ : Z.Warmed39 s.vm) (eT : T.heap = h) {a : Addr} {k : ClassId} {z : Int32} {vs : List Value} {dv v : Value} {j : Int32} (F : Arv Z h a k .char z vs dv) (hj : ¬ j < 0 ∧ j < z) (hv : vs.getD j.toNatClampNeg dv = v) (hd : decode c.code pc = .ok (.caload, 1)) (hp : pc + 1 = pc') (hr : Ends p.tables e below (T.setTop (mkF m pc' ls (v :: st))) P) : Ends p.tables e below (T.setTop (mkF m pc ls (.int j :: .ref a :: st))) P := by
  subst hp
  obtain ⟨cl, A, -, S, M, H, -⟩ := F
  have hin := inb_of S hj
  exact own_via (X.caload hx (j := j) (v := v) (by rw [eT]; exact A.1) (State.isArrayOf_alike hZ.alike A.2.1) A.2.2 hin (H.at hin hv) (g := mkF m pc ls (.int j :: .ref a :: st)) rfl rfl hd) hr
theorem s_baload (X : Stand p l e R s m args below meth c T locs cells slots) (hx : p.tables.exec = Jvm.exec) (hZ : Z.Warmed39 s.vm) (eT : T.heap = h) {a : Addr} {k : ClassId} {z : Int32} {vs : List Value} {dv v : Value} {j : Int32} (F : Arv Z h a k .byte z vs dv) (hj : ¬ j < 0 ∧ j < z) (hv : vs.getD j.toNatClampNeg dv = v) (hd : decode c.code pc = .ok (.baload, 1)) (hp : pc + 1 = pc') (hr : Ends p.tables e below (T.setTop (mkF m pc' ls (v :: st))) P) : Ends p.tables e below (T.setTop (mkF m pc ls (.int j :: .ref a :: st))) P := by
  subst hp
  obtain ⟨cl, A, -, S, M, H, -⟩ := F
  have hin := inb_of S hj
  exact own_via (X.baloadBytes hx (j := j) (v := v) (by rw [eT]; exact A.1) (State.isArrayOf_alike hZ.alike A.2.1) A.2.2 hin (H.at hin hv) (g := mkF m pc ls (.int j :: .ref a :: st)) rfl rfl hd) hr
theorem s_arraylength (X : Stand p l e R s m args below meth c T locs cells slots) (hx : p.tables.exec = Jvm.exec) (hZ : Z.Warmed39 s.vm) (eT : T.heap = h) {a : Addr} {k : ClassId} {ty : FieldType} {z : Int32} {vs : List Value} {dv : Value} (F : Arv Z h a k ty z vs dv) (hd : decode c.code pc = .ok (.arraylength, 1)) (hp : pc + 1 = pc') (hr : Ends p.tables e below (T.setTop (mkF m pc' ls (.int z :: st))) P) : Ends p.tables e below (T.setTop (mkF m pc ls (.ref a :: st))) P := by
  subst hp
  obtain ⟨cl, A, -, S, M, H, -⟩ := F
  refine own_via (X.arraylength hx (by rw [eT]; exact A.1) (State.isArrayOf_alike hZ.alike A.2.1) (g := mkF m pc ls (.ref a :: st)) rfl rfl hd) ?_
  rw [len_of S M]
  exact hr
theorem own_set {a : Addr} {k : ClassId} {ty : FieldType} {z : Int32} {vs : List Value} {dv v : Value} {j : Int32} {cl : Cell} {h' : Heap} (F : ∃ c : Cell, c = cl ∧ Arr Z h a c ty ∧ c.cls = k ∧ c.slots.size = z.toNatClampNeg ∧ ¬ z < 0 ∧ Has c vs dv ∧ ∀ i, i < c.slots.size → fits ty (vs.getD i dv) = true) (hv : fits ty v = true) (W : Wr h h' a j.toNatClampNeg v) (i : Nat) (hj : j.toNatClampNeg = i) (hi : i < vs.length) : Arv Z h' a k ty z (vs.set i v) dv := by
  obtain ⟨c, rfl, A, q1, S, M, H, G⟩ := F
  exact Arv.set A q1 S M H G hv W i hj hi
theorem s_putI (X : Stand p l e R s m args below meth c T locs cells slots) (hx : p.tables.exec = Jvm.exec) (hZ : Z.Warmed39 s.vm) (eT : T.heap = h) {a : Addr} {k : ClassId} {z : Int32} {vs : List Value} {dv : Value} {j : Int32} {x : Int32} (F : Arv Z h a k .int z vs dv) (hj : ¬ j < 0 ∧ j < z) (i : Nat) (hi : j.toNatClampNeg = i) (hl : i < vs.length) (hd : decode c.code pc = .ok (.iastore, 1)) (hp : pc + 1 = pc') (kk : ∀ T' h', Stand p l e R s m args below meth c T' (locs ++ [⟨a, j.toNatClampNeg⟩]) cells slots → T'.heap = h' → Wr h h' a j.toNatClampNeg (.int x) → Arv Z h' a k .int z (vs.set i (.int x)) dv → Ends p.tables e below (T'.setTop (mkF m pc' ls st)) P) : Ends p.tables e below (T.setTop (mkF m pc ls (.int x :: .int j :: .ref a :: st))) P := by
  obtain ⟨cl, A, q1, S, M, H, G⟩ := F
  exact s_stI X hx hZ eT A (inb_of S hj) hd hp fun T' h' X' e' W => kk T' h' X' e' W (Arv.set A q1 S M H G rfl W i hi hl)
theorem s_putJ (X : Stand p l e R s m args below meth c T locs cells slots) (hx : p.tables.exec = Jvm.exec) (hZ : Z.Warmed39 s.vm) (eT : T.heap = h) {a : Addr} {k : ClassId} {z : Int32} {vs : List Value} {dv : Value} {j : Int32} {x : Int64} (F : Arv Z h a k .long z vs dv) (hj : ¬ j < 0 ∧ j < z) (i : Nat) (hi : j.toNatClampNeg = i) (hl : i < vs.length) (hd : decode c.code pc = .ok (.lastore, 1)) (hp : pc + 1 = pc') (kk : ∀ T' h', Stand p l e R s m args below meth c T' (locs ++ [⟨a, j.toNatClampNeg⟩]) cells slots → T'.heap = h' → Wr h h' a j.toNatClampNeg (.long x) → Arv Z h' a k .long z (vs.set i (.long x)) dv → Ends p.tables e below (T'.setTop (mkF m pc' ls st)) P) : Ends p.tables e below (T.setTop (mkF m pc ls (.long x :: .int j :: .ref a :: st))) P := by
  obtain ⟨cl, A, q1, S, M, H, G⟩ := F
  exact s_stJ X hx hZ eT A (inb_of S hj) hd hp fun T' h' X' e' W => kk T' h' X' e' W (Arv.set A q1 S M H G rfl W i hi hl)
theorem s_putC (X : Stand p l e R s m args below meth c T locs cells slots) (hx : p.tables.exec = Jvm.exec) (hZ : Z.Warmed39 s.vm) (eT : T.heap = h) {a : Addr} {k : ClassId} {z : Int32} {vs : List Value} {dv : Value} {j : Int32} {x : Int32} (F : Arv Z h a k .char z vs dv) (hj : ¬ j < 0 ∧ j < z) (i : Nat) (hi : j.toNatClampNeg = i) (hl : i < vs.length) (hd : decode c.code pc = .ok (.castore, 1)) (hp : pc + 1 = pc') (kk : ∀ T' h', Stand p l e R s m args below meth c T' (locs ++ [⟨a, j.toNatClampNeg⟩]) cells slots → T'.heap = h' → Wr h h' a j.toNatClampNeg (.int (nar .char x)) → Arv Z h' a k .char z (vs.set i (.int (nar .char x))) dv → Ends p.tables e below (T'.setTop (mkF m pc' ls st)) P) : Ends p.tables e below (T.setTop (mkF m pc ls (.int x :: .int j :: .ref a :: st))) P := by
  obtain ⟨cl, A, q1, S, M, H, G⟩ := F
  exact s_stC X hx hZ eT A (inb_of S hj) hd hp fun T' h' X' e' W => kk T' h' X' e' W (Arv.set A q1 S M H G (fits_nar_char _) W i hi hl)
theorem s_putB (X : Stand p l e R s m args below meth c T locs cells slots) (hx : p.tables.exec = Jvm.exec) (hZ : Z.Warmed39 s.vm) (eT : T.heap = h) {a : Addr} {k : ClassId} {z : Int32} {vs : List Value} {dv : Value} {j : Int32} {x : Int32} (F : Arv Z h a k .byte z vs dv) (hj : ¬ j < 0 ∧ j < z) (i : Nat) (hi : j.toNatClampNeg = i) (hl : i < vs.length) (hd : decode c.code pc = .ok (.bastore, 1)) (hp : pc + 1 = pc') (kk : ∀ T' h', Stand p l e R s m args below meth c T' (locs ++ [⟨a, j.toNatClampNeg⟩]) cells slots → T'.heap = h' → Wr h h' a j.toNatClampNeg (.int (nar .byte x)) → Arv Z h' a k .byte z (vs.set i (.int (nar .byte x))) dv → Ends p.tables e below (T'.setTop (mkF m pc' ls st)) P) : Ends p.tables e below (T.setTop (mkF m pc ls (.int x :: .int j :: .ref a :: st))) P := by
  obtain ⟨cl, A, q1, S, M, H, G⟩ := F
  exact s_stB X hx hZ eT A (inb_of S hj) hd hp fun T' h' X' e' W => kk T' h' X' e' W (Arv.set A q1 S M H G (fits_nar_byte _) W i hi hl)
theorem s_initO (X : Stand p l e R s m args below meth c T locs cells slots) (hx : p.tables.exec = Jvm.exec) (hZ : Z.Warmed39 s.vm) {own : String} {idx : Nat} (hown : s.vm.findClass own = some m.cls) (w1 : (Jvm.Cond.methodLink own idx Lib.objectInit).before a0 Z = true) (w2 : (Jvm.Cond.instanceMethod Lib.objectInit).before a0 Z = true) (w3 : (Jvm.Cond.code Lib.objectInit ⟨#[0xb1]⟩ 1 none).before a0 Z = true) (eT : T.heap = h) (hsize : ls.size = c.maxLocals) {a : Addr} (hd : decode c.code pc = .ok (.invokespecial idx, 3)) (hf : 1 ≤ R.frames) {W : Nat} (hW : (st.map fun v => v.category).sum ≤ W) (hl : W + 12 ≤ R.locals) (hp : pc + 3 = pc') (k : ∀ T', Stand p l e R s m args below meth c T' locs cells slots → T'.heap = h → Ends p.tables e below (T'.setTop (mkF m pc' ls st)) P) : Ends p.tables e below (T.setTop (mkF m pc ls (.ref a :: st))) P := by
  subst hp
  obtain ⟨T', X', e', s'⟩ := initO X hx hZ hown w1 w2 w3 eT (g := mkF m pc ls (.ref a :: st)) rfl hsize rfl hd hf (W := W) (by show 2 * 0 + _ ≤ _; omega) hl
  exact own_via s' (k T' X' e')
theorem s_castY (X : Stand p l e R s m args below meth c T locs cells slots) (hx : p.tables.exec = Jvm.exec) (hZ : Z.Warmed39 s.vm) {own K : String} {index : Nat} (hown : s.vm.findClass own = some m.cls) (w : (Jvm.Cond.classLink own index K).before a0 Z = true) (eT : T.heap = h) {a : Addr} (F : Ins Z h a K true) (hd : decode c.code pc = .ok (.checkcast index, 3)) (hp : pc + 3 = pc') (k : ∀ T', Stand p l e R s m args below meth c T' locs cells slots → T'.heap = h → Ends p.tables e below (T'.setTop (mkF m pc' ls (.ref a :: st))) P) : Ends p.tables e below (T.setTop (mkF m pc ls (.ref a :: st))) P := by
  subst hp
  obtain ⟨T', X', e', s'⟩ := castY X hx hZ hown w eT F (g := mkF m pc ls (.ref a :: st)) rfl rfl hd
  exact own_via s' (k T' X' e')
theorem s_instY (X : Stand p l e R s m args below meth c T locs cells slots) (hx : p.tables.exec = Jvm.exec) (hZ : Z.Warmed39 s.vm) {own K : String} {index : Nat} (hown : s.vm.findClass own = some m.cls) (w : (Jvm.Cond.classLink own index K).before a0 Z = true) (eT : T.heap = h) {a : Addr} (F : Ins Z h a K true) (hd : decode c.code pc = .ok (.instanceof index, 3)) (hp : pc + 3 = pc') (k : ∀ T', Stand p l e R s m args below meth c T' locs cells slots → T'.heap = h → Ends p.tables e below (T'.setTop (mkF m pc' ls (.int 1 :: st))) P) : Ends p.tables e below (T.setTop (mkF m pc ls (.ref a :: st))) P := by
  subst hp
  obtain ⟨T', X', e', s'⟩ := instY X hx hZ hown w eT F (g := mkF m pc ls (.ref a :: st)) rfl rfl hd
  exact own_via s' (k T' X' e')
theorem s_callS (X : Stand p l e R s m args below meth c T locs cells slots) (hx : p.tables.exec = Jvm.exec) (hZ : Z.Warmed39 s.vm) {y : MethodName} {bytes : ByteArray} {maxL : Nat} {ret : Option FieldType} {rm : Room} {W : Nat} {as' : Array Value} {Q : Option Value → Heap → List Loc → Prop} {own : String} {index : Nat} (hown : s.vm.findClass own = some m.cls) (w1 : (Jvm.Cond.methodLink own index y).before a0 Z = true) (w2 : (Jvm.Cond.static y).before a0 Z = true) (w3 : (Jvm.Cond.initialized y.cls).before a0 Z = true) (w4 : (Jvm.Cond.code y bytes maxL ret).before a0 Z = true) (hy : y.cls ≠ "java/lang/invoke/MethodHandle" ∧ y.cls ≠ "java/lang/invoke/VarHandle") (eT : T.heap = h) (hM : MetFree l y (head1 [Jvm.Cond.code y bytes maxL ret] rm) (fun a U => a = as' ∧ Z.Warmed39 U.vm ∧ U.heap = h) (fun _ _ _ _ _ => True) (fun _ U o U' => ∃ v L, o = .returned v ∧ Q v U'.heap L ∧ FrameEnd U o U' L rm.cells rm.slots)) (hsize : ls.size = c.maxLocals) (argsL rest : List Value) (has : as' = argsL.toArray) (hlen : ∀ sig, parseMethodDescriptor y.desc = some sig → argsL.length = sig.parameters.length) (hstack : st = argsL.reverse ++ rest) (hW : (rest.map fun v => v.category).sum ≤ W) (hf : rm.frames + 1 ≤ R.frames) (hl : W + (maxL + 11) + rm.locals ≤ R.locals) (hce : cells + rm.cells ≤ R.cells) (hsl : slots + rm.slots ≤ R.slots) (hp : pc + 3 = pc') (hd : decode c.code pc = .ok (.invokestatic index, 3)) (k : ∀ T' v L, Stand p l e R s m args below meth c T' (locs ++ L) (cells + rm.cells) (slots + rm.slots) → Q v T'.heap L → Ends p.tables e below (T'.setTop (mkF m pc' ls (v.toList ++ rest))) P) : Ends p.tables e below (T.setTop (mkF m pc ls st)) P := by
  subst hp has hstack
  obtain ⟨v, _, ⟨T', _, _, _⟩, -, X', ⟨L, hQ, e1, e2, e3⟩, s'⟩ := Jvm.LawKit.callS X hx (y := y) hown (mvT hZ w1) (mvT hZ w2) (mvT hZ w3) (mvT hZ w4) hy (backOf (W := W) hM hZ w4 w3 hf hl) (g := mkF m pc ls (argsL.reverse ++ rest)) rfl hsize (argsL := argsL) (rest := rest) hlen rfl (by show 2 * 0 + _ ≤ _; omega) hd (fun _ _ => ⟨rfl, eT, hce, hsl⟩)
  dsimp only [Pt.U, Pt.locs, Pt.cells, Pt.slots] at X' e1 e2 e3 s' hQ
  subst e1 e2 e3
  exact own_via s' (k T' v L X' hQ)
theorem s_callI (X : Stand p l e R s m args below meth c T locs cells slots) (hx : p.tables.exec = Jvm.exec) (hZ : Z.Warmed39 s.vm) {y : MethodName} {bytes : ByteArray} {maxL : Nat} {rm : Room} {W : Nat} {as' : Array Value} {Q : Option Value → Heap → List Loc → Prop} {own : String} {index : Nat} (hy1 : y.name = "<init>") (hown : s.vm.findClass own = some m.cls) (w1 : (Jvm.Cond.methodLink own index y).before a0 Z = true) (w2 : (Jvm.Cond.instanceMethod y).before a0 Z = true) (w3 : (Jvm.Cond.initialized y.cls).before a0 Z = true) (w4 : (Jvm.Cond.code y bytes maxL none).before a0 Z = true) (hy : y.cls ≠ "java/lang/invoke/MethodHandle" ∧ y.cls ≠ "java/lang/invoke/VarHandle") (eT : T.heap = h) (hM : MetFree l y (head1 [Jvm.Cond.code y bytes maxL none] rm) (fun a U => a = as' ∧ Z.Warmed39 U.vm ∧ U.heap = h) (fun _ _ _ _ _ => True) (fun _ U o U' => ∃ v L, o = .returned v ∧ Q v U'.heap L ∧ FrameEnd U o U' L rm.cells rm.slots)) (a : Addr) (hsize : ls.size = c.maxLocals) (argsL rest : List Value) (has : as' = (.ref a :: argsL).toArray) (hlen : ∀ sig, parseMethodDescriptor y.desc = some sig → argsL.length = sig.parameters.length) (hstack : st = argsL.reverse ++ .ref a :: rest) (hW : (rest.map fun v => v.category).sum ≤ W) (hf : rm.frames + 1 ≤ R.frames) (hl : W + (maxL + 11) + rm.locals ≤ R.locals) (hce : cells + rm.cells ≤ R.cells) (hsl : slots + rm.slots ≤ R.slots) (hp : pc + 3 = pc') (hd : decode c.code pc = .ok (.invokespecial index, 3)) (k : ∀ T' v L, Stand p l e R s m args below meth c T' (locs ++ L) (cells + rm.cells) (slots + rm.slots) → Q v T'.heap L → Ends p.tables e below (T'.setTop (mkF m pc' ls (v.toList ++ rest))) P) : Ends p.tables e below (T.setTop (mkF m pc ls st)) P := by
  subst hp has hstack
  obtain ⟨v, _, ⟨T', _, _, _⟩, -, X', ⟨L, hQ, e1, e2, e3⟩, s'⟩ := X.specialBack hx (y := y) hy1 hown (mvT hZ w1) (mvT hZ w2) (mvT hZ w4) hy (backOf (W := W) hM hZ w4 w3 hf hl) (g := mkF m pc ls (argsL.reverse ++ .ref a :: rest)) rfl hsize (Steps.refl _) (a := a) (argsL := argsL) (rest := rest) hlen rfl (by show 2 * 0 + _ ≤ _; omega) hd (fun _ _ => ⟨rfl, eT, hce, hsl⟩)
  dsimp only [Pt.U, Pt.locs, Pt.cells, Pt.slots] at X' e1 e2 e3 s' hQ
  subst e1 e2 e3
  exact own_via (fun t_ k_ => s'.trans k_) (k T' v L X' hQ)
theorem s_callV (X : Stand p l e R s m args below meth c T locs cells slots) (hx : p.tables.exec = Jvm.exec) (hZ : Z.Warmed39 s.vm) {y : MethodName} {bytes : ByteArray} {maxL : Nat} {ret : Option FieldType} {rm : Room} {W : Nat} {as' : Array Value} {Q : Option Value → Heap → List Loc → Prop} {a : Addr} {own C : String} {index : Nat} (hown : s.vm.findClass own = some m.cls) (w1 : (Jvm.Cond.methodLink own index y).before a0 Z = true) (w2 : (Jvm.Cond.declares y).before a0 Z = true) (w3 : (Jvm.Cond.initialized y.cls).before a0 Z = true) (w4 : (Jvm.Cond.code y bytes maxL ret).before a0 Z = true) (w5 : (Jvm.Cond.selects C y y).before a0 Z = true) (w6 : (Jvm.Cond.instanceMethod y).before a0 Z = true) (hy : y.cls ≠ "java/lang/invoke/MethodHandle" ∧ y.cls ≠ "java/lang/invoke/VarHandle") (eT : T.heap = h) (E : Exa Z h a C) (hM : MetFree l y (head1 [Jvm.Cond.code y bytes maxL ret] rm) (fun a U => a = as' ∧ Z.Warmed39 U.vm ∧ U.heap = h) (fun _ _ _ _ _ => True) (fun _ U o U' => ∃ v L, o = .returned v ∧ Q v U'.heap L ∧ FrameEnd U o U' L rm.cells rm.slots)) (hsize : ls.size = c.maxLocals) (argsL rest : List Value) (has : as' = (.ref a :: argsL).toArray) (hlen : ∀ sig, parseMethodDescriptor y.desc = some sig → argsL.length = sig.parameters.length) (hstack : st = argsL.reverse ++ .ref a :: rest) (hW : (rest.map fun v => v.category).sum ≤ W) (hf : rm.frames + 1 ≤ R.frames) (hl : W + (maxL + 11) + rm.locals ≤ R.locals) (hce : cells + rm.cells ≤ R.cells) (hsl : slots + rm.slots ≤ R.slots) (hp : pc + 3 = pc') (hd : decode c.code pc = .ok (.invokevirtual index, 3)) (k : ∀ T' v L, Stand p l e R s m args below meth c T' (locs ++ L) (cells + rm.cells) (slots + rm.slots) → Q v T'.heap L → Ends p.tables e below (T'.setTop (mkF m pc' ls (v.toList ++ rest))) P) : Ends p.tables e below (T.setTop (mkF m pc ls st)) P := by
  subst hp has hstack
  obtain ⟨cq, kq, qa, qb, qc⟩ := isOf hZ eT E
  obtain ⟨v, _, ⟨T', _, _, _⟩, -, X', ⟨L, hQ, e1, e2, e3⟩, s'⟩ := X.virtualBack hx (y := y) (z := y) hown (mvT hZ w1) (mvT hZ w2) (notFace_of_selects (args := #[]) (mvT hZ w5)) (mvT hZ w5) (mvT hZ w6) hy (backOf (W := W) hM hZ w4 w3 hf hl) qa qc (g := mkF m pc ls (argsL.reverse ++ .ref a :: rest)) rfl hsize (Steps.refl _) (argsL := argsL) (rest := rest) hlen rfl (by show 2 * 0 + _ ≤ _; omega) hd (fun _ _ => ⟨rfl, eT, hce, hsl⟩)
  dsimp only [Pt.U, Pt.locs, Pt.cells, Pt.slots] at X' e1 e2 e3 s' hQ
  subst e1 e2 e3
  exact own_via (fun t_ k_ => s'.trans k_) (k T' v L X' hQ)
theorem s_callP (X : Stand p l e R s m args below meth c T locs cells slots) (hx : p.tables.exec = Jvm.exec) (hZ : Z.Warmed39 s.vm) {y : MethodName} {bytes : ByteArray} {maxL : Nat} {ret : Option FieldType} {rm : Room} {W : Nat} {as' : Array Value} {Q : Option Value → Heap → List Loc → Prop} {a : Addr} {own C : String} {index : Nat} {zz : MethodName} (hzz : zz.cls = y.cls) (hown : s.vm.findClass own = some m.cls) (w1 : (Jvm.Cond.methodLink own index y).before a0 Z = true) (w2 : (Jvm.Cond.privateMethod y).before a0 Z = true) (w3 : (Jvm.Cond.initialized y.cls).before a0 Z = true) (w4 : (Jvm.Cond.code y bytes maxL ret).before a0 Z = true) (w5 : (Jvm.Cond.selects zz.cls zz zz).before a0 Z = true) (w6 : (Jvm.Cond.instanceMethod y).before a0 Z = true) (hy : y.cls ≠ "java/lang/invoke/MethodHandle" ∧ y.cls ≠ "java/lang/invoke/VarHandle") (eT : T.heap = h) (E : Exa Z h a C) (hM : MetFree l y (head1 [Jvm.Cond.code y bytes maxL ret] rm) (fun a U => a = as' ∧ Z.Warmed39 U.vm ∧ U.heap = h) (fun _ _ _ _ _ => True) (fun _ U o U' => ∃ v L, o = .returned v ∧ Q v U'.heap L ∧ FrameEnd U o U' L rm.cells rm.slots)) (hsize : ls.size = c.maxLocals) (argsL rest : List Value) (has : as' = (.ref a :: argsL).toArray) (hlen : ∀ sig, parseMethodDescriptor y.desc = some sig → argsL.length = sig.parameters.length) (hstack : st = argsL.reverse ++ .ref a :: rest) (hW : (rest.map fun v => v.category).sum ≤ W) (hf : rm.frames + 1 ≤ R.frames) (hl : W + (maxL + 11) + rm.locals ≤ R.locals) (hce : cells + rm.cells ≤ R.cells) (hsl : slots + rm.slots ≤ R.slots) (hp : pc + 3 = pc') (hd : decode c.code pc = .ok (.invokevirtual index, 3)) (k : ∀ T' v L, Stand p l e R s m args below meth c T' (locs ++ L) (cells + rm.cells) (slots + rm.slots) → Q v T'.heap L → Ends p.tables e below (T'.setTop (mkF m pc' ls (v.toList ++ rest))) P) : Ends p.tables e below (T.setTop (mkF m pc ls st)) P := by
  subst hp has hstack
  obtain ⟨cq, qa, qb⟩ := E.cell
  have hpr := Cond.privateMethod_at (mvP hZ w2 (args := #[]))
  obtain ⟨v, _, ⟨T', _, _, _⟩, -, X', ⟨L, hQ, e1, e2, e3⟩, s'⟩ := X.privateBack hx (y := y) hown (mvT hZ w1) (mvT hZ w6) (own_selPriv hzz (mvT hZ w5) hpr (mvT hZ w6) hy) hpr (mvT hZ w4) hy (backOf (W := W) hM hZ w4 w3 hf hl) (g := mkF m pc ls (argsL.reverse ++ .ref a :: rest)) rfl hsize (Steps.refl _) (a := a) (by rw [eT]; exact qa) qb (argsL := argsL) (rest := rest) hlen rfl (by show 2 * 0 + _ ≤ _; omega) hd (fun _ _ => ⟨rfl, eT, hce, hsl⟩)
  dsimp only [Pt.U, Pt.locs, Pt.cells, Pt.slots] at X' e1 e2 e3 s' hQ
  subst e1 e2 e3
  exact own_via (fun t_ k_ => s'.trans k_) (k T' v L X' hQ)
theorem s_irem (X : Stand p l e R s m args below meth c T locs cells slots) (hx : p.tables.exec = Jvm.exec) {x y : Int32} (hd : decode c.code pc = .ok (.irem, 1)) (hy : y ≠ 0) (hp : pc + 1 = pc') (hr : Ends p.tables e below (T.setTop (mkF m pc' ls (.int (x % y) :: st))) P) : Ends p.tables e below (T.setTop (mkF m pc ls (.int y :: .int x :: st))) P := by
  subst hp
  exact own_via (fun t_ k_ => iremM X hx rfl hd rfl hy k_) hr
theorem s_ldcI (X : Stand p l e R s m args below meth c T locs cells slots) (hx : p.tables.exec = Jvm.exec) (hZ : Z.Warmed39 s.vm) {own : String} {index : Nat} {v : Int32} (hown : s.vm.findClass own = some m.cls) (w : (Jvm.Cond.constant own index v).before a0 Z = true) (hd : decode c.code pc = .ok (.ldc index, 2)) (hp : pc + 2 = pc') (hr : Ends p.tables e below (T.setTop (mkF m pc' ls (.int v :: st))) P) : Ends p.tables e below (T.setTop (mkF m pc ls st)) P := by
  subst hp
  exact own_via (X.ldcInt hx hown (mvT hZ w) (g := mkF m pc ls st) rfl hd) hr
theorem s_ldcJ (X : Stand p l e R s m args below meth c T locs cells slots) (hx : p.tables.exec = Jvm.exec) (hZ : Z.Warmed39 s.vm) {own : String} {index : Nat} {v : Int64} (hown : s.vm.findClass own = some m.cls) (w : (Jvm.Cond.constantLong own index v).before a0 Z = true) (hd : decode c.code pc = .ok (.ldc2_w index, 3)) (hp : pc + 3 = pc') (hr : Ends p.tables e below (T.setTop (mkF m pc' ls (.long v :: st))) P) : Ends p.tables e below (T.setTop (mkF m pc ls st)) P := by
  subst hp
  exact own_via (X.ldc2Long hx hown (mvT hZ w) (g := mkF m pc ls st) rfl hd) hr
theorem s_callSS {vm0 : Vm} (X : Stand p l e R (s.setVm vm0) m args below meth c T locs cells slots) (hx : p.tables.exec = Jvm.exec) (hZ : Z.Warmed39 (s.setVm vm0).vm) {k0 : Nat} (hS : s.Since vm0 k0) (hk : k0 ≤ h.size) {y : MethodName} {bytes : ByteArray} {maxL : Nat} {ret : Option FieldType} {rm : Room} {W : Nat} {as' : Array Value} {Q : Option Value → Heap → List Loc → Prop} {own : String} {index : Nat} (hown : (s.setVm vm0).vm.findClass own = some m.cls) (w1 : (Jvm.Cond.methodLink own index y).before a0 Z = true) (w2 : (Jvm.Cond.static y).before a0 Z = true) (w3 : (Jvm.Cond.initialized y.cls).before a0 Z = true) (w4 : (Jvm.Cond.code y bytes maxL ret).before a0 Z = true) (hy : y.cls ≠ "java/lang/invoke/MethodHandle" ∧ y.cls ≠ "java/lang/invoke/VarHandle") (eT : T.heap = h) (hM : MetFree l y (head1 [Jvm.Cond.code y bytes maxL ret] rm) (fun a U => a = as' ∧ Z.Warmed39 U.vm ∧ U.heap = h) (fun _ _ _ _ _ => True) (fun _ U o U' => ∃ v L, o = .returned v ∧ Q v U'.heap L ∧ ReturnedEndW U o U' L rm.cells rm.slots)) (hsize : ls.size = c.maxLocals) (argsL rest : List Value) (has : as' = argsL.toArray) (hlen : ∀ sig, parseMethodDescriptor y.desc = some sig → argsL.length = sig.parameters.length) (hstack : st = argsL.reverse ++ rest) (hW : (rest.map fun v => v.category).sum ≤ W) (hf : rm.frames + 1 ≤ R.frames) (hl : W + (maxL + 11) + rm.locals ≤ R.locals) (hce : cells + rm.cells ≤ R.cells) (hsl : slots + rm.slots ≤ R.slots) (hp : pc + 3 = pc') (hd : decode c.code pc = .ok (.invokestatic index, 3)) (k : ∀ T' v L, Stand p l e R (s.setVm T'.vm) m args below meth c T' (locs ++ L) (cells + rm.cells) (slots + rm.slots) → s.Since T'.vm T'.heap.size → Z.Warmed39 (s.setVm T'.vm).vm → (s.setVm T'.vm).vm.findClass own = some m.cls → Q v T'.heap L → Ends p.tables e below (T'.setTop (mkF m pc' ls (v.toList ++ rest))) P) : Ends p.tables e below (T.setTop (mkF m pc ls st)) P := by
  subst hp has hstack
  obtain ⟨v, _, ⟨T', _, _, _⟩, -, X', S', g', ⟨L, hQ, e1, e2, e3⟩, s'⟩ := callSS X hx (y := y) hown (mvT hZ w1) (mvT hZ w2) (mvT hZ w3) (mvT hZ w4) hy (backOfS (W := W) hM hZ w4 w3 hf hl) (g := mkF m pc ls (argsL.reverse ++ rest)) rfl hsize (argsL := argsL) (rest := rest) hlen rfl (by show 2 * 0 + _ ≤ _; omega) hd (fun _ _ => ⟨rfl, eT, hce, hsl⟩)
  dsimp only [Pt.U, Pt.locs, Pt.cells, Pt.slots] at X' S' g' e1 e2 e3 s' hQ
  subst e1 e2 e3
  obtain ⟨X2, S2, Z2, o2⟩ := rebS hS (show _ ≤ T.heap.size by rw [eT]; exact hk) X' S' g' hZ hown
  exact own_via (fun t_ k_ => s'.trans k_) (k T' v L X2 S2 Z2 o2 hQ)
theorem s_callIS {vm0 : Vm} (X : Stand p l e R (s.setVm vm0) m args below meth c T locs cells slots) (hx : p.tables.exec = Jvm.exec) (hZ : Z.Warmed39 (s.setVm vm0).vm) {k0 : Nat} (hS : s.Since vm0 k0) (hk : k0 ≤ h.size) {y : MethodName} {bytes : ByteArray} {maxL : Nat} {rm : Room} {W : Nat} {as' : Array Value} {Q : Option Value → Heap → List Loc → Prop} {own : String} {index : Nat} (hown : (s.setVm vm0).vm.findClass own = some m.cls) (hy1 : y.name = "<init>") (w1 : (Jvm.Cond.methodLink own index y).before a0 Z = true) (w2 : (Jvm.Cond.instanceMethod y).before a0 Z = true) (w3 : (Jvm.Cond.initialized y.cls).before a0 Z = true) (w4 : (Jvm.Cond.code y bytes maxL none).before a0 Z = true) (hy : y.cls ≠ "java/lang/invoke/MethodHandle" ∧ y.cls ≠ "java/lang/invoke/VarHandle") (eT : T.heap = h) (hM : MetFree l y (head1 [Jvm.Cond.code y bytes maxL none] rm) (fun a U => a = as' ∧ Z.Warmed39 U.vm ∧ U.heap = h) (fun _ _ _ _ _ => True) (fun _ U o U' => ∃ v L, o = .returned v ∧ Q v U'.heap L ∧ ReturnedEndW U o U' L rm.cells rm.slots)) (a : Addr) (hsize : ls.size = c.maxLocals) (argsL rest : List Value) (has : as' = (.ref a :: argsL).toArray) (hlen : ∀ sig, parseMethodDescriptor y.desc = some sig → argsL.length = sig.parameters.length) (hstack : st = argsL.reverse ++ .ref a :: rest) (hW : (rest.map fun v => v.category).sum ≤ W) (hf : rm.frames + 1 ≤ R.frames) (hl : W + (maxL + 11) + rm.locals ≤ R.locals) (hce : cells + rm.cells ≤ R.cells) (hsl : slots + rm.slots ≤ R.slots) (hp : pc + 3 = pc') (hd : decode c.code pc = .ok (.invokespecial index, 3)) (k : ∀ T' v L, Stand p l e R (s.setVm T'.vm) m args below meth c T' (locs ++ L) (cells + rm.cells) (slots + rm.slots) → s.Since T'.vm T'.heap.size → Z.Warmed39 (s.setVm T'.vm).vm → (s.setVm T'.vm).vm.findClass own = some m.cls → Q v T'.heap L → Ends p.tables e below (T'.setTop (mkF m pc' ls (v.toList ++ rest))) P) : Ends p.tables e below (T.setTop (mkF m pc ls st)) P := by
  subst hp has hstack
  obtain ⟨v, _, ⟨T', _, _, _⟩, -, X', S', g', ⟨L, hQ, e1, e2, e3⟩, s'⟩ := X.specialBackS hx (y := y) hy1 hown (mvT hZ w1) (mvT hZ w2) (mvT hZ w4) hy (backOfS (W := W) hM hZ w4 w3 hf hl) (g := mkF m pc ls (argsL.reverse ++ .ref a :: rest)) rfl hsize (Steps.refl _) (a := a) (argsL := argsL) (rest := rest) hlen rfl (by show 2 * 0 + _ ≤ _; omega) hd (fun _ _ => ⟨rfl, eT, hce, hsl⟩)
  dsimp only [Pt.U, Pt.locs, Pt.cells, Pt.slots] at X' S' g' e1 e2 e3 s' hQ
  subst e1 e2 e3
  obtain ⟨X2, S2, Z2, o2⟩ := rebS hS (show _ ≤ T.heap.size by rw [eT]; exact hk) X' S' g' hZ hown
  exact own_via (fun t_ k_ => s'.trans k_) (k T' v L X2 S2 Z2 o2 hQ)
theorem s_callVS {vm0 : Vm} (X : Stand p l e R (s.setVm vm0) m args below meth c T locs cells slots) (hx : p.tables.exec = Jvm.exec) (hZ : Z.Warmed39 (s.setVm vm0).vm) {k0 : Nat} (hS : s.Since vm0 k0) (hk : k0 ≤ h.size) {y : MethodName} {bytes : ByteArray} {maxL : Nat} {ret : Option FieldType} {rm : Room} {W : Nat} {as' : Array Value} {Q : Option Value → Heap → List Loc → Prop} {a : Addr} {C : String} {own : String} {index : Nat} (hown : (s.setVm vm0).vm.findClass own = some m.cls) (w1 : (Jvm.Cond.methodLink own index y).before a0 Z = true) (w2 : (Jvm.Cond.declares y).before a0 Z = true) (w3 : (Jvm.Cond.initialized y.cls).before a0 Z = true) (w4 : (Jvm.Cond.code y bytes maxL ret).before a0 Z = true) (w5 : (Jvm.Cond.selects C y y).before a0 Z = true) (w6 : (Jvm.Cond.instanceMethod y).before a0 Z = true) (hy : y.cls ≠ "java/lang/invoke/MethodHandle" ∧ y.cls ≠ "java/lang/invoke/VarHandle") (eT : T.heap = h) (E : Exa Z h a C) (hM : MetFree l y (head1 [Jvm.Cond.code y bytes maxL ret] rm) (fun a U => a = as' ∧ Z.Warmed39 U.vm ∧ U.heap = h) (fun _ _ _ _ _ => True) (fun _ U o U' => ∃ v L, o = .returned v ∧ Q v U'.heap L ∧ ReturnedEndW U o U' L rm.cells rm.slots)) (hsize : ls.size = c.maxLocals) (argsL rest : List Value) (has : as' = (.ref a :: argsL).toArray) (hlen : ∀ sig, parseMethodDescriptor y.desc = some sig → argsL.length = sig.parameters.length) (hstack : st = argsL.reverse ++ .ref a :: rest) (hW : (rest.map fun v => v.category).sum ≤ W) (hf : rm.frames + 1 ≤ R.frames) (hl : W + (maxL + 11) + rm.locals ≤ R.locals) (hce : cells + rm.cells ≤ R.cells) (hsl : slots + rm.slots ≤ R.slots) (hp : pc + 3 = pc') (hd : decode c.code pc = .ok (.invokevirtual index, 3)) (k : ∀ T' v L, Stand p l e R (s.setVm T'.vm) m args below meth c T' (locs ++ L) (cells + rm.cells) (slots + rm.slots) → s.Since T'.vm T'.heap.size → Z.Warmed39 (s.setVm T'.vm).vm → (s.setVm T'.vm).vm.findClass own = some m.cls → Q v T'.heap L → Ends p.tables e below (T'.setTop (mkF m pc' ls (v.toList ++ rest))) P) : Ends p.tables e below (T.setTop (mkF m pc ls st)) P := by
  subst hp has hstack
  obtain ⟨cq, kq, qa, qb, qc⟩ := isOf hZ eT E
  obtain ⟨v, _, ⟨T', _, _, _⟩, -, X', S', g', ⟨L, hQ, e1, e2, e3⟩, s'⟩ := X.virtualBackS hx (y := y) (z := y) hown (mvT hZ w1) (mvT hZ w2) (notFace_of_selects (args := #[]) (mvT hZ w5)) (mvT hZ w5) (mvT hZ w6) hy (backOfS (W := W) hM hZ w4 w3 hf hl) qa qc (g := mkF m pc ls (argsL.reverse ++ .ref a :: rest)) rfl hsize (Steps.refl _) (argsL := argsL) (rest := rest) hlen rfl (by show 2 * 0 + _ ≤ _; omega) hd (fun _ _ => ⟨rfl, eT, hce, hsl⟩)
  dsimp only [Pt.U, Pt.locs, Pt.cells, Pt.slots] at X' S' g' e1 e2 e3 s' hQ
  subst e1 e2 e3
  obtain ⟨X2, S2, Z2, o2⟩ := rebS hS (show _ ≤ T.heap.size by rw [eT]; exact hk) X' S' g' hZ hown
  exact own_via (fun t_ k_ => s'.trans k_) (k T' v L X2 S2 Z2 o2 hQ)
theorem s_ldcS {vm0 : Vm} (X : Stand p l e R (s.setVm vm0) m args below meth c T locs cells slots) (hx : p.tables.exec = Jvm.exec) (hZ : Z.Warmed39 (s.setVm vm0).vm) {k0 : Nat} (hS : s.Since vm0 k0) (hk : k0 ≤ h.size) {own : String} {index : Nat} (hown : (s.setVm vm0).vm.findClass own = some m.cls) {text : String} (w : (Jvm.Cond.stringLink own index text).before a0 Z = true) (wS : ∀ a ∈ Bundle.stringAtoms, a.before a0 Z = true) (eT : T.heap = h) (hd : decode c.code pc = .ok (.ldc index, 2)) {n : Nat} (hn : 4 * text.toList.length ≤ n) (hbig : n ≤ 536870912) (hc : cells + 2 ≤ R.cells) (hl : slots + (n + 4) ≤ R.slots) (hp : pc + 2 = pc') (k : ∀ a T' h' k1, Stand p l e R (s.setVm T'.vm) m args below meth c T' locs (cells + 2) (slots + (n + 4)) → T'.heap = h' → Ext h h' → s.Since T'.vm k1 → k1 ≤ h'.size → Z.Warmed39 (s.setVm T'.vm).vm → (s.setVm T'.vm).vm.findClass own = some m.cls → Ends p.tables e below (T'.setTop (mkF m pc' ls (.ref a :: st))) P) : Ends p.tables e below (T.setTop (mkF m pc ls st)) P := by
  subst hp
  obtain ⟨a, T', h', k1, X', e', E', S', g', Z', o', s'⟩ := ldcS X hx hZ hown w wS eT hS hk (g := mkF m pc ls st) rfl hd hn hbig hc hl
  exact own_via s' (k a T' h' k1 X' e' E' S' g' Z' o')
theorem s_ldcSW {vm0 : Vm} (X : Stand p l e R (s.setVm vm0) m args below meth c T locs cells slots) (hx : p.tables.exec = Jvm.exec) (hZ : Z.Warmed39 (s.setVm vm0).vm) {k0 : Nat} (hS : s.Since vm0 k0) (hk : k0 ≤ h.size) {own : String} {index : Nat} (hown : (s.setVm vm0).vm.findClass own = some m.cls) {text : String} (w : (Jvm.Cond.stringLink own index text).before a0 Z = true) (wS : ∀ a ∈ Bundle.stringAtoms, a.before a0 Z = true) (eT : T.heap = h) (hd : decode c.code pc = .ok (.ldc_w index, 3)) {n : Nat} (hn : 4 * text.toList.length ≤ n) (hbig : n ≤ 536870912) (hc : cells + 2 ≤ R.cells) (hl : slots + (n + 4) ≤ R.slots) (hp : pc + 3 = pc') (k : ∀ a T' h' k1, Stand p l e R (s.setVm T'.vm) m args below meth c T' locs (cells + 2) (slots + (n + 4)) → T'.heap = h' → Ext h h' → s.Since T'.vm k1 → k1 ≤ h'.size → Z.Warmed39 (s.setVm T'.vm).vm → (s.setVm T'.vm).vm.findClass own = some m.cls → Ends p.tables e below (T'.setTop (mkF m pc' ls (.ref a :: st))) P) : Ends p.tables e below (T.setTop (mkF m pc ls st)) P := by
  subst hp
  obtain ⟨a, T', h', k1, X', e', E', S', g', Z', o', s'⟩ := ldcSW X hx hZ hown w wS eT hS hk (g := mkF m pc ls st) rfl hd hn hbig hc hl
  exact own_via s' (k a T' h' k1 X' e' E' S' g' Z' o')
end OwnLaws

theorem own_nb (x : Int32) : nar .byte x.toInt8.toInt32 = x.toInt8.toInt32 := by
  show (x.toInt8.toInt32).toInt8.toInt32 = x.toInt8.toInt32
  simp
theorem own_nn (x : Int32) : nar .byte (nar .byte x) = nar .byte x := by
  show (x.toInt8.toInt32).toInt8.toInt32 = x.toInt8.toInt32
  simp
theorem own_skip {Z : State} {h : Heap} {a : Addr} {k : ClassId} {ty : FieldType} {z : Int32} {vs : List Value} {d v : Value} {n : Nat} (F : Arv Z h a k ty z vs d) (q : z.toNatClampNeg ≤ n) : Arv Z h a k ty z (vs.set n v) d := by
  obtain ⟨c, A, r1, r2, r3, H, G⟩ := F
  have e : ∀ i, i < c.slots.size → (vs.set n v).getD i d = vs.getD i d := fun i hi => by
    have hne : n ≠ i := by omega
    simp only [List.getD_eq_getElem?_getD, List.getElem?_set_ne hne]
  exact ⟨c, A, r1, r2, r3, fun i hi => by rw [e i hi]; exact H i hi, fun i hi => by rw [e i hi]; exact G i hi⟩
theorem own_clamp {i z : Int32} (h0 : ¬ i < 0) (hz : ¬ z < 0) (h : ¬ i < z) : z.toNatClampNeg ≤ i.toNatClampNeg := by
  have a := nat_of h0
  have b := nat_of hz
  rw [Int32.lt_iff_toInt_lt] at h
  omega
theorem own_len (n : Int32) : ¬ ((n &&& (7 : Int32)) % (7 : Int32) < 0) ∧ ((n &&& (7 : Int32)) % (7 : Int32)).toNatClampNeg ≤ 6 := by
  have hm := c_mask n 7 3 (by decide) (by decide)
  have hr := (c_irem (n &&& (7 : Int32)) 7 7 (by decide)).1 (by omega)
  generalize (n &&& (7 : Int32)) % (7 : Int32) = x at *
  have h0 : ¬ x < 0 := by
    rw [Int32.lt_iff_toInt_lt]
    have : (0 : Int32).toInt = 0 := by decide
    omega
  have a := nat_of h0
  exact ⟨h0, by omega⟩
theorem own_d1_0 : decode method_3_code 0 = .ok (.iload_n 1, 1) := by decide +kernel
theorem own_d1_1 : decode method_3_code 1 = .ok (.aload_n 0, 1) := by decide +kernel
theorem own_d1_2 : decode method_3_code 2 = .ok (.arraylength, 1) := by decide +kernel
theorem own_d1_3 : decode method_3_code 3 = .ok (.if_icmp .ge 7, 3) := by decide +kernel
theorem own_d1_6 : decode method_3_code 6 = .ok (.aload_n 0, 1) := by decide +kernel
theorem own_d1_7 : decode method_3_code 7 = .ok (.iload_n 1, 1) := by decide +kernel
theorem own_d1_8 : decode method_3_code 8 = .ok (.iload_n 2, 1) := by decide +kernel
theorem own_d1_9 : decode method_3_code 9 = .ok (.bastore, 1) := by decide +kernel
theorem own_d1_10 : decode method_3_code 10 = .ok (.return_, 1) := by decide +kernel
theorem own_pn0 : plainName "com/example/cursorwire/cursorwire/FilterFromBytesPinLaw" = true := by first | (simp [plainName, overriddenIn]; done) | decide +kernel
theorem own_rm1_ef (m : MethodId) (a : Addr) (k : ClassId) (z : Int32) (vs : List Value) (i : Int32) (n : Nat) (x : Int32) : entryFrame m #[(.ref a), (.int i), (.int x)] 3 = mkF m 0 #[.val (.ref a), .val (.int i), .val (.int x)] [] := by first | (simp [entryFrame, mkF, argsToLocals, Value.category]; done) | rfl
def own_rm1_Q (Z : State) (a : Addr) (k : ClassId) (z : Int32) (vs : List Value) (i : Int32) (n : Nat) (x : Int32) (h0 : Heap) (n0 : Nat) (v : Option Value) (h : Heap) (L : List Loc) : Prop := v = none ∧ Fr n0 L ∧ Keep h0 h [a] ∧ Arv Z h a k .byte z (vs.set n (.int x)) (.int (0 : Int32))
set_option maxRecDepth 65536 in
set_option maxHeartbeats 40000000 in
theorem own_rm1 (l : Launch) (Z : State) (a0 : Array Value) (hw : ∀ d ∈ tables_1, d.before a0 Z = true) (ws : List Jvm.Cond) (a : Addr) (k : ClassId) (z : Int32) (vs : List Value) (i : Int32) (n : Nat) (x : Int32) (h0 : Heap) (n0 : Nat) (Z0 : n0 ≤ h0.size) (V_a : Arv Z h0 a k .byte z vs (.int (0 : Int32))) (hi0 : ¬ i < 0) (hin : i.toNatClampNeg = n) (hn : n < vs.length) (hx0 : nar .byte x = x) (g_a : n0 ≤ a) :
    MetFree l (⟨"com/example/cursorwire/cursorwire/FilterFromBytesPinLaw", "put", "([BIB)V"⟩ : MethodName) (head1 (Jvm.Cond.code (⟨"com/example/cursorwire/cursorwire/FilterFromBytesPinLaw", "put", "([BIB)V"⟩ : MethodName) method_3_code 3 none :: ws) ({ frames := 0, cells := 0, slots := 0, locals := 0 } : Room)) (fun as_ U => as_ = #[(.ref a), (.int i), (.int x)] ∧ Z.Warmed39 U.vm ∧ U.heap = h0) (fun _ _ _ _ _ => True) (fun _ U o U' => ∃ v L, o = .returned v ∧ own_rm1_Q Z a k z vs i n x h0 n0 v U'.heap L ∧ FrameEnd U o U' L ({ frames := 0, cells := 0, slots := 0, locals := 0 } : Room).cells ({ frames := 0, cells := 0, slots := 0, locals := 0 } : Room).slots) := by
  refine MetFree.of_bodySF (plainFor_of_name own_pn0) hisR ?_
  intro p e s m args below meth c s₁ Bd hml0 hP hK
  obtain ⟨rfl, hZ, hh⟩ := hP
  have hx := Bd.exec
  have hby := Bd.bytes
  have hml : c.maxLocals = 3 := hml0
  have hown : s.vm.findClass "com/example/cursorwire/cursorwire/FilterFromBytesPinLaw" = some m.cls := findClass_of_methodNamed Bd.named
  have hnm := (name_of_methodNamed Bd.named Bd.method).1
  have X0 : Stand p l e ({ frames := 0, cells := 0, slots := 0, locals := 0 } : Room) s m #[(.ref a), (.int i), (.int x)] below meth c s₁ [] 0 0 := Stand.of_body Bd
  have e0 : s₁.heap = h0 := by rw [← hh, Bd.state]; rfl
  have N0 := Fr.nil n0
  refine own_begin (own_rm1_ef m a k z vs i n x) ?_
  show Ends p.tables e below (s₁.setTop (mkF m 0 #[.val (.ref a), .val (.int i), .val (.int x)] [])) _
  have Kr0 : Keep h0 h0 [a] := Keep.refl h0 _
  refine s_iloadN (pc' := 1) X0.here hx (hb hby own_d1_0) rfl rfl ?_
  refine s_aloadN (pc' := 2) X0.here hx (hb hby own_d1_1) rfl rfl rfl ?_
  refine s_arraylength (pc' := 3) X0 hx hZ e0 V_a (hb hby own_d1_2) rfl ?_
  by_cases h1 : i < z
  · refine s_icmpNo (pc' := 6) X0.here hx (hb hby own_d1_3) (tlt h1).2.1 rfl ?_
    refine s_aloadN (pc' := 7) X0.here hx (hb hby own_d1_6) rfl rfl rfl ?_
    refine s_iloadN (pc' := 8) X0.here hx (hb hby own_d1_7) rfl rfl ?_
    refine s_iloadN (pc' := 9) X0.here hx (hb hby own_d1_8) rfl rfl ?_
    refine s_putB (pc' := 10) X0 hx hZ e0 V_a ⟨hi0, h1⟩ n hin hn (hb hby own_d1_9) rfl fun T1 hp1 X1 e1 W1 Vw1 => ?_
    have V2 : Arv Z hp1 a k .byte z (vs.set n (.int (nar .byte x))) (.int (0 : Int32)) := Vw1
    have N1 := Fr.snoc X1 N0 g_a
    have Z3 : n0 ≤ hp1.size := Nat.le_trans Z0 (Keep.of_wr W1).1
    have K4 : Keep h0 hp1 [a] := Kr0.wr W1 (Or.inl (List.mem_of_getElem? (i := 0) rfl))
    obtain ⟨fs, hr, hrun, hended, hW, hsame⟩ := X1.leave (v := none) (fun _ => rfl)
    refine ⟨_, _, X1.returnOut hx Bd.returns (hb hby own_d1_10) hr, hrun, hended, _, _, rfl, ?_, ⟨_, rfl⟩, hW, hsame.mono (by decide) (by decide)⟩
    show own_rm1_Q Z a k z vs i n x h0 n0 _ T1.heap _
    rw [e1]
    exact ⟨rfl, N1, K4, (by rw [hx0] at V2; exact V2)⟩
  · refine s_icmpYes (pc' := 10) X0.here hx (hb hby own_d1_3) (flt h1).2.1 (by decide) (by decide) ?_
    obtain ⟨fs, hr, hrun, hended, hW, hsame⟩ := X0.leave (v := none) (fun _ => rfl)
    refine ⟨_, _, X0.returnOut hx Bd.returns (hb hby own_d1_10) hr, hrun, hended, _, _, rfl, ?_, ⟨_, rfl⟩, hW, hsame.mono (by decide) (by decide)⟩
    show own_rm1_Q Z a k z vs i n x h0 n0 _ s₁.heap _
    rw [e0]
    exact ⟨rfl, N0, Kr0, (own_skip V_a (hin ▸ own_clamp hi0 (by obtain ⟨_, _, _, _, M, _⟩ := V_a; exact M) h1))⟩
theorem own_d3_0 : decode prog_16_method_2_code 0 = .ok (.aload_n 0, 1) := by decide +kernel
theorem own_d3_1 : decode prog_16_method_2_code 1 = .ok (.invokespecial 1, 3) := by decide +kernel
theorem own_d3_4 : decode prog_16_method_2_code 4 = .ok (.aload_n 0, 1) := by decide +kernel
theorem own_d3_5 : decode prog_16_method_2_code 5 = .ok (.aload_n 1, 1) := by decide +kernel
theorem own_d3_6 : decode prog_16_method_2_code 6 = .ok (.putfield 65, 3) := by decide +kernel
theorem own_d3_9 : decode prog_16_method_2_code 9 = .ok (.return_, 1) := by decide +kernel
theorem own_pn1 : plainName "com/example/cursorwire/cursorwire/Filter" = true := by first | (simp [plainName, overriddenIn]; done) | decide +kernel
theorem own_rm3_ef (m : MethodId) (a : Addr) (b : Addr) : entryFrame m #[(.ref a), (.ref b)] 2 = mkF m 0 #[.val (.ref a), .val (.ref b)] [] := by first | (simp [entryFrame, mkF, argsToLocals, Value.category]; done) | rfl
def own_rm3_Q (Z : State) (a : Addr) (b : Addr) (h0 : Heap) (n0 : Nat) (v : Option Value) (h : Heap) (L : List Loc) : Prop := v = none ∧ Fr n0 L ∧ Keep h0 h [a] ∧ Fld Z h a "com/example/cursorwire/cursorwire/Filter" "m_form" "[B" (.ref b)
set_option maxRecDepth 65536 in
set_option maxHeartbeats 40000000 in
theorem own_rm3 (l : Launch) (Z : State) (a0 : Array Value) (hw : ∀ d ∈ tables_1, d.before a0 Z = true) (ws : List Jvm.Cond) (a : Addr) (b : Addr) (h0 : Heap) (n0 : Nat) (Z0 : n0 ≤ h0.size) (F_f : Fld Z h0 a "com/example/cursorwire/cursorwire/Filter" "m_form" "[B" .null) (E_a : Exa Z h0 a "com/example/cursorwire/cursorwire/Filter") (g_a : n0 ≤ a) :
    MetFree l (⟨"com/example/cursorwire/cursorwire/Filter", "<init>", "([B)V"⟩ : MethodName) (head1 (Jvm.Cond.code (⟨"com/example/cursorwire/cursorwire/Filter", "<init>", "([B)V"⟩ : MethodName) prog_16_method_2_code 2 none :: ws) ({ frames := 1, cells := 0, slots := 0, locals := 12 } : Room)) (fun as_ U => as_ = #[(.ref a), (.ref b)] ∧ Z.Warmed39 U.vm ∧ U.heap = h0) (fun _ _ _ _ _ => True) (fun _ U o U' => ∃ v L, o = .returned v ∧ own_rm3_Q Z a b h0 n0 v U'.heap L ∧ FrameEnd U o U' L ({ frames := 1, cells := 0, slots := 0, locals := 12 } : Room).cells ({ frames := 1, cells := 0, slots := 0, locals := 12 } : Room).slots) := by
  refine MetFree.of_bodySF (plainFor_of_name own_pn1) hisR ?_
  intro p e s m args below meth c s₁ Bd hml0 hP hK
  obtain ⟨rfl, hZ, hh⟩ := hP
  have hx := Bd.exec
  have hby := Bd.bytes
  have hml : c.maxLocals = 2 := hml0
  have hown : s.vm.findClass "com/example/cursorwire/cursorwire/Filter" = some m.cls := findClass_of_methodNamed Bd.named
  have hnm := (name_of_methodNamed Bd.named Bd.method).1
  have X0 : Stand p l e ({ frames := 1, cells := 0, slots := 0, locals := 12 } : Room) s m #[(.ref a), (.ref b)] below meth c s₁ [] 0 0 := Stand.of_body Bd
  have e0 : s₁.heap = h0 := by rw [← hh, Bd.state]; rfl
  have N0 := Fr.nil n0
  refine own_begin (own_rm3_ef m a b) ?_
  show Ends p.tables e below (s₁.setTop (mkF m 0 #[.val (.ref a), .val (.ref b)] [])) _
  have Kr0 : Keep h0 h0 [a] := Keep.refl h0 _
  refine s_aloadN (pc' := 1) X0.here hx (hb hby own_d3_0) rfl rfl rfl ?_
  refine s_initO (pc' := 4) (W := 0) X0 hx hZ hown (hw _ (List.mem_of_getElem? (i := 23) rfl)) (hw _ (List.mem_of_getElem? (i := 24) rfl)) (hw _ (List.mem_of_getElem? (i := 25) rfl)) e0 (by rw [hml]; rfl) (hb hby own_d3_1) (by decide) (Nat.le_of_eq rfl) (by decide) rfl fun T1 X1 e1 => ?_
  refine s_aloadN (pc' := 5) X1.here hx (hb hby own_d3_4) rfl rfl rfl ?_
  refine s_aloadN (pc' := 6) X1.here hx (hb hby own_d3_5) rfl rfl rfl ?_
  refine s_putF (pc' := 9) (ty := (.array .byte)) X1 hx hZ hown (host := "") (Or.inl (hw _ (List.mem_of_getElem? (i := 26) rfl))) Via.refl e1 F_f E_a (Or.inr ⟨(hw _ (List.mem_of_getElem? (i := 27) rfl)), rfl, hnm⟩) (hw _ (List.mem_of_getElem? (i := 10) rfl)) (by decide) rfl rfl (hb hby own_d3_6) rfl fun T2 hp2 X2 e2 W2 => ?_
  have N2 := Fr.snoc X2 N0 g_a
  have f3 := F_f.same W2
  have f4 := E_a.wr W2
  have Z5 : n0 ≤ hp2.size := Nat.le_trans Z0 (Keep.of_wr W2).1
  have K6 : Keep h0 hp2 [a] := Kr0.wr W2 (Or.inl (List.mem_of_getElem? (i := 0) rfl))
  obtain ⟨fs, hr, hrun, hended, hW, hsame⟩ := X2.leave (v := none) (fun _ => rfl)
  refine ⟨_, _, X2.returnOut hx Bd.returns (hb hby own_d3_9) hr, hrun, hended, _, _, rfl, ?_, ⟨_, rfl⟩, hW, hsame.mono (by decide) (by decide)⟩
  show own_rm3_Q Z a b h0 n0 _ T2.heap _
  rw [e2]
  exact ⟨rfl, N2, K6, f3⟩
theorem own_d2_0 : decode prog_16_method_4_code 0 = .ok (.new 43, 3) := by decide +kernel
theorem own_d2_3 : decode prog_16_method_4_code 3 = .ok (.dup, 1) := by decide +kernel
theorem own_d2_4 : decode prog_16_method_4_code 4 = .ok (.aload_n 0, 1) := by decide +kernel
theorem own_d2_5 : decode prog_16_method_4_code 5 = .ok (.invokevirtual 206, 3) := by decide +kernel
theorem own_d2_8 : decode prog_16_method_4_code 8 = .ok (.checkcast 207, 3) := by decide +kernel
theorem own_d2_11 : decode prog_16_method_4_code 11 = .ok (.invokespecial 210, 3) := by decide +kernel
theorem own_pd0 : parseMethodDescriptor "([B)V" = some ⟨[(.array .byte)], none⟩ := by decide +kernel
theorem own_d2_14 : decode prog_16_method_4_code 14 = .ok (.areturn, 1) := by decide +kernel
theorem own_rm2_ef (m : MethodId) (a : Addr) (k : ClassId) (z : Int32) (vs : List Value) : entryFrame m #[(.ref a)] 1 = mkF m 0 #[.val (.ref a)] [] := by first | (simp [entryFrame, mkF, argsToLocals, Value.category]; done) | rfl
def own_rm2_Q (Z : State) (a : Addr) (k : ClassId) (z : Int32) (vs : List Value) (h0 : Heap) (n0 : Nat) (v : Option Value) (h : Heap) (L : List Loc) : Prop := ∃ f b, v = some (.ref f) ∧ Fr n0 L ∧ Keep h0 h [] ∧ h0.size ≤ f ∧ h0.size ≤ b ∧ Exa Z h f "com/example/cursorwire/cursorwire/Filter" ∧ Fld Z h f "com/example/cursorwire/cursorwire/Filter" "m_form" "[B" (.ref b) ∧ Arv Z h b k .byte z vs (.int (0 : Int32)) ∧ Exa Z h b "[B"
set_option maxRecDepth 65536 in
set_option maxHeartbeats 40000000 in
theorem own_rm2 (l : Launch) (Z : State) (a0 : Array Value) (hw : ∀ d ∈ tables_1, d.before a0 Z = true) (ws : List Jvm.Cond) (a : Addr) (k : ClassId) (z : Int32) (vs : List Value) (h0 : Heap) (n0 : Nat) (Z0 : n0 ≤ h0.size) (V_a : Arv Z h0 a k .byte z vs (.int (0 : Int32))) (E_a : Exa Z h0 a "[B") (hz : z.toNatClampNeg ≤ 6) :
    MetFree l (⟨"com/example/cursorwire/cursorwire/Filter", "fromBytes", "([B)Lcom/example/cursorwire/cursorwire/Filter;"⟩ : MethodName) (head1 (Jvm.Cond.code (⟨"com/example/cursorwire/cursorwire/Filter", "fromBytes", "([B)Lcom/example/cursorwire/cursorwire/Filter;"⟩ : MethodName) prog_16_method_4_code 1 (some (.object "com/example/cursorwire/cursorwire/Filter")) :: ws) ({ frames := 2, cells := 2, slots := 7, locals := 26 } : Room)) (fun as_ U => as_ = #[(.ref a)] ∧ Z.Warmed39 U.vm ∧ U.heap = h0) (fun _ _ _ _ _ => True) (fun _ U o U' => ∃ v L, o = .returned v ∧ own_rm2_Q Z a k z vs h0 n0 v U'.heap L ∧ FrameEnd U o U' L ({ frames := 2, cells := 2, slots := 7, locals := 26 } : Room).cells ({ frames := 2, cells := 2, slots := 7, locals := 26 } : Room).slots) := by
  refine MetFree.of_bodySF (plainFor_of_name own_pn1) hisR ?_
  intro p e s m args below meth c s₁ Bd hml0 hP hK
  obtain ⟨rfl, hZ, hh⟩ := hP
  have hx := Bd.exec
  have hby := Bd.bytes
  have hml : c.maxLocals = 1 := hml0
  have hown : s.vm.findClass "com/example/cursorwire/cursorwire/Filter" = some m.cls := findClass_of_methodNamed Bd.named
  have hnm := (name_of_methodNamed Bd.named Bd.method).1
  have X0 : Stand p l e ({ frames := 2, cells := 2, slots := 7, locals := 26 } : Room) s m #[(.ref a)] below meth c s₁ [] 0 0 := Stand.of_body Bd
  have e0 : s₁.heap = h0 := by rw [← hh, Bd.state]; rfl
  have N0 := Fr.nil n0
  refine own_begin (own_rm2_ef m a k z vs) ?_
  show Ends p.tables e below (s₁.setTop (mkF m 0 #[.val (.ref a)] [])) _
  have Kr0 : Keep h0 h0 [] := Keep.refl h0 _
  refine s_newO (pc' := 3) X0 hx hZ hown (hw _ (List.mem_of_getElem? (i := 9) rfl)) (hw _ (List.mem_of_getElem? (i := 10) rfl)) (hw _ (List.mem_of_getElem? (i := 7) rfl)) e0 (hb hby own_d2_0) (by decide) (by decide) rfl fun T1 hp1 X1 e1 E1 f gq1 A1 D1 => ?_
  have g_f : n0 ≤ f := Nat.le_trans Z0 (Nat.le_of_eq gq1.symm)
  have sz_f : h0.size ≤ f := Nat.le_trans Kr0.1 (Nat.le_of_eq gq1.symm)
  have ne2 : a ≠ f := Nat.ne_of_lt (Nat.lt_of_lt_of_le V_a.lt (Nat.le_of_eq gq1.symm))
  have f3 := V_a.ext E1
  have f4 := E_a.ext E1
  have Z5 : n0 ≤ hp1.size := Nat.le_trans Z0 E1.1
  have K6 : Keep h0 hp1 [] := Kr0.ext E1
  have F7 : Fld Z hp1 f "com/example/cursorwire/cursorwire/Filter" "m_form" "[B" .null := D1 (Or.inr (hw _ (List.mem_of_getElem? (i := 27) rfl))) (ty := (.array .byte)) (by decide)
  refine s_dup (pc' := 4) X1.here hx (hb hby own_d2_3) rfl rfl ?_
  refine s_aloadN (pc' := 5) X1.here hx (hb hby own_d2_4) rfl rfl rfl ?_
  obtain ⟨T8, hp8, X8, e8, E8, A8, Ex8, st8⟩ := cloneH X1 hx hZ hown (hw _ (List.mem_of_getElem? (i := 11) rfl)) (hw _ (List.mem_of_getElem? (i := 12) rfl)) (hw _ (List.mem_of_getElem? (i := 16) rfl)) (hw _ (List.mem_of_getElem? (i := 14) rfl)) (hw _ (List.mem_of_getElem? (i := 15) rfl)) (hw _ (List.mem_of_getElem? (i := 17) rfl)) e1 (Arv.arh f3) f4 (g := (mkF m 5 #[.val (.ref a)] [(.ref a), (.ref f), (.ref f)])) rfl (by rw [hml]; rfl) rfl (hb hby own_d2_5) (by decide) (W := 2) (cap := 6) (by show 2 * 0 + _ ≤ _; exact Nat.le_of_eq rfl) (by decide) hz (by decide) (by decide)
  obtain ⟨b, gq8⟩ : ∃ z, z = hp1.size := ⟨_, rfl⟩
  have g_b : n0 ≤ b := Nat.le_trans Z5 (Nat.le_of_eq gq8.symm)
  have sz_b : h0.size ≤ b := Nat.le_trans K6.1 (Nat.le_of_eq gq8.symm)
  have ne9 : a ≠ b := Nat.ne_of_lt (Nat.lt_of_lt_of_le f3.lt (Nat.le_of_eq gq8.symm))
  have ne10 : f ≠ b := Nat.ne_of_lt (Nat.lt_of_lt_of_le A1.lt (Nat.le_of_eq gq8.symm))
  rw [← gq8] at A8 Ex8 st8
  refine own_via (st8) ?_
  have f11 := f3.ext E8
  have f12 := f4.ext E8
  have f13 := A1.ext E8
  have f14 := F7.ext E8
  have Z15 : n0 ≤ hp8.size := Nat.le_trans Z5 E8.1
  have K16 : Keep h0 hp8 [] := K6.ext E8
  have V17 : Arv Z hp8 b k .byte z vs (.int (0 : Int32)) := A8
  show Ends p.tables e below (T8.setTop (mkF m 8 #[.val (.ref a)] [(.ref b), (.ref f), (.ref f)])) _
  refine s_castY (pc' := 11) X8 hx hZ hown (hw _ (List.mem_of_getElem? (i := 18) rfl)) e8 (Ins.self Ex8) (hb hby own_d2_8) rfl fun T18 X18 e18 => ?_
  refine s_callI (pc' := 14) (W := 1) X18 hx hZ  rfl hown (hw _ (List.mem_of_getElem? (i := 20) rfl)) (hw _ (List.mem_of_getElem? (i := 21) rfl)) (hw _ (List.mem_of_getElem? (i := 7) rfl)) (hw _ (List.mem_of_getElem? (i := 22) rfl)) (by decide) e18 (own_rm3 l Z a0 hw [] f b hp8 n0 Z15 f14 f13 g_f) f (by rw [hml]; rfl) [(.ref b)] [(.ref f)] rfl (lenOf own_pd0 rfl) rfl (Nat.le_of_eq rfl) (by decide) (by decide) (by decide) (by decide) rfl (hb hby own_d2_11) fun T19 v19 Lc19 X19 hQ19 => ?_
  obtain ⟨rfl, Nq19, Kq19, Ff⟩ := hQ19
  have N19 := Fr.app N0 Nq19
  have f20 := f11.keep Kq19 (ninS ne2 nin0)
  have f21 := f12.keep Kq19
  have f22 := f13.keep Kq19
  have f23 := V17.keep Kq19 (ninS (Ne.symm ne10) nin0)
  have f24 := Ex8.keep Kq19
  have Z25 : n0 ≤ T19.heap.size := Nat.le_trans Z15 Kq19.1
  have K26 : Keep h0 T19.heap [] := K16.trans Kq19 (allS (Or.inr sz_f) all0)
  show Ends p.tables e below (T19.setTop (mkF m 14 #[.val (.ref a)] [(.ref f)])) _
  obtain ⟨fs, hr, hrun, hended, hW, hsame⟩ := X19.leave (v := some (.ref f)) (fun h => by rw [Bd.returns] at h; cases h)
  refine ⟨_, _, retOut X19 hx Bd.returns rfl (Or.inr (Or.inr (Or.inr (Or.inr ⟨rfl, rfl, rfl⟩)))) (hb hby own_d2_14) hr, hrun, hended, _, _, rfl, ?_, ⟨_, rfl⟩, hW, hsame.mono (by decide) (by decide)⟩
  show own_rm2_Q Z a k z vs h0 n0 _ T19.heap _
  exact ⟨f, b, rfl, N19, K26, sz_f, sz_b, f22, Ff, f23, f24⟩
theorem own_d5_0 : decode prog_16_method_5_code 0 = .ok (.aload_n 0, 1) := by decide +kernel
theorem own_d5_1 : decode prog_16_method_5_code 1 = .ok (.getfield 65, 3) := by decide +kernel
theorem own_d5_4 : decode prog_16_method_5_code 4 = .ok (.invokevirtual 206, 3) := by decide +kernel
theorem own_d5_7 : decode prog_16_method_5_code 7 = .ok (.checkcast 207, 3) := by decide +kernel
theorem own_d5_10 : decode prog_16_method_5_code 10 = .ok (.areturn, 1) := by decide +kernel
theorem own_rm5_ef (m : MethodId) (f : Addr) (a : Addr) (k : ClassId) (z : Int32) (vs : List Value) : entryFrame m #[(.ref f)] 1 = mkF m 0 #[.val (.ref f)] [] := by first | (simp [entryFrame, mkF, argsToLocals, Value.category]; done) | rfl
def own_rm5_Q (Z : State) (f : Addr) (a : Addr) (k : ClassId) (z : Int32) (vs : List Value) (h0 : Heap) (n0 : Nat) (v : Option Value) (h : Heap) (L : List Loc) : Prop := ∃ b, v = some (.ref b) ∧ Fr n0 L ∧ Keep h0 h [] ∧ h0.size ≤ b ∧ Arv Z h b k .byte z vs (.int (0 : Int32))
set_option maxRecDepth 65536 in
set_option maxHeartbeats 40000000 in
theorem own_rm5 (l : Launch) (Z : State) (a0 : Array Value) (hw : ∀ d ∈ tables_1, d.before a0 Z = true) (ws : List Jvm.Cond) (f : Addr) (a : Addr) (k : ClassId) (z : Int32) (vs : List Value) (h0 : Heap) (n0 : Nat) (Z0 : n0 ≤ h0.size) (F_f : Fld Z h0 f "com/example/cursorwire/cursorwire/Filter" "m_form" "[B" (.ref a)) (V_a : Arv Z h0 a k .byte z vs (.int (0 : Int32))) (E_a : Exa Z h0 a "[B") (hz : z.toNatClampNeg ≤ 6) :
    MetFree l (⟨"com/example/cursorwire/cursorwire/Filter", "toBytes", "()[B"⟩ : MethodName) (head1 (Jvm.Cond.code (⟨"com/example/cursorwire/cursorwire/Filter", "toBytes", "()[B"⟩ : MethodName) prog_16_method_5_code 1 (some (.array .byte)) :: ws) ({ frames := 1, cells := 1, slots := 6, locals := 14 } : Room)) (fun as_ U => as_ = #[(.ref f)] ∧ Z.Warmed39 U.vm ∧ U.heap = h0) (fun _ _ _ _ _ => True) (fun _ U o U' => ∃ v L, o = .returned v ∧ own_rm5_Q Z f a k z vs h0 n0 v U'.heap L ∧ FrameEnd U o U' L ({ frames := 1, cells := 1, slots := 6, locals := 14 } : Room).cells ({ frames := 1, cells := 1, slots := 6, locals := 14 } : Room).slots) := by
  refine MetFree.of_bodySF (plainFor_of_name own_pn1) hisR ?_
  intro p e s m args below meth c s₁ Bd hml0 hP hK
  obtain ⟨rfl, hZ, hh⟩ := hP
  have hx := Bd.exec
  have hby := Bd.bytes
  have hml : c.maxLocals = 1 := hml0
  have hown : s.vm.findClass "com/example/cursorwire/cursorwire/Filter" = some m.cls := findClass_of_methodNamed Bd.named
  have hnm := (name_of_methodNamed Bd.named Bd.method).1
  have X0 : Stand p l e ({ frames := 1, cells := 1, slots := 6, locals := 14 } : Room) s m #[(.ref f)] below meth c s₁ [] 0 0 := Stand.of_body Bd
  have e0 : s₁.heap = h0 := by rw [← hh, Bd.state]; rfl
  have N0 := Fr.nil n0
  refine own_begin (own_rm5_ef m f a k z vs) ?_
  show Ends p.tables e below (s₁.setTop (mkF m 0 #[.val (.ref f)] [])) _
  have Kr0 : Keep h0 h0 [] := Keep.refl h0 _
  refine s_aloadN (pc' := 1) X0.here hx (hb hby own_d5_0) rfl rfl rfl ?_
  refine s_getF (pc' := 4) X0 hx hZ hown (host := "") (Or.inl (hw _ (List.mem_of_getElem? (i := 26) rfl))) Via.refl e0 F_f (hb hby own_d5_1) rfl fun T1 X1 e1 => ?_
  obtain ⟨T2, hp2, X2, e2, E2, A2, Ex2, st2⟩ := cloneH X1 hx hZ hown (hw _ (List.mem_of_getElem? (i := 11) rfl)) (hw _ (List.mem_of_getElem? (i := 12) rfl)) (hw _ (List.mem_of_getElem? (i := 16) rfl)) (hw _ (List.mem_of_getElem? (i := 14) rfl)) (hw _ (List.mem_of_getElem? (i := 15) rfl)) (hw _ (List.mem_of_getElem? (i := 17) rfl)) e1 (Arv.arh V_a) E_a (g := (mkF m 4 #[.val (.ref f)] [(.ref a)])) rfl (by rw [hml]; rfl) rfl (hb hby own_d5_4) (by decide) (W := 0) (cap := 6) (by show 2 * 0 + _ ≤ _; exact Nat.le_of_eq rfl) (by decide) hz (by decide) (by decide)
  obtain ⟨b, gq2⟩ : ∃ z, z = h0.size := ⟨_, rfl⟩
  have g_b : n0 ≤ b := Nat.le_trans Z0 (Nat.le_of_eq gq2.symm)
  have sz_b : h0.size ≤ b := Nat.le_trans Kr0.1 (Nat.le_of_eq gq2.symm)
  have ne3 : a ≠ b := Nat.ne_of_lt (Nat.lt_of_lt_of_le V_a.lt (Nat.le_of_eq gq2.symm))
  have ne4 : f ≠ b := Nat.ne_of_lt (Nat.lt_of_lt_of_le F_f.lt (Nat.le_of_eq gq2.symm))
  rw [← gq2] at A2 Ex2 st2
  refine own_via (st2) ?_
  have f5 := V_a.ext E2
  have f6 := E_a.ext E2
  have f7 := F_f.ext E2
  have Z8 : n0 ≤ hp2.size := Nat.le_trans Z0 E2.1
  have K9 : Keep h0 hp2 [] := Kr0.ext E2
  have V10 : Arv Z hp2 b k .byte z vs (.int (0 : Int32)) := A2
  show Ends p.tables e below (T2.setTop (mkF m 7 #[.val (.ref f)] [(.ref b)])) _
  refine s_castY (pc' := 10) X2 hx hZ hown (hw _ (List.mem_of_getElem? (i := 18) rfl)) e2 (Ins.self Ex2) (hb hby own_d5_7) rfl fun T11 X11 e11 => ?_
  obtain ⟨fs, hr, hrun, hended, hW, hsame⟩ := X11.leave (v := some (.ref b)) (fun h => by rw [Bd.returns] at h; cases h)
  refine ⟨_, _, retOut X11 hx Bd.returns rfl (Or.inr (Or.inr (Or.inr (Or.inr ⟨rfl, rfl, rfl⟩)))) (hb hby own_d5_10) hr, hrun, hended, _, _, rfl, ?_, ⟨_, rfl⟩, hW, hsame.mono (by decide) (by decide)⟩
  show own_rm5_Q Z f a k z vs h0 n0 _ T11.heap _
  rw [e11]
  exact ⟨b, rfl, N0, K9, sz_b, V10⟩
theorem own_d6_0 : decode method_4_code 0 = .ok (.iload_n 2, 1) := by decide +kernel
theorem own_d6_1 : decode method_4_code 1 = .ok (.aload_n 0, 1) := by decide +kernel
theorem own_d6_2 : decode method_4_code 2 = .ok (.arraylength, 1) := by decide +kernel
theorem own_d6_3 : decode method_4_code 3 = .ok (.if_icmp .ge 12, 3) := by decide +kernel
theorem own_d6_6 : decode method_4_code 6 = .ok (.aload_n 0, 1) := by decide +kernel
theorem own_d6_7 : decode method_4_code 7 = .ok (.iload_n 2, 1) := by decide +kernel
theorem own_d6_8 : decode method_4_code 8 = .ok (.baload, 1) := by decide +kernel
theorem own_d6_9 : decode method_4_code 9 = .ok (.aload_n 1, 1) := by decide +kernel
theorem own_d6_10 : decode method_4_code 10 = .ok (.iload_n 2, 1) := by decide +kernel
theorem own_d6_11 : decode method_4_code 11 = .ok (.baload, 1) := by decide +kernel
theorem own_d6_12 : decode method_4_code 12 = .ok (.if_icmp .ne 7, 3) := by decide +kernel
theorem own_d6_15 : decode method_4_code 15 = .ok (.iconst 1, 1) := by decide +kernel
theorem own_d6_16 : decode method_4_code 16 = .ok (.goto 4, 3) := by decide +kernel
theorem own_d6_20 : decode method_4_code 20 = .ok (.ireturn, 1) := by decide +kernel
theorem own_rm6_ef (m : MethodId) (a : Addr) (b : Addr) (i : Int32) (k : ClassId) (z : Int32) (vs : List Value) (kb : ClassId) (us : List Value) (x : Int32) : entryFrame m #[(.ref a), (.ref b), (.int i)] 3 = mkF m 0 #[.val (.ref a), .val (.ref b), .val (.int i)] [] := by first | (simp [entryFrame, mkF, argsToLocals, Value.category]; done) | rfl
def own_rm6_Q (Z : State) (a : Addr) (b : Addr) (i : Int32) (k : ClassId) (z : Int32) (vs : List Value) (kb : ClassId) (us : List Value) (x : Int32) (h0 : Heap) (n0 : Nat) (v : Option Value) (h : Heap) (L : List Loc) : Prop := v = some (.int 1) ∧ Fr n0 L ∧ h = h0
set_option maxRecDepth 65536 in
set_option maxHeartbeats 40000000 in
theorem own_rm6 (l : Launch) (Z : State) (a0 : Array Value) (hw : ∀ d ∈ tables_1, d.before a0 Z = true) (ws : List Jvm.Cond) (a : Addr) (b : Addr) (i : Int32) (k : ClassId) (z : Int32) (vs : List Value) (kb : ClassId) (us : List Value) (x : Int32) (h0 : Heap) (n0 : Nat) (Z0 : n0 ≤ h0.size) (V_a : Arv Z h0 a k .byte z vs (.int (0 : Int32))) (V_b : Arv Z h0 b kb .byte (6 : Int32) us (.int (0 : Int32))) (hi0 : ¬ i < 0) (hi6 : i < (6 : Int32)) (hvx : vs.getD i.toNatClampNeg (.int (0 : Int32)) = .int x) (hvy : us.getD i.toNatClampNeg (.int (0 : Int32)) = .int x) :
    MetFree l (⟨"com/example/cursorwire/cursorwire/FilterFromBytesPinLaw", "same", "([B[BI)Z"⟩ : MethodName) (head1 (Jvm.Cond.code (⟨"com/example/cursorwire/cursorwire/FilterFromBytesPinLaw", "same", "([B[BI)Z"⟩ : MethodName) method_4_code 3 (some .boolean) :: ws) ({ frames := 0, cells := 0, slots := 0, locals := 0 } : Room)) (fun as_ U => as_ = #[(.ref a), (.ref b), (.int i)] ∧ Z.Warmed39 U.vm ∧ U.heap = h0) (fun _ _ _ _ _ => True) (fun _ U o U' => ∃ v L, o = .returned v ∧ own_rm6_Q Z a b i k z vs kb us x h0 n0 v U'.heap L ∧ FrameEnd U o U' L ({ frames := 0, cells := 0, slots := 0, locals := 0 } : Room).cells ({ frames := 0, cells := 0, slots := 0, locals := 0 } : Room).slots) := by
  refine MetFree.of_bodySF (plainFor_of_name own_pn0) hisR ?_
  intro p e s m args below meth c s₁ Bd hml0 hP hK
  obtain ⟨rfl, hZ, hh⟩ := hP
  have hx := Bd.exec
  have hby := Bd.bytes
  have hml : c.maxLocals = 3 := hml0
  have hown : s.vm.findClass "com/example/cursorwire/cursorwire/FilterFromBytesPinLaw" = some m.cls := findClass_of_methodNamed Bd.named
  have hnm := (name_of_methodNamed Bd.named Bd.method).1
  have X0 : Stand p l e ({ frames := 0, cells := 0, slots := 0, locals := 0 } : Room) s m #[(.ref a), (.ref b), (.int i)] below meth c s₁ [] 0 0 := Stand.of_body Bd
  have e0 : s₁.heap = h0 := by rw [← hh, Bd.state]; rfl
  have N0 := Fr.nil n0
  refine own_begin (own_rm6_ef m a b i k z vs kb us x) ?_
  show Ends p.tables e below (s₁.setTop (mkF m 0 #[.val (.ref a), .val (.ref b), .val (.int i)] [])) _
  refine s_iloadN (pc' := 1) X0.here hx (hb hby own_d6_0) rfl rfl ?_
  refine s_aloadN (pc' := 2) X0.here hx (hb hby own_d6_1) rfl rfl rfl ?_
  refine s_arraylength (pc' := 3) X0 hx hZ e0 V_a (hb hby own_d6_2) rfl ?_
  by_cases h1 : i < z
  · refine s_icmpNo (pc' := 6) X0.here hx (hb hby own_d6_3) (tlt h1).2.1 rfl ?_
    refine s_aloadN (pc' := 7) X0.here hx (hb hby own_d6_6) rfl rfl rfl ?_
    refine s_iloadN (pc' := 8) X0.here hx (hb hby own_d6_7) rfl rfl ?_
    refine s_baload (pc' := 9) (v := (.int x)) X0 hx hZ e0 V_a ⟨hi0, h1⟩ hvx (hb hby own_d6_8) rfl ?_
    refine s_aloadN (pc' := 10) X0.here hx (hb hby own_d6_9) rfl rfl rfl ?_
    refine s_iloadN (pc' := 11) X0.here hx (hb hby own_d6_10) rfl rfl ?_
    refine s_baload (pc' := 12) (v := (.int x)) X0 hx hZ e0 V_b ⟨hi0, hi6⟩ hvy (hb hby own_d6_11) rfl ?_
    have hk1 : x = x := rfl
    refine s_icmpNo (pc' := 15) X0.here hx (hb hby own_d6_12) (teq hk1).2 rfl ?_
    refine s_iconst (pc' := 16) X0.here hx (v := (1 : Int32)) (hb hby own_d6_15) rfl rfl ?_
    refine s_goto (pc' := 20) X0.here hx (hb hby own_d6_16) (by decide) (by decide) ?_
    obtain ⟨fs, hr, hrun, hended, hW, hsame⟩ := X0.leave (v := some (.int (1 : Int32))) (fun h => by rw [Bd.returns] at h; cases h)
    refine ⟨_, _, retN X0 hx (t := .boolean) Bd.returns (by simp) (hb hby own_d6_20) hr, hrun, hended, _, _, rfl, ?_, ⟨_, rfl⟩, hW, hsame.mono (by decide) (by decide)⟩
    show own_rm6_Q Z a b i k z vs kb us x h0 n0 _ s₁.heap _
    rw [e0]
    exact ⟨rfl, N0, rfl⟩
  · refine s_icmpYes (pc' := 15) X0.here hx (hb hby own_d6_3) (flt h1).2.1 (by decide) (by decide) ?_
    refine s_iconst (pc' := 16) X0.here hx (v := (1 : Int32)) (hb hby own_d6_15) rfl rfl ?_
    refine s_goto (pc' := 20) X0.here hx (hb hby own_d6_16) (by decide) (by decide) ?_
    obtain ⟨fs, hr, hrun, hended, hW, hsame⟩ := X0.leave (v := some (.int (1 : Int32))) (fun h => by rw [Bd.returns] at h; cases h)
    refine ⟨_, _, retN X0 hx (t := .boolean) Bd.returns (by simp) (hb hby own_d6_20) hr, hrun, hended, _, _, rfl, ?_, ⟨_, rfl⟩, hW, hsame.mono (by decide) (by decide)⟩
    show own_rm6_Q Z a b i k z vs kb us x h0 n0 _ s₁.heap _
    rw [e0]
    exact ⟨rfl, N0, rfl⟩
theorem own_pd1 : parseMethodDescriptor "([BIB)V" = some ⟨[(.array .byte), .int, .byte], none⟩ := by decide +kernel
theorem own_pd2 : parseMethodDescriptor "([B)Lcom/example/cursorwire/cursorwire/Filter;" = some ⟨[(.array .byte)], some (.object "com/example/cursorwire/cursorwire/Filter")⟩ := by decide +kernel
theorem own_pd3 : parseMethodDescriptor "()[B" = some ⟨[], some (.array .byte)⟩ := by decide +kernel
theorem own_pd4 : parseMethodDescriptor "([B[BI)Z" = some ⟨[(.array .byte), (.array .byte), .int], some .boolean⟩ := by decide +kernel
theorem own_rm0_ef (m : MethodId) (p1 : Int32) (p2 : Int32) (p3 : Int32) : entryFrame m #[(.int p1), (.int p2), (.int p3)] maxLocals = mkF m 0 #[.val (.int p1), .val (.int p2), .val (.int p3), .unset, .unset, .unset, .unset, .unset] [] := by first | (simp [entryFrame, mkF, argsToLocals, Value.category, maxLocals]; done) | rfl
def own_rm0_Q (Z : State) (p1 : Int32) (p2 : Int32) (p3 : Int32) (h0 : Heap) (n0 : Nat) (v : Option Value) (h : Heap) (L : List Loc) : Prop := v = some (.int 1) ∧ Fr n0 L
set_option maxRecDepth 65536 in
set_option maxHeartbeats 40000000 in
theorem own_rm0 (l : Launch) (Z : State) (a0 : Array Value) (hw : ∀ d ∈ tables_1, d.before a0 Z = true) (ws : List Jvm.Cond) (p1 : Int32) (p2 : Int32) (p3 : Int32) (h0 : Heap) (n0 : Nat) (Z0 : n0 ≤ h0.size) :
    MetFree l x (head1 (Jvm.Cond.code x code maxLocals ret :: ws) room_1) (fun as_ U => as_ = #[(.int p1), (.int p2), (.int p3)] ∧ Z.Warmed39 U.vm ∧ U.heap = h0) (fun _ _ _ _ _ => True) (fun _ U o U' => ∃ v L, o = .returned v ∧ own_rm0_Q Z p1 p2 p3 h0 n0 v U'.heap L ∧ FrameEnd U o U' L room_1.cells room_1.slots) := by
  refine MetFree.of_bodySF (plainFor_of_name own_pn0) hisR ?_
  intro p e s m args below meth c s₁ Bd hml0 hP hK
  obtain ⟨rfl, hZ, hh⟩ := hP
  have hx := Bd.exec
  have hby := Bd.bytes
  have hml : c.maxLocals = 8 := hml0
  have hown : s.vm.findClass "com/example/cursorwire/cursorwire/FilterFromBytesPinLaw" = some m.cls := findClass_of_methodNamed Bd.named
  have hnm := (name_of_methodNamed Bd.named Bd.method).1
  have X0 : Stand p l e room_1 s m #[(.int p1), (.int p2), (.int p3)] below meth c s₁ [] 0 0 := Stand.of_body Bd
  have e0 : s₁.heap = h0 := by rw [← hh, Bd.state]; rfl
  have N0 := Fr.nil n0
  refine own_begin (own_rm0_ef m p1 p2 p3) ?_
  show Ends p.tables e below (s₁.setTop (mkF m 0 #[.val (.int p1), .val (.int p2), .val (.int p3), .unset, .unset, .unset, .unset, .unset] [])) _
  refine s_iloadN (pc' := 1) X0.here hx (hb hby at_0) rfl rfl ?_
  refine s_bipush (pc' := 3) X0.here hx (v := (7 : Int32)) (hb hby at_1) rfl rfl ?_
  refine s_iand (pc' := 4) X0.here hx (hb hby at_3) rfl ?_
  refine s_bipush (pc' := 6) X0.here hx (v := (7 : Int32)) (hb hby at_4) rfl rfl ?_
  refine s_irem (pc' := 7) X0 hx (hb hby at_6) (by decide) rfl ?_
  obtain ⟨z, hz⟩ : ∃ z : Int32, z = ((p3 &&& (7 : Int32)) % (7 : Int32)) := ⟨_, rfl⟩
  rw [← hz]
  have hz0 : ¬ z < 0 := hz ▸ (own_len p3).1
  have hz6 : z.toNatClampNeg ≤ 6 := hz ▸ (own_len p3).2
  refine s_istoreN (pc' := 8) X0.here hx (l' := #[.val (.int p1), .val (.int p2), .val (.int p3), .val (.int z), .unset, .unset, .unset, .unset]) (hb hby at_7) rfl rfl ?_
  refine s_bipush (pc' := 10) X0.here hx (v := (6 : Int32)) (hb hby at_8) rfl rfl ?_
  refine s_newP (pc' := 12) (cap := 6) X0 hx hZ (hw _ (List.mem_of_getElem? (i := 0) rfl)) e0 (hb hby at_10) (by decide) (by decide) (by decide) (by decide) (by decide) rfl fun T1 hp1 X1 e1 ka1 E1 wa gq1 A1 => ?_
  have g_wa : n0 ≤ wa := Nat.le_trans Z0 (Nat.le_of_eq gq1.symm)
  have Z2 : n0 ≤ hp1.size := Nat.le_trans Z0 E1.1
  have V3 : Arv Z hp1 wa ka1 .byte (6 : Int32) [(.int (0 : Int32)), (.int (0 : Int32)), (.int (0 : Int32)), (.int (0 : Int32)), (.int (0 : Int32)), (.int (0 : Int32))] (.int (0 : Int32)) := (Arv.new A1 (by decide)).pad (pad_rep [] (.int (0 : Int32)) 6)
  refine s_astore (pc' := 14) X1.here hx (l' := #[.val (.int p1), .val (.int p2), .val (.int p3), .val (.int z), .val (.ref wa), .unset, .unset, .unset]) (hb hby at_12) rfl rfl rfl ?_
  refine s_aload (pc' := 16) X1.here hx (hb hby at_14) rfl rfl rfl ?_
  refine s_iconst (pc' := 17) X1.here hx (v := (0 : Int32)) (hb hby at_16) rfl rfl ?_
  refine s_iloadN (pc' := 18) X1.here hx (hb hby at_17) rfl rfl ?_
  refine s_i2b (pc' := 19) X1.here hx (hb hby at_18) rfl ?_
  refine s_putB (pc' := 20) X1 hx hZ e1 V3 ⟨by decide, by decide⟩ 0 rfl (Nat.le_of_ble_eq_true rfl) (hb hby at_19) rfl fun T4 hp4 X4 e4 W4 Vw4 => ?_
  have V5 : Arv Z hp4 wa ka1 .byte (6 : Int32) [(.int (nar .byte (p1.toInt8.toInt32))), (.int (0 : Int32)), (.int (0 : Int32)), (.int (0 : Int32)), (.int (0 : Int32)), (.int (0 : Int32))] (.int (0 : Int32)) := Vw4
  have N4 := Fr.snoc X4 N0 g_wa
  have Z6 : n0 ≤ hp4.size := Nat.le_trans Z2 (Keep.of_wr W4).1
  obtain ⟨y0, hy0⟩ : ∃ y, y = (nar .byte (p1.toInt8.toInt32)) := ⟨_, rfl⟩
  rw [← hy0] at V5
  have nn0 : nar .byte y0 = y0 := by rw [hy0]; exact own_nn _
  refine s_aload (pc' := 22) X4.here hx (hb hby at_20) rfl rfl rfl ?_
  refine s_iconst (pc' := 23) X4.here hx (v := (1 : Int32)) (hb hby at_22) rfl rfl ?_
  refine s_iloadN (pc' := 24) X4.here hx (hb hby at_23) rfl rfl ?_
  refine s_bipush (pc' := 26) X4.here hx (v := (8 : Int32)) (hb hby at_24) rfl rfl ?_
  refine s_iushr (pc' := 27) X4.here hx (hb hby at_26) rfl ?_
  refine s_i2b (pc' := 28) X4.here hx (hb hby at_27) rfl ?_
  refine s_putB (pc' := 29) X4 hx hZ e4 V5 ⟨by decide, by decide⟩ 1 rfl (Nat.le_of_ble_eq_true rfl) (hb hby at_28) rfl fun T7 hp7 X7 e7 W7 Vw7 => ?_
  have V8 : Arv Z hp7 wa ka1 .byte (6 : Int32) [(.int y0), (.int (nar .byte (((p1.toUInt32 >>> ((8 : Int32) &&& 31).toUInt32).toInt32).toInt8.toInt32))), (.int (0 : Int32)), (.int (0 : Int32)), (.int (0 : Int32)), (.int (0 : Int32))] (.int (0 : Int32)) := Vw7
  have N7 := Fr.snoc X7 N4 g_wa
  have Z9 : n0 ≤ hp7.size := Nat.le_trans Z6 (Keep.of_wr W7).1
  obtain ⟨y1, hy1⟩ : ∃ y, y = (nar .byte (((p1.toUInt32 >>> ((8 : Int32) &&& 31).toUInt32).toInt32).toInt8.toInt32)) := ⟨_, rfl⟩
  rw [← hy1] at V8
  have nn1 : nar .byte y1 = y1 := by rw [hy1]; exact own_nn _
  refine s_aload (pc' := 31) X7.here hx (hb hby at_29) rfl rfl rfl ?_
  refine s_iconst (pc' := 32) X7.here hx (v := (2 : Int32)) (hb hby at_31) rfl rfl ?_
  refine s_iloadN (pc' := 33) X7.here hx (hb hby at_32) rfl rfl ?_
  refine s_bipush (pc' := 35) X7.here hx (v := (16 : Int32)) (hb hby at_33) rfl rfl ?_
  refine s_iushr (pc' := 36) X7.here hx (hb hby at_35) rfl ?_
  refine s_i2b (pc' := 37) X7.here hx (hb hby at_36) rfl ?_
  refine s_putB (pc' := 38) X7 hx hZ e7 V8 ⟨by decide, by decide⟩ 2 rfl (Nat.le_of_ble_eq_true rfl) (hb hby at_37) rfl fun T10 hp10 X10 e10 W10 Vw10 => ?_
  have V11 : Arv Z hp10 wa ka1 .byte (6 : Int32) [(.int y0), (.int y1), (.int (nar .byte (((p1.toUInt32 >>> ((16 : Int32) &&& 31).toUInt32).toInt32).toInt8.toInt32))), (.int (0 : Int32)), (.int (0 : Int32)), (.int (0 : Int32))] (.int (0 : Int32)) := Vw10
  have N10 := Fr.snoc X10 N7 g_wa
  have Z12 : n0 ≤ hp10.size := Nat.le_trans Z9 (Keep.of_wr W10).1
  obtain ⟨y2, hy2⟩ : ∃ y, y = (nar .byte (((p1.toUInt32 >>> ((16 : Int32) &&& 31).toUInt32).toInt32).toInt8.toInt32)) := ⟨_, rfl⟩
  rw [← hy2] at V11
  have nn2 : nar .byte y2 = y2 := by rw [hy2]; exact own_nn _
  refine s_aload (pc' := 40) X10.here hx (hb hby at_38) rfl rfl rfl ?_
  refine s_iconst (pc' := 41) X10.here hx (v := (3 : Int32)) (hb hby at_40) rfl rfl ?_
  refine s_iloadN (pc' := 42) X10.here hx (hb hby at_41) rfl rfl ?_
  refine s_bipush (pc' := 44) X10.here hx (v := (24 : Int32)) (hb hby at_42) rfl rfl ?_
  refine s_iushr (pc' := 45) X10.here hx (hb hby at_44) rfl ?_
  refine s_i2b (pc' := 46) X10.here hx (hb hby at_45) rfl ?_
  refine s_putB (pc' := 47) X10 hx hZ e10 V11 ⟨by decide, by decide⟩ 3 rfl (Nat.le_of_ble_eq_true rfl) (hb hby at_46) rfl fun T13 hp13 X13 e13 W13 Vw13 => ?_
  have V14 : Arv Z hp13 wa ka1 .byte (6 : Int32) [(.int y0), (.int y1), (.int y2), (.int (nar .byte (((p1.toUInt32 >>> ((24 : Int32) &&& 31).toUInt32).toInt32).toInt8.toInt32))), (.int (0 : Int32)), (.int (0 : Int32))] (.int (0 : Int32)) := Vw13
  have N13 := Fr.snoc X13 N10 g_wa
  have Z15 : n0 ≤ hp13.size := Nat.le_trans Z12 (Keep.of_wr W13).1
  obtain ⟨y3, hy3⟩ : ∃ y, y = (nar .byte (((p1.toUInt32 >>> ((24 : Int32) &&& 31).toUInt32).toInt32).toInt8.toInt32)) := ⟨_, rfl⟩
  rw [← hy3] at V14
  have nn3 : nar .byte y3 = y3 := by rw [hy3]; exact own_nn _
  refine s_aload (pc' := 49) X13.here hx (hb hby at_47) rfl rfl rfl ?_
  refine s_iconst (pc' := 50) X13.here hx (v := (4 : Int32)) (hb hby at_49) rfl rfl ?_
  refine s_iloadN (pc' := 51) X13.here hx (hb hby at_50) rfl rfl ?_
  refine s_i2b (pc' := 52) X13.here hx (hb hby at_51) rfl ?_
  refine s_putB (pc' := 53) X13 hx hZ e13 V14 ⟨by decide, by decide⟩ 4 rfl (Nat.le_of_ble_eq_true rfl) (hb hby at_52) rfl fun T16 hp16 X16 e16 W16 Vw16 => ?_
  have V17 : Arv Z hp16 wa ka1 .byte (6 : Int32) [(.int y0), (.int y1), (.int y2), (.int y3), (.int (nar .byte (p2.toInt8.toInt32))), (.int (0 : Int32))] (.int (0 : Int32)) := Vw16
  have N16 := Fr.snoc X16 N13 g_wa
  have Z18 : n0 ≤ hp16.size := Nat.le_trans Z15 (Keep.of_wr W16).1
  obtain ⟨y4, hy4⟩ : ∃ y, y = (nar .byte (p2.toInt8.toInt32)) := ⟨_, rfl⟩
  rw [← hy4] at V17
  have nn4 : nar .byte y4 = y4 := by rw [hy4]; exact own_nn _
  refine s_aload (pc' := 55) X16.here hx (hb hby at_53) rfl rfl rfl ?_
  refine s_iconst (pc' := 56) X16.here hx (v := (5 : Int32)) (hb hby at_55) rfl rfl ?_
  refine s_iloadN (pc' := 57) X16.here hx (hb hby at_56) rfl rfl ?_
  refine s_bipush (pc' := 59) X16.here hx (v := (8 : Int32)) (hb hby at_57) rfl rfl ?_
  refine s_iushr (pc' := 60) X16.here hx (hb hby at_59) rfl ?_
  refine s_i2b (pc' := 61) X16.here hx (hb hby at_60) rfl ?_
  refine s_putB (pc' := 62) X16 hx hZ e16 V17 ⟨by decide, by decide⟩ 5 rfl (Nat.le_of_ble_eq_true rfl) (hb hby at_61) rfl fun T19 hp19 X19 e19 W19 Vw19 => ?_
  have V20 : Arv Z hp19 wa ka1 .byte (6 : Int32) [(.int y0), (.int y1), (.int y2), (.int y3), (.int y4), (.int (nar .byte (((p2.toUInt32 >>> ((8 : Int32) &&& 31).toUInt32).toInt32).toInt8.toInt32)))] (.int (0 : Int32)) := Vw19
  have N19 := Fr.snoc X19 N16 g_wa
  have Z21 : n0 ≤ hp19.size := Nat.le_trans Z18 (Keep.of_wr W19).1
  obtain ⟨y5, hy5⟩ : ∃ y, y = (nar .byte (((p2.toUInt32 >>> ((8 : Int32) &&& 31).toUInt32).toInt32).toInt8.toInt32)) := ⟨_, rfl⟩
  rw [← hy5] at V20
  have nn5 : nar .byte y5 = y5 := by rw [hy5]; exact own_nn _
  refine s_iloadN (pc' := 63) X19.here hx (hb hby at_62) rfl rfl ?_
  refine s_newPE (pc' := 65) (cap := 6) X19 hx hZ (hw _ (List.mem_of_getElem? (i := 0) rfl)) e19 (hb hby at_63) hz0 hz6 (by decide) (by decide) (by decide) (ad := "[B") (by decide) rfl fun T22 hp22 X22 e22 ka22 E22 fo gq22 A22 Ex22 => ?_
  have g_fo : n0 ≤ fo := Nat.le_trans Z21 (Nat.le_of_eq gq22.symm)
  have ne23 : wa ≠ fo := Nat.ne_of_lt (Nat.lt_of_lt_of_le V20.lt (Nat.le_of_eq gq22.symm))
  have f24 := V20.ext E22
  have Z25 : n0 ≤ hp22.size := Nat.le_trans Z21 E22.1
  have V26 : Arv Z hp22 fo ka22 .byte z [(.int (0 : Int32)), (.int (0 : Int32)), (.int (0 : Int32)), (.int (0 : Int32)), (.int (0 : Int32)), (.int (0 : Int32))] (.int (0 : Int32)) := (Arv.new A22 hz0).pad (pad_rep [] (.int (0 : Int32)) 6)
  refine s_astore (pc' := 67) X22.here hx (l' := #[.val (.int p1), .val (.int p2), .val (.int p3), .val (.int z), .val (.ref wa), .val (.ref fo), .unset, .unset]) (hb hby at_65) rfl rfl rfl ?_
  refine s_aload (pc' := 69) X22.here hx (hb hby at_67) rfl rfl rfl ?_
  refine s_iconst (pc' := 70) X22.here hx (v := (0 : Int32)) (hb hby at_69) rfl rfl ?_
  refine s_aload (pc' := 72) X22.here hx (hb hby at_70) rfl rfl rfl ?_
  refine s_iconst (pc' := 73) X22.here hx (v := (0 : Int32)) (hb hby at_72) rfl rfl ?_
  refine s_baload (pc' := 74) (v := (.int y0)) X22 hx hZ e22 f24 ⟨by decide, by decide⟩ rfl (hb hby at_73) rfl ?_
  refine s_callS (pc' := 77) (W := 0) X22 hx hZ  hown (hw _ (List.mem_of_getElem? (i := 1) rfl)) (hw _ (List.mem_of_getElem? (i := 2) rfl)) (hw _ (List.mem_of_getElem? (i := 3) rfl)) (hw _ (List.mem_of_getElem? (i := 4) rfl)) (by decide) e22 (own_rm1 l Z a0 hw [] fo ka22 z [(.int (0 : Int32)), (.int (0 : Int32)), (.int (0 : Int32)), (.int (0 : Int32)), (.int (0 : Int32)), (.int (0 : Int32))] (0 : Int32) 0 y0 hp22 n0 Z25 V26 (by decide) rfl (Nat.le_of_ble_eq_true rfl) nn0 g_fo) (by rw [hml]; rfl) [(.ref fo), (.int (0 : Int32)), (.int y0)] [] rfl (lenOf own_pd1 rfl) rfl (Nat.le_of_eq rfl) (by decide) (by decide) (by decide) (by decide) rfl (hb hby at_74) fun T28 v28 Lc28 X28 hQ28 => ?_
  obtain ⟨rfl, Nq28, Kq28, Vp27⟩ := hQ28
  have N28 := Fr.app N19 Nq28
  have f29 := f24.keep Kq28 (ninS ne23 nin0)
  have f30 := Ex22.keep Kq28
  have Z31 : n0 ≤ T28.heap.size := Nat.le_trans Z25 Kq28.1
  show Ends p.tables e below (T28.setTop (mkF m 77 #[.val (.int p1), .val (.int p2), .val (.int p3), .val (.int z), .val (.ref wa), .val (.ref fo), .unset, .unset] [])) _
  refine s_aload (pc' := 79) X28.here hx (hb hby at_77) rfl rfl rfl ?_
  refine s_iconst (pc' := 80) X28.here hx (v := (1 : Int32)) (hb hby at_79) rfl rfl ?_
  refine s_aload (pc' := 82) X28.here hx (hb hby at_80) rfl rfl rfl ?_
  refine s_iconst (pc' := 83) X28.here hx (v := (1 : Int32)) (hb hby at_82) rfl rfl ?_
  refine s_baload (pc' := 84) (v := (.int y1)) X28 hx hZ rfl f29 ⟨by decide, by decide⟩ rfl (hb hby at_83) rfl ?_
  refine s_callS (pc' := 87) (W := 0) X28 hx hZ  hown (hw _ (List.mem_of_getElem? (i := 1) rfl)) (hw _ (List.mem_of_getElem? (i := 2) rfl)) (hw _ (List.mem_of_getElem? (i := 3) rfl)) (hw _ (List.mem_of_getElem? (i := 4) rfl)) (by decide) rfl (own_rm1 l Z a0 hw [] fo ka22 z [(.int y0), (.int (0 : Int32)), (.int (0 : Int32)), (.int (0 : Int32)), (.int (0 : Int32)), (.int (0 : Int32))] (1 : Int32) 1 y1 T28.heap n0 Z31 Vp27 (by decide) rfl (Nat.le_of_ble_eq_true rfl) nn1 g_fo) (by rw [hml]; rfl) [(.ref fo), (.int (1 : Int32)), (.int y1)] [] rfl (lenOf own_pd1 rfl) rfl (Nat.le_of_eq rfl) (by decide) (by decide) (by decide) (by decide) rfl (hb hby at_84) fun T33 v33 Lc33 X33 hQ33 => ?_
  obtain ⟨rfl, Nq33, Kq33, Vp32⟩ := hQ33
  have N33 := Fr.app N28 Nq33
  have f34 := f29.keep Kq33 (ninS ne23 nin0)
  have f35 := f30.keep Kq33
  have Z36 : n0 ≤ T33.heap.size := Nat.le_trans Z31 Kq33.1
  show Ends p.tables e below (T33.setTop (mkF m 87 #[.val (.int p1), .val (.int p2), .val (.int p3), .val (.int z), .val (.ref wa), .val (.ref fo), .unset, .unset] [])) _
  refine s_aload (pc' := 89) X33.here hx (hb hby at_87) rfl rfl rfl ?_
  refine s_iconst (pc' := 90) X33.here hx (v := (2 : Int32)) (hb hby at_89) rfl rfl ?_
  refine s_aload (pc' := 92) X33.here hx (hb hby at_90) rfl rfl rfl ?_
  refine s_iconst (pc' := 93) X33.here hx (v := (2 : Int32)) (hb hby at_92) rfl rfl ?_
  refine s_baload (pc' := 94) (v := (.int y2)) X33 hx hZ rfl f34 ⟨by decide, by decide⟩ rfl (hb hby at_93) rfl ?_
  refine s_callS (pc' := 97) (W := 0) X33 hx hZ  hown (hw _ (List.mem_of_getElem? (i := 1) rfl)) (hw _ (List.mem_of_getElem? (i := 2) rfl)) (hw _ (List.mem_of_getElem? (i := 3) rfl)) (hw _ (List.mem_of_getElem? (i := 4) rfl)) (by decide) rfl (own_rm1 l Z a0 hw [] fo ka22 z [(.int y0), (.int y1), (.int (0 : Int32)), (.int (0 : Int32)), (.int (0 : Int32)), (.int (0 : Int32))] (2 : Int32) 2 y2 T33.heap n0 Z36 Vp32 (by decide) rfl (Nat.le_of_ble_eq_true rfl) nn2 g_fo) (by rw [hml]; rfl) [(.ref fo), (.int (2 : Int32)), (.int y2)] [] rfl (lenOf own_pd1 rfl) rfl (Nat.le_of_eq rfl) (by decide) (by decide) (by decide) (by decide) rfl (hb hby at_94) fun T38 v38 Lc38 X38 hQ38 => ?_
  obtain ⟨rfl, Nq38, Kq38, Vp37⟩ := hQ38
  have N38 := Fr.app N33 Nq38
  have f39 := f34.keep Kq38 (ninS ne23 nin0)
  have f40 := f35.keep Kq38
  have Z41 : n0 ≤ T38.heap.size := Nat.le_trans Z36 Kq38.1
  show Ends p.tables e below (T38.setTop (mkF m 97 #[.val (.int p1), .val (.int p2), .val (.int p3), .val (.int z), .val (.ref wa), .val (.ref fo), .unset, .unset] [])) _
  refine s_aload (pc' := 99) X38.here hx (hb hby at_97) rfl rfl rfl ?_
  refine s_iconst (pc' := 100) X38.here hx (v := (3 : Int32)) (hb hby at_99) rfl rfl ?_
  refine s_aload (pc' := 102) X38.here hx (hb hby at_100) rfl rfl rfl ?_
  refine s_iconst (pc' := 103) X38.here hx (v := (3 : Int32)) (hb hby at_102) rfl rfl ?_
  refine s_baload (pc' := 104) (v := (.int y3)) X38 hx hZ rfl f39 ⟨by decide, by decide⟩ rfl (hb hby at_103) rfl ?_
  refine s_callS (pc' := 107) (W := 0) X38 hx hZ  hown (hw _ (List.mem_of_getElem? (i := 1) rfl)) (hw _ (List.mem_of_getElem? (i := 2) rfl)) (hw _ (List.mem_of_getElem? (i := 3) rfl)) (hw _ (List.mem_of_getElem? (i := 4) rfl)) (by decide) rfl (own_rm1 l Z a0 hw [] fo ka22 z [(.int y0), (.int y1), (.int y2), (.int (0 : Int32)), (.int (0 : Int32)), (.int (0 : Int32))] (3 : Int32) 3 y3 T38.heap n0 Z41 Vp37 (by decide) rfl (Nat.le_of_ble_eq_true rfl) nn3 g_fo) (by rw [hml]; rfl) [(.ref fo), (.int (3 : Int32)), (.int y3)] [] rfl (lenOf own_pd1 rfl) rfl (Nat.le_of_eq rfl) (by decide) (by decide) (by decide) (by decide) rfl (hb hby at_104) fun T43 v43 Lc43 X43 hQ43 => ?_
  obtain ⟨rfl, Nq43, Kq43, Vp42⟩ := hQ43
  have N43 := Fr.app N38 Nq43
  have f44 := f39.keep Kq43 (ninS ne23 nin0)
  have f45 := f40.keep Kq43
  have Z46 : n0 ≤ T43.heap.size := Nat.le_trans Z41 Kq43.1
  show Ends p.tables e below (T43.setTop (mkF m 107 #[.val (.int p1), .val (.int p2), .val (.int p3), .val (.int z), .val (.ref wa), .val (.ref fo), .unset, .unset] [])) _
  refine s_aload (pc' := 109) X43.here hx (hb hby at_107) rfl rfl rfl ?_
  refine s_iconst (pc' := 110) X43.here hx (v := (4 : Int32)) (hb hby at_109) rfl rfl ?_
  refine s_aload (pc' := 112) X43.here hx (hb hby at_110) rfl rfl rfl ?_
  refine s_iconst (pc' := 113) X43.here hx (v := (4 : Int32)) (hb hby at_112) rfl rfl ?_
  refine s_baload (pc' := 114) (v := (.int y4)) X43 hx hZ rfl f44 ⟨by decide, by decide⟩ rfl (hb hby at_113) rfl ?_
  refine s_callS (pc' := 117) (W := 0) X43 hx hZ  hown (hw _ (List.mem_of_getElem? (i := 1) rfl)) (hw _ (List.mem_of_getElem? (i := 2) rfl)) (hw _ (List.mem_of_getElem? (i := 3) rfl)) (hw _ (List.mem_of_getElem? (i := 4) rfl)) (by decide) rfl (own_rm1 l Z a0 hw [] fo ka22 z [(.int y0), (.int y1), (.int y2), (.int y3), (.int (0 : Int32)), (.int (0 : Int32))] (4 : Int32) 4 y4 T43.heap n0 Z46 Vp42 (by decide) rfl (Nat.le_of_ble_eq_true rfl) nn4 g_fo) (by rw [hml]; rfl) [(.ref fo), (.int (4 : Int32)), (.int y4)] [] rfl (lenOf own_pd1 rfl) rfl (Nat.le_of_eq rfl) (by decide) (by decide) (by decide) (by decide) rfl (hb hby at_114) fun T48 v48 Lc48 X48 hQ48 => ?_
  obtain ⟨rfl, Nq48, Kq48, Vp47⟩ := hQ48
  have N48 := Fr.app N43 Nq48
  have f49 := f44.keep Kq48 (ninS ne23 nin0)
  have f50 := f45.keep Kq48
  have Z51 : n0 ≤ T48.heap.size := Nat.le_trans Z46 Kq48.1
  show Ends p.tables e below (T48.setTop (mkF m 117 #[.val (.int p1), .val (.int p2), .val (.int p3), .val (.int z), .val (.ref wa), .val (.ref fo), .unset, .unset] [])) _
  refine s_aload (pc' := 119) X48.here hx (hb hby at_117) rfl rfl rfl ?_
  refine s_iconst (pc' := 120) X48.here hx (v := (5 : Int32)) (hb hby at_119) rfl rfl ?_
  refine s_aload (pc' := 122) X48.here hx (hb hby at_120) rfl rfl rfl ?_
  refine s_iconst (pc' := 123) X48.here hx (v := (5 : Int32)) (hb hby at_122) rfl rfl ?_
  refine s_baload (pc' := 124) (v := (.int y5)) X48 hx hZ rfl f49 ⟨by decide, by decide⟩ rfl (hb hby at_123) rfl ?_
  refine s_callS (pc' := 127) (W := 0) X48 hx hZ  hown (hw _ (List.mem_of_getElem? (i := 1) rfl)) (hw _ (List.mem_of_getElem? (i := 2) rfl)) (hw _ (List.mem_of_getElem? (i := 3) rfl)) (hw _ (List.mem_of_getElem? (i := 4) rfl)) (by decide) rfl (own_rm1 l Z a0 hw [] fo ka22 z [(.int y0), (.int y1), (.int y2), (.int y3), (.int y4), (.int (0 : Int32))] (5 : Int32) 5 y5 T48.heap n0 Z51 Vp47 (by decide) rfl (Nat.le_of_ble_eq_true rfl) nn5 g_fo) (by rw [hml]; rfl) [(.ref fo), (.int (5 : Int32)), (.int y5)] [] rfl (lenOf own_pd1 rfl) rfl (Nat.le_of_eq rfl) (by decide) (by decide) (by decide) (by decide) rfl (hb hby at_124) fun T53 v53 Lc53 X53 hQ53 => ?_
  obtain ⟨rfl, Nq53, Kq53, Vp52⟩ := hQ53
  have N53 := Fr.app N48 Nq53
  have f54 := f49.keep Kq53 (ninS ne23 nin0)
  have f55 := f50.keep Kq53
  have Z56 : n0 ≤ T53.heap.size := Nat.le_trans Z51 Kq53.1
  show Ends p.tables e below (T53.setTop (mkF m 127 #[.val (.int p1), .val (.int p2), .val (.int p3), .val (.int z), .val (.ref wa), .val (.ref fo), .unset, .unset] [])) _
  refine s_aload (pc' := 129) X53.here hx (hb hby at_127) rfl rfl rfl ?_
  refine s_callS (pc' := 132) (W := 0) X53 hx hZ  hown (hw _ (List.mem_of_getElem? (i := 5) rfl)) (hw _ (List.mem_of_getElem? (i := 6) rfl)) (hw _ (List.mem_of_getElem? (i := 7) rfl)) (hw _ (List.mem_of_getElem? (i := 8) rfl)) (by decide) rfl (own_rm2 l Z a0 hw [] fo ka22 z [(.int y0), (.int y1), (.int y2), (.int y3), (.int y4), (.int y5)] T53.heap n0 Z56 Vp52 f55 hz6) (by rw [hml]; rfl) [(.ref fo)] [] rfl (lenOf own_pd2 rfl) rfl (Nat.le_of_eq rfl) (by decide) (by decide) (by decide) (by decide) rfl (hb hby at_129) fun T57 v57 Lc57 X57 hQ57 => ?_
  obtain ⟨fi, cb, rfl, Nq57, Kq57, szf, szb, Exf, Ff, Vb, Exb⟩ := hQ57
  have g_fi : n0 ≤ fi := Nat.le_trans Z56 szf
  have ne58 : wa ≠ fi := Nat.ne_of_lt (Nat.lt_of_lt_of_le f54.lt szf)
  have ne59 : fo ≠ fi := Nat.ne_of_lt (Nat.lt_of_lt_of_le f55.lt szf)
  have g_cb : n0 ≤ cb := Nat.le_trans Z56 szb
  have ne60 : wa ≠ cb := Nat.ne_of_lt (Nat.lt_of_lt_of_le f54.lt szb)
  have ne61 : fo ≠ cb := Nat.ne_of_lt (Nat.lt_of_lt_of_le f55.lt szb)
  have N57 := Fr.app N53 Nq57
  have f62 := f54.keep Kq57 nin0
  have f63 := f55.keep Kq57
  have f64 := Vp52.keep Kq57 nin0
  have Z65 : n0 ≤ T57.heap.size := Nat.le_trans Z56 Kq57.1
  show Ends p.tables e below (T57.setTop (mkF m 132 #[.val (.int p1), .val (.int p2), .val (.int p3), .val (.int z), .val (.ref wa), .val (.ref fo), .unset, .unset] [(.ref fi)])) _
  refine s_astore (pc' := 134) X57.here hx (l' := #[.val (.int p1), .val (.int p2), .val (.int p3), .val (.int z), .val (.ref wa), .val (.ref fo), .val (.ref fi), .unset]) (hb hby at_132) rfl rfl rfl ?_
  refine s_aload (pc' := 136) X57.here hx (hb hby at_134) rfl rfl rfl ?_
  refine s_iconst (pc' := 137) X57.here hx (v := (0 : Int32)) (hb hby at_136) rfl rfl ?_
  refine s_aload (pc' := 139) X57.here hx (hb hby at_137) rfl rfl rfl ?_
  refine s_iconst (pc' := 140) X57.here hx (v := (0 : Int32)) (hb hby at_139) rfl rfl ?_
  refine s_baload (pc' := 141) (v := (.int y0)) X57 hx hZ rfl f62 ⟨by decide, by decide⟩ rfl (hb hby at_140) rfl ?_
  refine s_iconst (pc' := 142) X57.here hx (v := (-1 : Int32)) (hb hby at_141) rfl rfl ?_
  refine s_ixor (pc' := 143) X57.here hx (hb hby at_142) rfl ?_
  refine s_i2b (pc' := 144) X57.here hx (hb hby at_143) rfl ?_
  have nb0 : nar .byte ((y0 ^^^ (-1 : Int32)).toInt8.toInt32) = ((y0 ^^^ (-1 : Int32)).toInt8.toInt32) := own_nb _
  refine s_callS (pc' := 147) (W := 0) X57 hx hZ  hown (hw _ (List.mem_of_getElem? (i := 1) rfl)) (hw _ (List.mem_of_getElem? (i := 2) rfl)) (hw _ (List.mem_of_getElem? (i := 3) rfl)) (hw _ (List.mem_of_getElem? (i := 4) rfl)) (by decide) rfl (own_rm1 l Z a0 hw [] fo ka22 z [(.int y0), (.int y1), (.int y2), (.int y3), (.int y4), (.int y5)] (0 : Int32) 0 ((y0 ^^^ (-1 : Int32)).toInt8.toInt32) T57.heap n0 Z65 f64 (by decide) rfl (Nat.le_of_ble_eq_true rfl) nb0 g_fo) (by rw [hml]; rfl) [(.ref fo), (.int (0 : Int32)), (.int ((y0 ^^^ (-1 : Int32)).toInt8.toInt32))] [] rfl (lenOf own_pd1 rfl) rfl (Nat.le_of_eq rfl) (by decide) (by decide) (by decide) (by decide) rfl (hb hby at_144) fun T67 v67 Lc67 X67 hQ67 => ?_
  obtain ⟨rfl, Nq67, Kq67, Vp66⟩ := hQ67
  have N67 := Fr.app N57 Nq67
  have f68 := f62.keep Kq67 (ninS ne23 nin0)
  have f69 := f63.keep Kq67
  have f70 := Exf.keep Kq67
  have f71 := Ff.keep Kq67 (ninS (Ne.symm ne59) nin0)
  have f72 := Vb.keep Kq67 (ninS (Ne.symm ne61) nin0)
  have f73 := Exb.keep Kq67
  have Z74 : n0 ≤ T67.heap.size := Nat.le_trans Z65 Kq67.1
  show Ends p.tables e below (T67.setTop (mkF m 147 #[.val (.int p1), .val (.int p2), .val (.int p3), .val (.int z), .val (.ref wa), .val (.ref fo), .val (.ref fi), .unset] [])) _
  refine s_aload (pc' := 149) X67.here hx (hb hby at_147) rfl rfl rfl ?_
  refine s_iconst (pc' := 150) X67.here hx (v := (1 : Int32)) (hb hby at_149) rfl rfl ?_
  refine s_aload (pc' := 152) X67.here hx (hb hby at_150) rfl rfl rfl ?_
  refine s_iconst (pc' := 153) X67.here hx (v := (1 : Int32)) (hb hby at_152) rfl rfl ?_
  refine s_baload (pc' := 154) (v := (.int y1)) X67 hx hZ rfl f68 ⟨by decide, by decide⟩ rfl (hb hby at_153) rfl ?_
  refine s_iconst (pc' := 155) X67.here hx (v := (-1 : Int32)) (hb hby at_154) rfl rfl ?_
  refine s_ixor (pc' := 156) X67.here hx (hb hby at_155) rfl ?_
  refine s_i2b (pc' := 157) X67.here hx (hb hby at_156) rfl ?_
  have nb1 : nar .byte ((y1 ^^^ (-1 : Int32)).toInt8.toInt32) = ((y1 ^^^ (-1 : Int32)).toInt8.toInt32) := own_nb _
  refine s_callS (pc' := 160) (W := 0) X67 hx hZ  hown (hw _ (List.mem_of_getElem? (i := 1) rfl)) (hw _ (List.mem_of_getElem? (i := 2) rfl)) (hw _ (List.mem_of_getElem? (i := 3) rfl)) (hw _ (List.mem_of_getElem? (i := 4) rfl)) (by decide) rfl (own_rm1 l Z a0 hw [] fo ka22 z [(.int ((y0 ^^^ (-1 : Int32)).toInt8.toInt32)), (.int y1), (.int y2), (.int y3), (.int y4), (.int y5)] (1 : Int32) 1 ((y1 ^^^ (-1 : Int32)).toInt8.toInt32) T67.heap n0 Z74 Vp66 (by decide) rfl (Nat.le_of_ble_eq_true rfl) nb1 g_fo) (by rw [hml]; rfl) [(.ref fo), (.int (1 : Int32)), (.int ((y1 ^^^ (-1 : Int32)).toInt8.toInt32))] [] rfl (lenOf own_pd1 rfl) rfl (Nat.le_of_eq rfl) (by decide) (by decide) (by decide) (by decide) rfl (hb hby at_157) fun T76 v76 Lc76 X76 hQ76 => ?_
  obtain ⟨rfl, Nq76, Kq76, Vp75⟩ := hQ76
  have N76 := Fr.app N67 Nq76
  have f77 := f68.keep Kq76 (ninS ne23 nin0)
  have f78 := f69.keep Kq76
  have f79 := f70.keep Kq76
  have f80 := f71.keep Kq76 (ninS (Ne.symm ne59) nin0)
  have f81 := f72.keep Kq76 (ninS (Ne.symm ne61) nin0)
  have f82 := f73.keep Kq76
  have Z83 : n0 ≤ T76.heap.size := Nat.le_trans Z74 Kq76.1
  show Ends p.tables e below (T76.setTop (mkF m 160 #[.val (.int p1), .val (.int p2), .val (.int p3), .val (.int z), .val (.ref wa), .val (.ref fo), .val (.ref fi), .unset] [])) _
  refine s_aload (pc' := 162) X76.here hx (hb hby at_160) rfl rfl rfl ?_
  refine s_iconst (pc' := 163) X76.here hx (v := (2 : Int32)) (hb hby at_162) rfl rfl ?_
  refine s_aload (pc' := 165) X76.here hx (hb hby at_163) rfl rfl rfl ?_
  refine s_iconst (pc' := 166) X76.here hx (v := (2 : Int32)) (hb hby at_165) rfl rfl ?_
  refine s_baload (pc' := 167) (v := (.int y2)) X76 hx hZ rfl f77 ⟨by decide, by decide⟩ rfl (hb hby at_166) rfl ?_
  refine s_iconst (pc' := 168) X76.here hx (v := (-1 : Int32)) (hb hby at_167) rfl rfl ?_
  refine s_ixor (pc' := 169) X76.here hx (hb hby at_168) rfl ?_
  refine s_i2b (pc' := 170) X76.here hx (hb hby at_169) rfl ?_
  have nb2 : nar .byte ((y2 ^^^ (-1 : Int32)).toInt8.toInt32) = ((y2 ^^^ (-1 : Int32)).toInt8.toInt32) := own_nb _
  refine s_callS (pc' := 173) (W := 0) X76 hx hZ  hown (hw _ (List.mem_of_getElem? (i := 1) rfl)) (hw _ (List.mem_of_getElem? (i := 2) rfl)) (hw _ (List.mem_of_getElem? (i := 3) rfl)) (hw _ (List.mem_of_getElem? (i := 4) rfl)) (by decide) rfl (own_rm1 l Z a0 hw [] fo ka22 z [(.int ((y0 ^^^ (-1 : Int32)).toInt8.toInt32)), (.int ((y1 ^^^ (-1 : Int32)).toInt8.toInt32)), (.int y2), (.int y3), (.int y4), (.int y5)] (2 : Int32) 2 ((y2 ^^^ (-1 : Int32)).toInt8.toInt32) T76.heap n0 Z83 Vp75 (by decide) rfl (Nat.le_of_ble_eq_true rfl) nb2 g_fo) (by rw [hml]; rfl) [(.ref fo), (.int (2 : Int32)), (.int ((y2 ^^^ (-1 : Int32)).toInt8.toInt32))] [] rfl (lenOf own_pd1 rfl) rfl (Nat.le_of_eq rfl) (by decide) (by decide) (by decide) (by decide) rfl (hb hby at_170) fun T85 v85 Lc85 X85 hQ85 => ?_
  obtain ⟨rfl, Nq85, Kq85, Vp84⟩ := hQ85
  have N85 := Fr.app N76 Nq85
  have f86 := f77.keep Kq85 (ninS ne23 nin0)
  have f87 := f78.keep Kq85
  have f88 := f79.keep Kq85
  have f89 := f80.keep Kq85 (ninS (Ne.symm ne59) nin0)
  have f90 := f81.keep Kq85 (ninS (Ne.symm ne61) nin0)
  have f91 := f82.keep Kq85
  have Z92 : n0 ≤ T85.heap.size := Nat.le_trans Z83 Kq85.1
  show Ends p.tables e below (T85.setTop (mkF m 173 #[.val (.int p1), .val (.int p2), .val (.int p3), .val (.int z), .val (.ref wa), .val (.ref fo), .val (.ref fi), .unset] [])) _
  refine s_aload (pc' := 175) X85.here hx (hb hby at_173) rfl rfl rfl ?_
  refine s_iconst (pc' := 176) X85.here hx (v := (3 : Int32)) (hb hby at_175) rfl rfl ?_
  refine s_aload (pc' := 178) X85.here hx (hb hby at_176) rfl rfl rfl ?_
  refine s_iconst (pc' := 179) X85.here hx (v := (3 : Int32)) (hb hby at_178) rfl rfl ?_
  refine s_baload (pc' := 180) (v := (.int y3)) X85 hx hZ rfl f86 ⟨by decide, by decide⟩ rfl (hb hby at_179) rfl ?_
  refine s_iconst (pc' := 181) X85.here hx (v := (-1 : Int32)) (hb hby at_180) rfl rfl ?_
  refine s_ixor (pc' := 182) X85.here hx (hb hby at_181) rfl ?_
  refine s_i2b (pc' := 183) X85.here hx (hb hby at_182) rfl ?_
  have nb3 : nar .byte ((y3 ^^^ (-1 : Int32)).toInt8.toInt32) = ((y3 ^^^ (-1 : Int32)).toInt8.toInt32) := own_nb _
  refine s_callS (pc' := 186) (W := 0) X85 hx hZ  hown (hw _ (List.mem_of_getElem? (i := 1) rfl)) (hw _ (List.mem_of_getElem? (i := 2) rfl)) (hw _ (List.mem_of_getElem? (i := 3) rfl)) (hw _ (List.mem_of_getElem? (i := 4) rfl)) (by decide) rfl (own_rm1 l Z a0 hw [] fo ka22 z [(.int ((y0 ^^^ (-1 : Int32)).toInt8.toInt32)), (.int ((y1 ^^^ (-1 : Int32)).toInt8.toInt32)), (.int ((y2 ^^^ (-1 : Int32)).toInt8.toInt32)), (.int y3), (.int y4), (.int y5)] (3 : Int32) 3 ((y3 ^^^ (-1 : Int32)).toInt8.toInt32) T85.heap n0 Z92 Vp84 (by decide) rfl (Nat.le_of_ble_eq_true rfl) nb3 g_fo) (by rw [hml]; rfl) [(.ref fo), (.int (3 : Int32)), (.int ((y3 ^^^ (-1 : Int32)).toInt8.toInt32))] [] rfl (lenOf own_pd1 rfl) rfl (Nat.le_of_eq rfl) (by decide) (by decide) (by decide) (by decide) rfl (hb hby at_183) fun T94 v94 Lc94 X94 hQ94 => ?_
  obtain ⟨rfl, Nq94, Kq94, Vp93⟩ := hQ94
  have N94 := Fr.app N85 Nq94
  have f95 := f86.keep Kq94 (ninS ne23 nin0)
  have f96 := f87.keep Kq94
  have f97 := f88.keep Kq94
  have f98 := f89.keep Kq94 (ninS (Ne.symm ne59) nin0)
  have f99 := f90.keep Kq94 (ninS (Ne.symm ne61) nin0)
  have f100 := f91.keep Kq94
  have Z101 : n0 ≤ T94.heap.size := Nat.le_trans Z92 Kq94.1
  show Ends p.tables e below (T94.setTop (mkF m 186 #[.val (.int p1), .val (.int p2), .val (.int p3), .val (.int z), .val (.ref wa), .val (.ref fo), .val (.ref fi), .unset] [])) _
  refine s_aload (pc' := 188) X94.here hx (hb hby at_186) rfl rfl rfl ?_
  refine s_iconst (pc' := 189) X94.here hx (v := (4 : Int32)) (hb hby at_188) rfl rfl ?_
  refine s_aload (pc' := 191) X94.here hx (hb hby at_189) rfl rfl rfl ?_
  refine s_iconst (pc' := 192) X94.here hx (v := (4 : Int32)) (hb hby at_191) rfl rfl ?_
  refine s_baload (pc' := 193) (v := (.int y4)) X94 hx hZ rfl f95 ⟨by decide, by decide⟩ rfl (hb hby at_192) rfl ?_
  refine s_iconst (pc' := 194) X94.here hx (v := (-1 : Int32)) (hb hby at_193) rfl rfl ?_
  refine s_ixor (pc' := 195) X94.here hx (hb hby at_194) rfl ?_
  refine s_i2b (pc' := 196) X94.here hx (hb hby at_195) rfl ?_
  have nb4 : nar .byte ((y4 ^^^ (-1 : Int32)).toInt8.toInt32) = ((y4 ^^^ (-1 : Int32)).toInt8.toInt32) := own_nb _
  refine s_callS (pc' := 199) (W := 0) X94 hx hZ  hown (hw _ (List.mem_of_getElem? (i := 1) rfl)) (hw _ (List.mem_of_getElem? (i := 2) rfl)) (hw _ (List.mem_of_getElem? (i := 3) rfl)) (hw _ (List.mem_of_getElem? (i := 4) rfl)) (by decide) rfl (own_rm1 l Z a0 hw [] fo ka22 z [(.int ((y0 ^^^ (-1 : Int32)).toInt8.toInt32)), (.int ((y1 ^^^ (-1 : Int32)).toInt8.toInt32)), (.int ((y2 ^^^ (-1 : Int32)).toInt8.toInt32)), (.int ((y3 ^^^ (-1 : Int32)).toInt8.toInt32)), (.int y4), (.int y5)] (4 : Int32) 4 ((y4 ^^^ (-1 : Int32)).toInt8.toInt32) T94.heap n0 Z101 Vp93 (by decide) rfl (Nat.le_of_ble_eq_true rfl) nb4 g_fo) (by rw [hml]; rfl) [(.ref fo), (.int (4 : Int32)), (.int ((y4 ^^^ (-1 : Int32)).toInt8.toInt32))] [] rfl (lenOf own_pd1 rfl) rfl (Nat.le_of_eq rfl) (by decide) (by decide) (by decide) (by decide) rfl (hb hby at_196) fun T103 v103 Lc103 X103 hQ103 => ?_
  obtain ⟨rfl, Nq103, Kq103, Vp102⟩ := hQ103
  have N103 := Fr.app N94 Nq103
  have f104 := f95.keep Kq103 (ninS ne23 nin0)
  have f105 := f96.keep Kq103
  have f106 := f97.keep Kq103
  have f107 := f98.keep Kq103 (ninS (Ne.symm ne59) nin0)
  have f108 := f99.keep Kq103 (ninS (Ne.symm ne61) nin0)
  have f109 := f100.keep Kq103
  have Z110 : n0 ≤ T103.heap.size := Nat.le_trans Z101 Kq103.1
  show Ends p.tables e below (T103.setTop (mkF m 199 #[.val (.int p1), .val (.int p2), .val (.int p3), .val (.int z), .val (.ref wa), .val (.ref fo), .val (.ref fi), .unset] [])) _
  refine s_aload (pc' := 201) X103.here hx (hb hby at_199) rfl rfl rfl ?_
  refine s_iconst (pc' := 202) X103.here hx (v := (5 : Int32)) (hb hby at_201) rfl rfl ?_
  refine s_aload (pc' := 204) X103.here hx (hb hby at_202) rfl rfl rfl ?_
  refine s_iconst (pc' := 205) X103.here hx (v := (5 : Int32)) (hb hby at_204) rfl rfl ?_
  refine s_baload (pc' := 206) (v := (.int y5)) X103 hx hZ rfl f104 ⟨by decide, by decide⟩ rfl (hb hby at_205) rfl ?_
  refine s_iconst (pc' := 207) X103.here hx (v := (-1 : Int32)) (hb hby at_206) rfl rfl ?_
  refine s_ixor (pc' := 208) X103.here hx (hb hby at_207) rfl ?_
  refine s_i2b (pc' := 209) X103.here hx (hb hby at_208) rfl ?_
  have nb5 : nar .byte ((y5 ^^^ (-1 : Int32)).toInt8.toInt32) = ((y5 ^^^ (-1 : Int32)).toInt8.toInt32) := own_nb _
  refine s_callS (pc' := 212) (W := 0) X103 hx hZ  hown (hw _ (List.mem_of_getElem? (i := 1) rfl)) (hw _ (List.mem_of_getElem? (i := 2) rfl)) (hw _ (List.mem_of_getElem? (i := 3) rfl)) (hw _ (List.mem_of_getElem? (i := 4) rfl)) (by decide) rfl (own_rm1 l Z a0 hw [] fo ka22 z [(.int ((y0 ^^^ (-1 : Int32)).toInt8.toInt32)), (.int ((y1 ^^^ (-1 : Int32)).toInt8.toInt32)), (.int ((y2 ^^^ (-1 : Int32)).toInt8.toInt32)), (.int ((y3 ^^^ (-1 : Int32)).toInt8.toInt32)), (.int ((y4 ^^^ (-1 : Int32)).toInt8.toInt32)), (.int y5)] (5 : Int32) 5 ((y5 ^^^ (-1 : Int32)).toInt8.toInt32) T103.heap n0 Z110 Vp102 (by decide) rfl (Nat.le_of_ble_eq_true rfl) nb5 g_fo) (by rw [hml]; rfl) [(.ref fo), (.int (5 : Int32)), (.int ((y5 ^^^ (-1 : Int32)).toInt8.toInt32))] [] rfl (lenOf own_pd1 rfl) rfl (Nat.le_of_eq rfl) (by decide) (by decide) (by decide) (by decide) rfl (hb hby at_209) fun T112 v112 Lc112 X112 hQ112 => ?_
  obtain ⟨rfl, Nq112, Kq112, Vp111⟩ := hQ112
  have N112 := Fr.app N103 Nq112
  have f113 := f104.keep Kq112 (ninS ne23 nin0)
  have f114 := f105.keep Kq112
  have f115 := f106.keep Kq112
  have f116 := f107.keep Kq112 (ninS (Ne.symm ne59) nin0)
  have f117 := f108.keep Kq112 (ninS (Ne.symm ne61) nin0)
  have f118 := f109.keep Kq112
  have Z119 : n0 ≤ T112.heap.size := Nat.le_trans Z110 Kq112.1
  show Ends p.tables e below (T112.setTop (mkF m 212 #[.val (.int p1), .val (.int p2), .val (.int p3), .val (.int z), .val (.ref wa), .val (.ref fo), .val (.ref fi), .unset] [])) _
  refine s_aload (pc' := 214) X112.here hx (hb hby at_212) rfl rfl rfl ?_
  refine s_callV (pc' := 217) (W := 0) X112 hx hZ  hown (hw _ (List.mem_of_getElem? (i := 28) rfl)) (hw _ (List.mem_of_getElem? (i := 29) rfl)) (hw _ (List.mem_of_getElem? (i := 7) rfl)) (hw _ (List.mem_of_getElem? (i := 32) rfl)) (hw _ (List.mem_of_getElem? (i := 31) rfl)) (hw _ (List.mem_of_getElem? (i := 30) rfl)) (by decide) rfl f115 (own_rm5 l Z a0 hw [] fi cb ka22 z [(.int y0), (.int y1), (.int y2), (.int y3), (.int y4), (.int y5)] T112.heap n0 Z119 f116 f117 f118 hz6) (by rw [hml]; rfl) [] [] rfl (lenOf own_pd3 rfl) rfl (Nat.le_of_eq rfl) (by decide) (by decide) (by decide) (by decide) rfl (hb hby at_214) fun T120 v120 Lc120 X120 hQ120 => ?_
  obtain ⟨go, rfl, Nq120, Kq120, szg, Vg⟩ := hQ120
  have g_go : n0 ≤ go := Nat.le_trans Z119 szg
  have ne121 : wa ≠ go := Nat.ne_of_lt (Nat.lt_of_lt_of_le f113.lt szg)
  have ne122 : fo ≠ go := Nat.ne_of_lt (Nat.lt_of_lt_of_le f114.lt szg)
  have ne123 : fi ≠ go := Nat.ne_of_lt (Nat.lt_of_lt_of_le f115.lt szg)
  have ne124 : cb ≠ go := Nat.ne_of_lt (Nat.lt_of_lt_of_le f117.lt szg)
  have N120 := Fr.app N112 Nq120
  have f125 := f113.keep Kq120 nin0
  have f126 := f114.keep Kq120
  have f127 := f115.keep Kq120
  have f128 := f116.keep Kq120 nin0
  have f129 := f117.keep Kq120 nin0
  have f130 := f118.keep Kq120
  have f131 := Vp111.keep Kq120 nin0
  have Z132 : n0 ≤ T120.heap.size := Nat.le_trans Z119 Kq120.1
  show Ends p.tables e below (T120.setTop (mkF m 217 #[.val (.int p1), .val (.int p2), .val (.int p3), .val (.int z), .val (.ref wa), .val (.ref fo), .val (.ref fi), .unset] [(.ref go)])) _
  refine s_astore (pc' := 219) X120.here hx (l' := #[.val (.int p1), .val (.int p2), .val (.int p3), .val (.int z), .val (.ref wa), .val (.ref fo), .val (.ref fi), .val (.ref go)]) (hb hby at_217) rfl rfl rfl ?_
  refine s_aload (pc' := 221) X120.here hx (hb hby at_219) rfl rfl rfl ?_
  refine s_arraylength (pc' := 222) X120 hx hZ rfl Vg (hb hby at_221) rfl ?_
  refine s_iloadN (pc' := 223) X120.here hx (hb hby at_222) rfl rfl ?_
  have hk133 : z = z := rfl
  refine s_icmpYes (pc' := 228) X120.here hx (hb hby at_223) (teq hk133).1 (by decide) (by decide) ?_
  refine s_aload (pc' := 230) X120.here hx (hb hby at_228) rfl rfl rfl ?_
  refine s_aload (pc' := 232) X120.here hx (hb hby at_230) rfl rfl rfl ?_
  refine s_iconst (pc' := 233) X120.here hx (v := (0 : Int32)) (hb hby at_232) rfl rfl ?_
  refine s_callS (pc' := 236) (W := 0) X120 hx hZ  hown (hw _ (List.mem_of_getElem? (i := 33) rfl)) (hw _ (List.mem_of_getElem? (i := 34) rfl)) (hw _ (List.mem_of_getElem? (i := 3) rfl)) (hw _ (List.mem_of_getElem? (i := 35) rfl)) (by decide) rfl (own_rm6 l Z a0 hw [] go wa (0 : Int32) ka22 z [(.int y0), (.int y1), (.int y2), (.int y3), (.int y4), (.int y5)] ka1 [(.int y0), (.int y1), (.int y2), (.int y3), (.int y4), (.int y5)] y0 T120.heap n0 Z132 Vg f125 (by decide) (by decide) rfl rfl) (by rw [hml]; rfl) [(.ref go), (.ref wa), (.int (0 : Int32))] [] rfl (lenOf own_pd4 rfl) rfl (Nat.le_of_eq rfl) (by decide) (by decide) (by decide) (by decide) rfl (hb hby at_233) fun T134 v134 Lc134 X134 hQ134 => ?_
  obtain ⟨rfl, Nq134, eh134⟩ := hQ134
  have N134 := Fr.app N120 Nq134
  show Ends p.tables e below (T134.setTop (mkF m 236 #[.val (.int p1), .val (.int p2), .val (.int p3), .val (.int z), .val (.ref wa), .val (.ref fo), .val (.ref fi), .val (.ref go)] [(.int (1 : Int32))])) _
  have hk135 : ¬ ((1 : Int32) = (0 : Int32)) := by decide
  refine s_ifNo (pc' := 239) X134.here hx (hb hby at_236) ((if0 _ _).trans (feq hk135).1) rfl ?_
  refine s_aload (pc' := 241) X134.here hx (hb hby at_239) rfl rfl rfl ?_
  refine s_aload (pc' := 243) X134.here hx (hb hby at_241) rfl rfl rfl ?_
  refine s_iconst (pc' := 244) X134.here hx (v := (1 : Int32)) (hb hby at_243) rfl rfl ?_
  refine s_callS (pc' := 247) (W := 0) X134 hx hZ  hown (hw _ (List.mem_of_getElem? (i := 33) rfl)) (hw _ (List.mem_of_getElem? (i := 34) rfl)) (hw _ (List.mem_of_getElem? (i := 3) rfl)) (hw _ (List.mem_of_getElem? (i := 35) rfl)) (by decide) eh134 (own_rm6 l Z a0 hw [] go wa (1 : Int32) ka22 z [(.int y0), (.int y1), (.int y2), (.int y3), (.int y4), (.int y5)] ka1 [(.int y0), (.int y1), (.int y2), (.int y3), (.int y4), (.int y5)] y1 T120.heap n0 Z132 Vg f125 (by decide) (by decide) rfl rfl) (by rw [hml]; rfl) [(.ref go), (.ref wa), (.int (1 : Int32))] [] rfl (lenOf own_pd4 rfl) rfl (Nat.le_of_eq rfl) (by decide) (by decide) (by decide) (by decide) rfl (hb hby at_244) fun T136 v136 Lc136 X136 hQ136 => ?_
  obtain ⟨rfl, Nq136, eh136⟩ := hQ136
  have N136 := Fr.app N134 Nq136
  show Ends p.tables e below (T136.setTop (mkF m 247 #[.val (.int p1), .val (.int p2), .val (.int p3), .val (.int z), .val (.ref wa), .val (.ref fo), .val (.ref fi), .val (.ref go)] [(.int (1 : Int32))])) _
  have hk137 : ¬ ((1 : Int32) = (0 : Int32)) := by decide
  refine s_ifNo (pc' := 250) X136.here hx (hb hby at_247) ((if0 _ _).trans (feq hk137).1) rfl ?_
  refine s_aload (pc' := 252) X136.here hx (hb hby at_250) rfl rfl rfl ?_
  refine s_aload (pc' := 254) X136.here hx (hb hby at_252) rfl rfl rfl ?_
  refine s_iconst (pc' := 255) X136.here hx (v := (2 : Int32)) (hb hby at_254) rfl rfl ?_
  refine s_callS (pc' := 258) (W := 0) X136 hx hZ  hown (hw _ (List.mem_of_getElem? (i := 33) rfl)) (hw _ (List.mem_of_getElem? (i := 34) rfl)) (hw _ (List.mem_of_getElem? (i := 3) rfl)) (hw _ (List.mem_of_getElem? (i := 35) rfl)) (by decide) eh136 (own_rm6 l Z a0 hw [] go wa (2 : Int32) ka22 z [(.int y0), (.int y1), (.int y2), (.int y3), (.int y4), (.int y5)] ka1 [(.int y0), (.int y1), (.int y2), (.int y3), (.int y4), (.int y5)] y2 T120.heap n0 Z132 Vg f125 (by decide) (by decide) rfl rfl) (by rw [hml]; rfl) [(.ref go), (.ref wa), (.int (2 : Int32))] [] rfl (lenOf own_pd4 rfl) rfl (Nat.le_of_eq rfl) (by decide) (by decide) (by decide) (by decide) rfl (hb hby at_255) fun T138 v138 Lc138 X138 hQ138 => ?_
  obtain ⟨rfl, Nq138, eh138⟩ := hQ138
  have N138 := Fr.app N136 Nq138
  show Ends p.tables e below (T138.setTop (mkF m 258 #[.val (.int p1), .val (.int p2), .val (.int p3), .val (.int z), .val (.ref wa), .val (.ref fo), .val (.ref fi), .val (.ref go)] [(.int (1 : Int32))])) _
  have hk139 : ¬ ((1 : Int32) = (0 : Int32)) := by decide
  refine s_ifNo (pc' := 261) X138.here hx (hb hby at_258) ((if0 _ _).trans (feq hk139).1) rfl ?_
  refine s_aload (pc' := 263) X138.here hx (hb hby at_261) rfl rfl rfl ?_
  refine s_aload (pc' := 265) X138.here hx (hb hby at_263) rfl rfl rfl ?_
  refine s_iconst (pc' := 266) X138.here hx (v := (3 : Int32)) (hb hby at_265) rfl rfl ?_
  refine s_callS (pc' := 269) (W := 0) X138 hx hZ  hown (hw _ (List.mem_of_getElem? (i := 33) rfl)) (hw _ (List.mem_of_getElem? (i := 34) rfl)) (hw _ (List.mem_of_getElem? (i := 3) rfl)) (hw _ (List.mem_of_getElem? (i := 35) rfl)) (by decide) eh138 (own_rm6 l Z a0 hw [] go wa (3 : Int32) ka22 z [(.int y0), (.int y1), (.int y2), (.int y3), (.int y4), (.int y5)] ka1 [(.int y0), (.int y1), (.int y2), (.int y3), (.int y4), (.int y5)] y3 T120.heap n0 Z132 Vg f125 (by decide) (by decide) rfl rfl) (by rw [hml]; rfl) [(.ref go), (.ref wa), (.int (3 : Int32))] [] rfl (lenOf own_pd4 rfl) rfl (Nat.le_of_eq rfl) (by decide) (by decide) (by decide) (by decide) rfl (hb hby at_266) fun T140 v140 Lc140 X140 hQ140 => ?_
  obtain ⟨rfl, Nq140, eh140⟩ := hQ140
  have N140 := Fr.app N138 Nq140
  show Ends p.tables e below (T140.setTop (mkF m 269 #[.val (.int p1), .val (.int p2), .val (.int p3), .val (.int z), .val (.ref wa), .val (.ref fo), .val (.ref fi), .val (.ref go)] [(.int (1 : Int32))])) _
  have hk141 : ¬ ((1 : Int32) = (0 : Int32)) := by decide
  refine s_ifNo (pc' := 272) X140.here hx (hb hby at_269) ((if0 _ _).trans (feq hk141).1) rfl ?_
  refine s_aload (pc' := 274) X140.here hx (hb hby at_272) rfl rfl rfl ?_
  refine s_aload (pc' := 276) X140.here hx (hb hby at_274) rfl rfl rfl ?_
  refine s_iconst (pc' := 277) X140.here hx (v := (4 : Int32)) (hb hby at_276) rfl rfl ?_
  refine s_callS (pc' := 280) (W := 0) X140 hx hZ  hown (hw _ (List.mem_of_getElem? (i := 33) rfl)) (hw _ (List.mem_of_getElem? (i := 34) rfl)) (hw _ (List.mem_of_getElem? (i := 3) rfl)) (hw _ (List.mem_of_getElem? (i := 35) rfl)) (by decide) eh140 (own_rm6 l Z a0 hw [] go wa (4 : Int32) ka22 z [(.int y0), (.int y1), (.int y2), (.int y3), (.int y4), (.int y5)] ka1 [(.int y0), (.int y1), (.int y2), (.int y3), (.int y4), (.int y5)] y4 T120.heap n0 Z132 Vg f125 (by decide) (by decide) rfl rfl) (by rw [hml]; rfl) [(.ref go), (.ref wa), (.int (4 : Int32))] [] rfl (lenOf own_pd4 rfl) rfl (Nat.le_of_eq rfl) (by decide) (by decide) (by decide) (by decide) rfl (hb hby at_277) fun T142 v142 Lc142 X142 hQ142 => ?_
  obtain ⟨rfl, Nq142, eh142⟩ := hQ142
  have N142 := Fr.app N140 Nq142
  show Ends p.tables e below (T142.setTop (mkF m 280 #[.val (.int p1), .val (.int p2), .val (.int p3), .val (.int z), .val (.ref wa), .val (.ref fo), .val (.ref fi), .val (.ref go)] [(.int (1 : Int32))])) _
  have hk143 : ¬ ((1 : Int32) = (0 : Int32)) := by decide
  refine s_ifNo (pc' := 283) X142.here hx (hb hby at_280) ((if0 _ _).trans (feq hk143).1) rfl ?_
  refine s_aload (pc' := 285) X142.here hx (hb hby at_283) rfl rfl rfl ?_
  refine s_aload (pc' := 287) X142.here hx (hb hby at_285) rfl rfl rfl ?_
  refine s_iconst (pc' := 288) X142.here hx (v := (5 : Int32)) (hb hby at_287) rfl rfl ?_
  refine s_callS (pc' := 291) (W := 0) X142 hx hZ  hown (hw _ (List.mem_of_getElem? (i := 33) rfl)) (hw _ (List.mem_of_getElem? (i := 34) rfl)) (hw _ (List.mem_of_getElem? (i := 3) rfl)) (hw _ (List.mem_of_getElem? (i := 35) rfl)) (by decide) eh142 (own_rm6 l Z a0 hw [] go wa (5 : Int32) ka22 z [(.int y0), (.int y1), (.int y2), (.int y3), (.int y4), (.int y5)] ka1 [(.int y0), (.int y1), (.int y2), (.int y3), (.int y4), (.int y5)] y5 T120.heap n0 Z132 Vg f125 (by decide) (by decide) rfl rfl) (by rw [hml]; rfl) [(.ref go), (.ref wa), (.int (5 : Int32))] [] rfl (lenOf own_pd4 rfl) rfl (Nat.le_of_eq rfl) (by decide) (by decide) (by decide) (by decide) rfl (hb hby at_288) fun T144 v144 Lc144 X144 hQ144 => ?_
  obtain ⟨rfl, Nq144, eh144⟩ := hQ144
  have N144 := Fr.app N142 Nq144
  show Ends p.tables e below (T144.setTop (mkF m 291 #[.val (.int p1), .val (.int p2), .val (.int p3), .val (.int z), .val (.ref wa), .val (.ref fo), .val (.ref fi), .val (.ref go)] [(.int (1 : Int32))])) _
  have hk145 : ¬ ((1 : Int32) = (0 : Int32)) := by decide
  refine s_ifNo (pc' := 294) X144.here hx (hb hby at_291) ((if0 _ _).trans (feq hk145).1) rfl ?_
  refine s_iconst (pc' := 295) X144.here hx (v := (1 : Int32)) (hb hby at_294) rfl rfl ?_
  refine s_goto (pc' := 299) X144.here hx (hb hby at_295) (by decide) (by decide) ?_
  obtain ⟨fs, hr, hrun, hended, hW, hsame⟩ := X144.leave (v := some (.int (1 : Int32))) (fun h => by rw [Bd.returns] at h; cases h)
  refine ⟨_, _, retN X144 hx (t := .boolean) Bd.returns (by simp) (hb hby at_299) hr, hrun, hended, _, _, rfl, ?_, ⟨_, rfl⟩, hW, hsame.mono (by decide) (by decide)⟩
  show own_rm0_Q Z p1 p2 p3 h0 n0 _ T144.heap _
  rw [eh144]
  exact ⟨rfl, N144⟩
set_option maxRecDepth 65536 in
set_option maxHeartbeats 40000000 in
theorem comes_1 {Post : Tables → Env → Array Value → State → Outcome → State → Prop} (hpost : ∀ tb e args s v u, (limb_1_1.after args s (.returned v) u = true ∧ limb_1_2.after args s (.returned v) u = true ∧ True) → FrameEnd s (.returned v) u (Jvm.fieldLocs frame_1_writes args s ++ Jvm.arrayLocs frame_1_arrays args s ++ Jvm.staticLocs frame_1_statics s) 24 128 → Post tb e args s (.returned v) u) :
    ArmFor flags0 classFile x code maxLocals ret World_1 tables_1 room_1 Calls_1 rest_1 Pre_1 Post := by
  intro l hfl _ _ p e ha hc hk s m args below hf hA hF happ hP
  obtain ⟨hcalls, hrest, hpre⟩ := hP
  obtain ⟨-, -, -, hnamed, -, -, -, hat⟩ := (Spec.applies_iff hf).mp happ
  obtain ⟨hg, hn⟩ := and_e (Cond.before_iff.mp (show (Jvm.Cond.and given_1 narrow_1).before args s = true from hpre))
  obtain ⟨gg2, gg3⟩ := and_e hg
  obtain ⟨gg4, gg5⟩ := and_e gg3
  obtain ⟨gg6, gg7⟩ := and_e gg5
  obtain ⟨w0, w1, w2, rfl⟩ : ∃ w0 w1 w2 : Value, args = #[w0, w1, w2] := by
    have hs : args.size = 3 := by simpa [Cond.value, given_1] using gg2
    obtain ⟨L⟩ := args
    match L, hs with
    | [w0, w1, w2], _ => exact ⟨w0, w1, w2, rfl⟩
  have hw := fun d (hd : d ∈ tables_1) => atoms_spec (ws := Jvm.Cond.code x code maxLocals ret :: tables_1) hat d (List.mem_cons_of_mem _ hd)
  have hfit : Fit s := fun {y c} hc i hi => by
    obtain ⟨ha, rfl⟩ := Array.getElem?_eq_some_iff.mp hc
    have q := List.all_eq_true.mp ((Array.all_eq_true_iff_forall_mem.mp hF) _ (Array.getElem_mem ha)) i (List.mem_range.mpr hi)
    simpa [Array.getElem?_eq_getElem hi] using q
  obtain ⟨i0, ei0⟩ := is_v gg4
  obtain rfl : w0 = (.int i0) := Option.some.inj ei0
  obtain ⟨i1, ei1⟩ := is_v gg6
  obtain rfl : w1 = (.int i1) := Option.some.inj ei1
  obtain ⟨i2, ei2⟩ := is_v gg7
  obtain rfl : w2 = (.int i2) := Option.some.inj ei2
  obtain ⟨n, o, h1, h2, h3, _, L, rfl, ⟨rfl, N⟩, hq⟩ := own_rm0 l s _ hw tables_1 i0 i1 i2 s.heap s.heap.size (Nat.le_refl _) p e ha hc hk s m _ below hf ((Spec.applies_iff_loose hf).mp happ).1 ⟨rfl, State.Warmed39.refl s, rfl⟩ trivial
  refine ⟨n, _, h1, h2, h3, hpost _ _ _ _ _ _ ⟨Cond.after_iff.mpr rfl, Cond.after_iff.mpr (eq_i res_at (Term.int_eval (1)) rfl), trivial⟩ ⟨hq.1, hq.2.1, (hq.2.2.sift fun y hy => Or.inr (N y hy)).mono (by decide) (by decide)⟩⟩
theorem main_1_1 : Claimed_1_1 := comes_1 fun _ _ _ _ _ _ h hF => ⟨h.1, hF⟩
theorem main_1_2 : Claimed_1_2 := comes_1 fun _ _ _ _ _ _ h hF => ⟨h.2.1, hF⟩
end Jvm.Pilot.@@N@@
namespace Jvm.Pilot.@@N@@
open Jvm Jvm.ClassFile Sem Op Lib Jvm.Free Jvm.Stand Jvm.Pilot.@@N@@.Jvm.D
/-! MADE BY PROGRAM (witnessworld.py) out of the Statement's table words and the real class files: 10 classes; the members and pool entries that the words name. The judged class is class 1, her method 1. -/
namespace start1
open Jvm.ClassFile
def u (s : String) : CpInfo := .utf8 (stringToUtf16 s)
/-- a pool by its gaps: so many unusable entries, then the entry; so many at the end -/
def gap : Nat → List CpInfo → List CpInfo
  | 0, r => r
  | n + 1, r => .unusable :: gap n r
def poolList (es : List (Nat × CpInfo)) (last : Nat) : List CpInfo := es.foldr (fun e r => gap e.1 (e.2 :: r)) (gap last [])
def pool (es : List (Nat × CpInfo)) (last : Nat) : Array CpInfo := ⟨poolList es last⟩
def fileOf (pool : Array CpInfo) (this : Nat) (attrs : Array Attribute := #[]) (ms : Array MethodInfo := #[]) (fl : Nat := 33) (sup : Nat := 0) (ifs : Array Nat := #[]) (fds : Array FieldInfo := #[]) : ClassFile where
  minorVersion := 0
  majorVersion := 65
  constantPool := pool
  accessFlags := fl
  thisClass := this
  superClass := sup
  interfaces := ifs
  fields := fds
  methods := ms
  attributes := attrs
def plain (name : String) (sup : Option ClassId) : Class where
  name := name
  kind := .ordinary
  loader := none
  accessFlags := 33
  super := sup
  interfaces := #[]
  cf := none
  fields := #[]
  methods := #[]
  instanceTypes := #[]
  staticTypes := #[]
  resolved := #[]
  callSites := []
  init := .initialized
  statics := none
  mirror := none

def pool0 : Array CpInfo := pool [(5, u "<init>"), (0, u "()V"), (1, .class_ 10), (1, u "java/lang/Object"), (85, u "clone"), (0, u "()Ljava/lang/Object;")] 26

def k0c0 : Code := { maxStack := 0, maxLocals := 1, code := object_method_1_code, exceptionTable := #[], attributes := #[] }
def k0m0 : Method := { name := "<init>", desc := "()V", sig := { parameters := [], returnType := none }, accessFlags := 1, code := some k0c0 }
def k0m1 : Method := { name := "clone", desc := "()Ljava/lang/Object;", sig := { parameters := [], returnType := some (.object "java/lang/Object") }, accessFlags := 260, code := none }
/-- java/lang/Object -/
def k0 : Class := { plain "java/lang/Object" none with
  accessFlags := 33
  interfaces := #[]
  cf := some (fileOf pool0 8 #[] #[{ accessFlags := 1, nameIndex := 5, descriptorIndex := 6, attributes := #[] }, { accessFlags := 260, nameIndex := 96, descriptorIndex := 97, attributes := #[] }] 33 0 #[] #[])
  fields := #[]
  methods := #[k0m0, k0m1]
  instanceTypes := #[]
  staticTypes := #[]
  resolved := Array.replicate 124 none
  statics := none }

def pool1 : Array CpInfo := pool [(2, .class_ 4), (1, u "java/lang/Object"), (0, u "<init>"), (0, u "()V"), (0, .methodref 8 9), (0, .class_ 10), (0, .nameAndType 11 12), (0, u "com/example/cursorwire/cursorwire/FilterFromBytesPinLaw"), (0, u "put"), (0, u "([BIB)V"), (0, .methodref 14 15), (0, .class_ 16), (0, .nameAndType 17 18), (0, u "com/example/cursorwire/cursorwire/Filter"), (0, u "fromBytes"), (0, u "([B)Lcom/example/cursorwire/cursorwire/Filter;"), (0, .methodref 14 20), (0, .nameAndType 21 22), (0, u "toBytes"), (0, u "()[B"), (0, .methodref 8 24), (0, .nameAndType 25 26), (0, u "same"), (0, u "([B[BI)Z"), (2, u "law"), (0, u "(III)Z")] 5

def k1m0 : Method := { name := "<init>", desc := "()V", sig := { parameters := [], returnType := none }, accessFlags := 1, code := none }
def k1c1 : Code := { maxStack := 4, maxLocals := 8, code := code, exceptionTable := #[], attributes := #[] }
def k1m1 : Method := { name := "law", desc := "(III)Z", sig := { parameters := [.int, .int, .int], returnType := some .boolean }, accessFlags := 9, code := some k1c1 }
def k1c2 : Code := { maxStack := 3, maxLocals := 3, code := method_3_code, exceptionTable := #[], attributes := #[] }
def k1m2 : Method := { name := "put", desc := "([BIB)V", sig := { parameters := [(.array .byte), .int, .byte], returnType := none }, accessFlags := 10, code := some k1c2 }
def k1c3 : Code := { maxStack := 3, maxLocals := 3, code := method_4_code, exceptionTable := #[], attributes := #[] }
def k1m3 : Method := { name := "same", desc := "([B[BI)Z", sig := { parameters := [(.array .byte), (.array .byte), .int], returnType := some .boolean }, accessFlags := 10, code := some k1c3 }
/-- com/example/cursorwire/cursorwire/FilterFromBytesPinLaw -/
def k1 : Class := { plain "com/example/cursorwire/cursorwire/FilterFromBytesPinLaw" (some 0) with
  accessFlags := 49
  interfaces := #[]
  cf := some (fileOf pool1 8 #[] #[{ accessFlags := 1, nameIndex := 5, descriptorIndex := 6, attributes := #[] }, { accessFlags := 9, nameIndex := 29, descriptorIndex := 30, attributes := #[] }, { accessFlags := 10, nameIndex := 11, descriptorIndex := 12, attributes := #[] }, { accessFlags := 10, nameIndex := 25, descriptorIndex := 26, attributes := #[] }] 49 2 #[] #[])
  fields := #[]
  methods := #[k1m0, k1m1, k1m2, k1m3]
  instanceTypes := #[]
  staticTypes := #[]
  resolved := Array.replicate 36 none
  statics := none }

def pool2 : Array CpInfo := pool [(1, .class_ 2), (0, u "com/example/cursorwire/cursorwire/XmlContent"), (0, .class_ 4), (0, u "java/lang/Object")] 9

/-- com/example/cursorwire/cursorwire/XmlContent -/
def k2 : Class := { plain "com/example/cursorwire/cursorwire/XmlContent" (some 0) with
  accessFlags := 1536
  interfaces := #[]
  cf := some (fileOf pool2 1 #[] #[] 1536 3 #[] #[])
  fields := #[]
  methods := #[]
  instanceTypes := #[]
  staticTypes := #[]
  resolved := Array.replicate 14 none
  statics := none }

def pool3 : Array CpInfo := pool [(1, .methodref 2 3), (0, .class_ 4), (0, .nameAndType 5 6), (0, u "java/lang/Object"), (0, u "<init>"), (0, u "()V"), (24, u "()Ljava/lang/Object;"), (11, .class_ 44), (0, u "com/example/cursorwire/cursorwire/Filter"), (20, .fieldref 43 66), (0, .nameAndType 67 68), (0, u "m_form"), (0, u "[B"), (10, u "DIALECTS"), (0, u "Ljava/util/List;"), (42, .class_ 124), (0, u "com/example/cursorwire/cursorwire/Filter$Prefixes"), (72, .class_ 199), (1, u "com/example/cursorwire/cursorwire/Filter$Matcher"), (6, .methodref 207 208), (0, .class_ 68), (0, .nameAndType 209 31), (0, u "clone"), (0, .methodref 43 211), (0, .nameAndType 5 212), (0, u "([B)V"), (138, .class_ 352), (0, u "com/example/cursorwire/cursorwire/XmlContent"), (2, u "SEPARATOR"), (0, u "C"), (9, u "fromBytes"), (0, u "([B)Lcom/example/cursorwire/cursorwire/Filter;"), (0, u "toBytes"), (0, u "()[B")] 61

def k3c0 : Code := { maxStack := 2, maxLocals := 2, code := prog_16_method_2_code, exceptionTable := #[], attributes := #[] }
def k3m0 : Method := { name := "<init>", desc := "([B)V", sig := { parameters := [(.array .byte)], returnType := none }, accessFlags := 2, code := some k3c0 }
def k3c1 : Code := { maxStack := 3, maxLocals := 1, code := prog_16_method_4_code, exceptionTable := #[], attributes := #[] }
def k3m1 : Method := { name := "fromBytes", desc := "([B)Lcom/example/cursorwire/cursorwire/Filter;", sig := { parameters := [(.array .byte)], returnType := some (.object "com/example/cursorwire/cursorwire/Filter") }, accessFlags := 8, code := some k3c1 }
def k3c2 : Code := { maxStack := 1, maxLocals := 1, code := prog_16_method_5_code, exceptionTable := #[], attributes := #[] }
def k3m2 : Method := { name := "toBytes", desc := "()[B", sig := { parameters := [], returnType := some (.array .byte) }, accessFlags := 0, code := some k3c2 }
/-- com/example/cursorwire/cursorwire/Filter -/
def k3 : Class := { plain "com/example/cursorwire/cursorwire/Filter" (some 0) with
  accessFlags := 48
  interfaces := #[2]
  cf := some (fileOf pool3 43 #[.nestMembers #[123, 197]] #[{ accessFlags := 2, nameIndex := 5, descriptorIndex := 212, attributes := #[] }, { accessFlags := 8, nameIndex := 366, descriptorIndex := 367, attributes := #[] }, { accessFlags := 0, nameIndex := 368, descriptorIndex := 369, attributes := #[] }] 48 2 #[351] #[{ accessFlags := 24, nameIndex := 79, descriptorIndex := 80, attributes := #[] }, { accessFlags := 26, nameIndex := 355, descriptorIndex := 356, attributes := #[] }, { accessFlags := 18, nameIndex := 67, descriptorIndex := 68, attributes := #[] }])
  fields := #[{ name := "DIALECTS", type := (.object "java/util/List"), accessFlags := 24, slot := 0, constantValue := 0 }, { name := "SEPARATOR", type := .char, accessFlags := 26, slot := 1, constantValue := 0 }, { name := "m_form", type := (.array .byte), accessFlags := 18, slot := 0, constantValue := 0 }]
  methods := #[k3m0, k3m1, k3m2]
  instanceTypes := #[(.array .byte)]
  staticTypes := #[(.object "java/util/List"), .char]
  resolved := Array.replicate 431 none
  statics := none }

def pool4 : Array CpInfo := pool [(1, .class_ 2), (0, u "java/lang/Cloneable"), (0, .class_ 4), (0, u "java/lang/Object")] 2

/-- java/lang/Cloneable -/
def k4 : Class := { plain "java/lang/Cloneable" (some 0) with
  accessFlags := 1537
  interfaces := #[]
  cf := some (fileOf pool4 1 #[] #[] 1537 3 #[] #[])
  fields := #[]
  methods := #[]
  instanceTypes := #[]
  staticTypes := #[]
  resolved := Array.replicate 7 none
  statics := none }

def pool5 : Array CpInfo := pool [(1, u "java/io/Serializable"), (0, .class_ 1), (0, u "java/lang/Object"), (0, .class_ 3)] 3

/-- java/io/Serializable -/
def k5 : Class := { plain "java/io/Serializable" (some 0) with
  accessFlags := 1537
  interfaces := #[]
  cf := some (fileOf pool5 2 #[] #[] 1537 4 #[] #[])
  fields := #[]
  methods := #[]
  instanceTypes := #[]
  staticTypes := #[]
  resolved := Array.replicate 8 none
  statics := none }

/-- the primitive byte -/
def k6 : Class := { plain "byte" none with kind := .primitive 'B', accessFlags := 0x411 }
/-- [B -/
def k7 : Class := { plain "[B" (some 0) with kind := .array 6 .byte, interfaces := #[4, 5], accessFlags := 1041 }

/-- the primitive int -/
def k8 : Class := { plain "int" none with kind := .primitive 'I', accessFlags := 0x411 }
/-- [I -/
def k9 : Class := { plain "[I" (some 0) with kind := .array 8 .int, interfaces := #[4, 5], accessFlags := 1041 }

def heap : Heap := #[]
def classes : Array Class := #[k0, k1, k2, k3, k4, k5, k6, k7, k8, k9]
def interned : List (Array UInt16 × Addr) := []
def slotsUsed : Nat := 0
def theMethod : MethodId := ⟨1, 1⟩
def args0 : Array Value := #[.int 5, .int 7, .int 3]
def aboutOver (below : List Frame) : State where
  vm := { classes := classes, interned := interned.toArray }
  heap := heap
  slotsUsed := slotsUsed
  threads := #[{ frames := .invoking theMethod args0 :: below }]
def below0 : List Frame := [.native { method := ⟨0, 0⟩, args := #[] }]
def about1 : State := aboutOver below0
def p0 : Program := .bare "" "" ""
def e0 : Env := launch0.env 0 0 0
theorem w_frames : about1.frames = Frame.invoking theMethod args0 :: below0 := rfl
set_option maxRecDepth 65536 in
theorem w_args : argsFit about1.vm theMethod args0 = true := by decide +kernel
set_option maxRecDepth 65536 in
theorem w_heap : heapFits about1 = true := by decide +kernel
set_option maxRecDepth 65536 in
theorem w_runnable : about1.curStatus? = some .runnable := by decide +kernel
set_option maxRecDepth 65536 in
theorem w_alone : about1.alone = true := by decide +kernel
set_option maxRecDepth 65536 in
theorem w_named : about1.methodNamed? x = some theMethod := by decide +kernel
set_option maxRecDepth 65536 in
theorem w_hears : about1.hears theMethod below0 = true := by decide +kernel
set_option maxRecDepth 65536 in
theorem w_ripe : about1.ripe theMethod args0 below0 = true := by decide +kernel
theorem w_running : about1.status = .running := rfl
set_option maxRecDepth 65536 in
theorem w_room : about1.hasRoom e0.platform room_1 = true :=
  launch0.hasRoom_least _ room_1 (by decide +kernel) (by decide +kernel) (by decide +kernel) (by decide +kernel) (by decide +kernel) (by decide +kernel)
theorem allAtoms_all (ts : List Jvm.Cond) (a : Array Jvm.Value) (st : Jvm.State) : (allAtoms ts).before a st = ts.all (fun c => c.before a st) := by
  induction ts with
  | nil => rfl
  | cons c t ih =>
    show (Jvm.Cond.and c (allAtoms t)).before a st = _
    rw [Jvm.Cond.before_and, ih, List.all_cons]
def words1 : List Jvm.Cond := Jvm.Cond.code x code maxLocals ret :: tables_1
/-- a 'code' word, met by the world's own term for the bytes: nothing is compared byte by byte -/
theorem code_word {y : MethodName} {bytes : ByteArray} {mx : Nat} {rt : Option FieldType} {a : Array Value} {s : State} {m : MethodId} {meth : Method} {c : Code} (h1 : s.methodNamed? y = some m) (h2 : s.vm.method? m = some meth) (h3 : meth.code = some c) (h4 : c.code = bytes)
    (h5 : (c.maxLocals == mx && c.exceptionTable.isEmpty && decide (c.maxStack ≤ mostOperands) && decide (meth.sig.returnType = rt) && !meth.locks && decide (parseMethodDescriptor y.desc = some meth.sig)) = true) : (Jvm.Cond.code y bytes mx rt).before a s = true := by
  simp only [Bool.and_eq_true, beq_iff_eq, Bool.not_eq_true', decide_eq_true_eq] at h5
  obtain ⟨⟨⟨⟨⟨g1, g2⟩, g3⟩, g4⟩, g5⟩, g6⟩ := h5
  simp [Cond.before, Cond.holds, Cond.value, h1, h2, h3, h4, g1, g2, g3, g4, g5, g6]
def isCode : Jvm.Cond → Bool
  | .code _ _ _ _ => true
  | _ => false
theorem all_split {L : List Jvm.Cond} {P : Jvm.Cond → Bool} (h1 : L.all (fun c => isCode c || P c) = true) (h2 : ∀ c ∈ L.filter isCode, P c = true) : L.all P = true := by
  refine List.all_eq_true.mpr fun c hc => ?_
  have h := List.all_eq_true.mp h1 c hc
  rcases Bool.eq_false_or_eq_true (isCode c) with hi | hi
  · exact h2 c (List.mem_filter.mpr ⟨hc, hi⟩)
  · simpa [hi] using h
set_option maxRecDepth 65536 in
theorem w_c0 : (Jvm.Cond.code x code maxLocals ret).before args0 about1 = true := code_word (m := ⟨1, 1⟩) (meth := k1m1) (c := k1c1) (by decide +kernel) rfl rfl rfl (by decide +kernel)
set_option maxRecDepth 65536 in
theorem w_c1 : (Jvm.Cond.code ({ cls := "com/example/cursorwire/cursorwire/FilterFromBytesPinLaw", name := "put", desc := "([BIB)V" } : Jvm.MethodName) method_3_code (3 : Nat) (Option.none : Option Jvm.ClassFile.FieldType)).before args0 about1 = true := code_word (m := ⟨1, 2⟩) (meth := k1m2) (c := k1c2) (by decide +kernel) rfl rfl rfl (by decide +kernel)
set_option maxRecDepth 65536 in
theorem w_c2 : (Jvm.Cond.code ({ cls := "com/example/cursorwire/cursorwire/Filter", name := "fromBytes", desc := "([B)Lcom/example/cursorwire/cursorwire/Filter;" } : Jvm.MethodName) prog_16_method_4_code (1 : Nat) (Option.some (Jvm.ClassFile.FieldType.object "com/example/cursorwire/cursorwire/Filter"))).before args0 about1 = true := code_word (m := ⟨3, 1⟩) (meth := k3m1) (c := k3c1) (by decide +kernel) rfl rfl rfl (by decide +kernel)
set_option maxRecDepth 65536 in
theorem w_c3 : (Jvm.Cond.code ({ cls := "com/example/cursorwire/cursorwire/Filter", name := "<init>", desc := "([B)V" } : Jvm.MethodName) prog_16_method_2_code (2 : Nat) (Option.none : Option Jvm.ClassFile.FieldType)).before args0 about1 = true := code_word (m := ⟨3, 0⟩) (meth := k3m0) (c := k3c0) (by decide +kernel) rfl rfl rfl (by decide +kernel)
set_option maxRecDepth 65536 in
theorem w_c4 : (Jvm.Cond.code ({ cls := "java/lang/Object", name := "<init>", desc := "()V" } : Jvm.MethodName) object_method_1_code (1 : Nat) (Option.none : Option Jvm.ClassFile.FieldType)).before args0 about1 = true := code_word (m := ⟨0, 0⟩) (meth := k0m0) (c := k0c0) (by decide +kernel) rfl rfl rfl (by decide +kernel)
set_option maxRecDepth 65536 in
theorem w_c5 : (Jvm.Cond.code ({ cls := "com/example/cursorwire/cursorwire/Filter", name := "toBytes", desc := "()[B" } : Jvm.MethodName) prog_16_method_5_code (1 : Nat) (Option.some (Jvm.ClassFile.FieldType.array Jvm.ClassFile.FieldType.byte))).before args0 about1 = true := code_word (m := ⟨3, 2⟩) (meth := k3m2) (c := k3c2) (by decide +kernel) rfl rfl rfl (by decide +kernel)
set_option maxRecDepth 65536 in
theorem w_c6 : (Jvm.Cond.code ({ cls := "com/example/cursorwire/cursorwire/FilterFromBytesPinLaw", name := "same", desc := "([B[BI)Z" } : Jvm.MethodName) method_4_code (3 : Nat) (Option.some Jvm.ClassFile.FieldType.boolean)).before args0 about1 = true := code_word (m := ⟨1, 3⟩) (meth := k1m3) (c := k1c3) (by decide +kernel) rfl rfl rfl (by decide +kernel)
def codes1 : List Jvm.Cond := [Jvm.Cond.code x code maxLocals ret, Jvm.Cond.code ({ cls := "com/example/cursorwire/cursorwire/FilterFromBytesPinLaw", name := "put", desc := "([BIB)V" } : Jvm.MethodName) method_3_code (3 : Nat) (Option.none : Option Jvm.ClassFile.FieldType), Jvm.Cond.code ({ cls := "com/example/cursorwire/cursorwire/Filter", name := "fromBytes", desc := "([B)Lcom/example/cursorwire/cursorwire/Filter;" } : Jvm.MethodName) prog_16_method_4_code (1 : Nat) (Option.some (Jvm.ClassFile.FieldType.object "com/example/cursorwire/cursorwire/Filter")), Jvm.Cond.code ({ cls := "com/example/cursorwire/cursorwire/Filter", name := "<init>", desc := "([B)V" } : Jvm.MethodName) prog_16_method_2_code (2 : Nat) (Option.none : Option Jvm.ClassFile.FieldType), Jvm.Cond.code ({ cls := "java/lang/Object", name := "<init>", desc := "()V" } : Jvm.MethodName) object_method_1_code (1 : Nat) (Option.none : Option Jvm.ClassFile.FieldType), Jvm.Cond.code ({ cls := "com/example/cursorwire/cursorwire/Filter", name := "toBytes", desc := "()[B" } : Jvm.MethodName) prog_16_method_5_code (1 : Nat) (Option.some (Jvm.ClassFile.FieldType.array Jvm.ClassFile.FieldType.byte)), Jvm.Cond.code ({ cls := "com/example/cursorwire/cursorwire/FilterFromBytesPinLaw", name := "same", desc := "([B[BI)Z" } : Jvm.MethodName) method_4_code (3 : Nat) (Option.some Jvm.ClassFile.FieldType.boolean)]
set_option maxRecDepth 65536 in
theorem codes_eq : words1.filter isCode = codes1 := rfl
theorem w_codes : ∀ c ∈ words1.filter isCode, c.before args0 about1 = true := by
  rw [codes_eq]
  intro c hc
  simp only [codes1, List.mem_cons, List.not_mem_nil, or_false] at hc
  rcases hc with rfl | rfl | rfl | rfl | rfl | rfl | rfl
  · exact w_c0
  · exact w_c1
  · exact w_c2
  · exact w_c3
  · exact w_c4
  · exact w_c5
  · exact w_c6
set_option maxRecDepth 65536 in
theorem w_t1 : (words1.take 24).all (fun c => isCode c || c.before args0 about1) = true := by decide +kernel
set_option maxRecDepth 65536 in
theorem w_t2 : (words1.drop 24).all (fun c => isCode c || c.before args0 about1) = true := by decide +kernel
theorem w_tables : (allAtoms (Jvm.Cond.code x code maxLocals ret :: tables_1)).before args0 about1 = true := by
  rw [allAtoms_all]
  show words1.all (fun c => c.before args0 about1) = true
  refine all_split ?_ w_codes
  rw [← List.take_append_drop 24 words1, List.all_append, w_t1, w_t2]
  rfl
set_option maxRecDepth 65536 in
theorem w_case : (Jvm.Cond.and given_1 narrow_1).before args0 about1 = true := by decide +kernel
theorem w_applies : (headSpec (Jvm.Cond.code x code maxLocals ret :: tables_1) room_1).applies x e0.platform about1 = true :=
  (Spec.applies_iff w_frames).mpr ⟨w_running, w_runnable, w_alone, w_named, w_hears, w_ripe, w_room, w_tables⟩
theorem atStart : AtStart classFile x code maxLocals ret World_1 tables_1 room_1 Calls_1 rest_1 Pre_1 launch0 p0 e0 about1 theMethod args0 below0 :=
  ⟨lists_1, trivial, launch0.admits_env _ _ _, launch0.least_env, fairChoices_fair.cas, fairChoices_fair.clock, w_frames, w_args, w_heap, w_applies, trivial, trivial, w_case⟩
end start1
theorem witness_1 : WitnessClaimed_1 := ⟨start1.p0, start1.e0, start1.about1, start1.theMethod, start1.args0, start1.below0, start1.atStart⟩
end Jvm.Pilot.@@N@@
