import JvmDerived
import JvmDerived.Pilot.@@N@@Statement
import JvmDerived.Pilot.@@N@@Code
set_option linter.unusedVariables false
set_option linter.unusedSimpArgs false

namespace Jvm.Pilot.@@N@@
open Jvm Jvm.ClassFile Sem Op Lib Jvm.Free Jvm.Stand Jvm.LawKit Jvm.RoadKit Bundle Jvm.Pilot.@@N@@.Jvm.D
/-- from S the run comes to an end of which P holds -/
abbrev Ends (tb : Tables) (e : Env) (below : List Frame) (S : State) (P : State → Outcome → Prop) : Prop := ∃ t o, Steps tb e below S t ∧ P t o
theorem own_via {tb : Tables} {e : Env} {below : List Frame} {S S' : State} {P : State → Outcome → Prop} (h : ∀ t, Steps tb e below S' t → Steps tb e below S t) (k : Ends tb e below S' P) : Ends tb e below S P := by
  obtain ⟨t, o, a, b⟩ := k
  exact ⟨t, o, h t a, b⟩
theorem own_begin {tb : Tables} {e : Env} {below : List Frame} {T : State} {g g' : JFrame} {P : State → Outcome → Prop} (q : g = g') (k : Ends tb e below (T.setTop g') P) : ∃ t o, Steps tb e below (T.setTop g) t ∧ P t o := by
  subst q
  exact k
/-- several roads come to one place -/
theorem own_join {tb : Tables} {e : Env} {below : List Frame} {S0 : State} {P : State → Outcome → Prop} {α : Type} (S : α → State) (H : α → Prop) (k1 : (∀ w, H w → Ends tb e below (S w) P) → Ends tb e below S0 P) (k2 : ∀ w, H w → Ends tb e below (S w) P) : Ends tb e below S0 P := k1 k2
theorem own_rwm {s t : State} {o : Outcome} {L : List Loc} {k n k' n' : Nat} (h : ReturnedEndW s o t L k n) (h1 : k ≤ k') (h2 : n ≤ n') : ReturnedEndW s o t L k' n' := ⟨h.1, h.2.1, h.2.2.1, h.2.2.2.mono h1 h2⟩
theorem own_narR {v : Value} {C : String} (h : v.isRef = true) : narrow (.object C) v = v := by cases v <;> first | rfl | (simp [Value.isRef] at h)
theorem own_fitR {v : Value} {C : String} (h : v.isRef = true) : fits (.object C) v = true := by cases v <;> first | rfl | (simp [Value.isRef] at h)
theorem own_catR {v : Value} (h : v.isRef = true) : v.category = 1 := by cases v <;> first | rfl | (simp [Value.isRef] at h)
theorem own_selPriv {s : State} {args : Array Value} {y z : MethodName} (hz : z.cls = y.cls) (hsel : (Jvm.Cond.selects z.cls z z).before args s = true) (hpriv : s.PrivateAt y) (hinst : (Jvm.Cond.instanceMethod y).before args s = true) (hy : y.cls ≠ "java/lang/invoke/MethodHandle" ∧ y.cls ≠ "java/lang/invoke/VarHandle") : (Jvm.Cond.selects y.cls y y).before args s = true := by
  obtain ⟨c2, r2, m2, -, -, q3, -, kP, hkP, hkPi⟩ := Cond.selects_spec hsel
  exact selects_self_of_private (hz ▸ findClass_of_methodNamed q3) hkP hkPi hpriv hinst hy
section OwnSteps
variable {tb : Tables} [Ours tb] {e : Env} {below : List Frame} {T : State} {m : MethodId} {c : Code} {P : State → Outcome → Prop} {pc pc' : Nat} {ls l' : Array Slot} {st : List Value}
theorem s_iload (h : At T m c below) (hx : tb.exec = Jvm.exec) {k : Nat} {v : Int32} (hd : decode c.code pc = .ok (.iload k, 2)) (hl : ls[k]? = some (.val (.int v))) (hp : pc + 2 = pc') (hr : Ends tb e below (T.setTop (mkF m pc' ls (.int v :: st))) P) : Ends tb e below (T.setTop (mkF m pc ls st)) P := by
  subst hp
  exact own_via (fun t_ k_ => XS.iload h hx rfl hd hl k_) hr
theorem s_istore (h : At T m c below) (hx : tb.exec = Jvm.exec) {k : Nat} {v : Int32} (hd : decode c.code pc = .ok (.istore k, 2)) (hl : storeLocals ls k (.int v) = some l') (hp : pc + 2 = pc') (hr : Ends tb e below (T.setTop (mkF m pc' l' st)) P) : Ends tb e below (T.setTop (mkF m pc ls (.int v :: st))) P := by
  subst hp
  exact own_via (fun t_ k_ => XS.istore h hx rfl hd rfl hl k_) hr
theorem s_iloadN (h : At T m c below) (hx : tb.exec = Jvm.exec) {k : Fin 4} {v : Int32} (hd : decode c.code pc = .ok (.iload_n k, 1)) (hl : ls[k.val]? = some (.val (.int v))) (hp : pc + 1 = pc') (hr : Ends tb e below (T.setTop (mkF m pc' ls (.int v :: st))) P) : Ends tb e below (T.setTop (mkF m pc ls st)) P := by
  subst hp
  exact own_via (fun t_ k_ => XS.iloadN h hx rfl hd hl k_) hr
theorem s_istoreN (h : At T m c below) (hx : tb.exec = Jvm.exec) {k : Fin 4} {v : Int32} (hd : decode c.code pc = .ok (.istore_n k, 1)) (hl : storeLocals ls k.val (.int v) = some l') (hp : pc + 1 = pc') (hr : Ends tb e below (T.setTop (mkF m pc' l' st)) P) : Ends tb e below (T.setTop (mkF m pc ls (.int v :: st))) P := by
  subst hp
  exact own_via (fun t_ k_ => XS.istoreN h hx rfl hd rfl hl k_) hr
theorem s_lload (h : At T m c below) (hx : tb.exec = Jvm.exec) {k : Nat} {v : Int64} (hd : decode c.code pc = .ok (.lload k, 2)) (hl : ls[k]? = some (.val (.long v))) (hp : pc + 2 = pc') (hr : Ends tb e below (T.setTop (mkF m pc' ls (.long v :: st))) P) : Ends tb e below (T.setTop (mkF m pc ls st)) P := by
  subst hp
  exact own_via (fun t_ k_ => XS.lload h hx rfl hd hl k_) hr
theorem s_lstore (h : At T m c below) (hx : tb.exec = Jvm.exec) {k : Nat} {v : Int64} (hd : decode c.code pc = .ok (.lstore k, 2)) (hl : storeLocals ls k (.long v) = some l') (hp : pc + 2 = pc') (hr : Ends tb e below (T.setTop (mkF m pc' l' st)) P) : Ends tb e below (T.setTop (mkF m pc ls (.long v :: st))) P := by
  subst hp
  exact own_via (fun t_ k_ => XS.lstore h hx rfl hd rfl hl k_) hr
theorem s_lloadN (h : At T m c below) (hx : tb.exec = Jvm.exec) {k : Fin 4} {v : Int64} (hd : decode c.code pc = .ok (.lload_n k, 1)) (hl : ls[k.val]? = some (.val (.long v))) (hp : pc + 1 = pc') (hr : Ends tb e below (T.setTop (mkF m pc' ls (.long v :: st))) P) : Ends tb e below (T.setTop (mkF m pc ls st)) P := by
  subst hp
  exact own_via (fun t_ k_ => XS.lloadN h hx rfl hd hl k_) hr
theorem s_lstoreN (h : At T m c below) (hx : tb.exec = Jvm.exec) {k : Fin 4} {v : Int64} (hd : decode c.code pc = .ok (.lstore_n k, 1)) (hl : storeLocals ls k.val (.long v) = some l') (hp : pc + 1 = pc') (hr : Ends tb e below (T.setTop (mkF m pc' l' st)) P) : Ends tb e below (T.setTop (mkF m pc ls (.long v :: st))) P := by
  subst hp
  exact own_via (fun t_ k_ => XS.lstoreN h hx rfl hd rfl hl k_) hr
theorem s_dload (h : At T m c below) (hx : tb.exec = Jvm.exec) {k : Nat} {v : UInt64} (hd : decode c.code pc = .ok (.dload k, 2)) (hl : ls[k]? = some (.val (.double v))) (hp : pc + 2 = pc') (hr : Ends tb e below (T.setTop (mkF m pc' ls (.double v :: st))) P) : Ends tb e below (T.setTop (mkF m pc ls st)) P := by
  subst hp
  exact own_via (fun t_ k_ => XS.dload h hx rfl hd hl k_) hr
theorem s_dstore (h : At T m c below) (hx : tb.exec = Jvm.exec) {k : Nat} {v : UInt64} (hd : decode c.code pc = .ok (.dstore k, 2)) (hl : storeLocals ls k (.double v) = some l') (hp : pc + 2 = pc') (hr : Ends tb e below (T.setTop (mkF m pc' l' st)) P) : Ends tb e below (T.setTop (mkF m pc ls (.double v :: st))) P := by
  subst hp
  exact own_via (fun t_ k_ => XS.dstore h hx rfl hd rfl hl k_) hr
theorem s_dloadN (h : At T m c below) (hx : tb.exec = Jvm.exec) {k : Fin 4} {v : UInt64} (hd : decode c.code pc = .ok (.dload_n k, 1)) (hl : ls[k.val]? = some (.val (.double v))) (hp : pc + 1 = pc') (hr : Ends tb e below (T.setTop (mkF m pc' ls (.double v :: st))) P) : Ends tb e below (T.setTop (mkF m pc ls st)) P := by
  subst hp
  exact own_via (fun t_ k_ => XS.dloadN h hx rfl hd hl k_) hr
theorem s_dstoreN (h : At T m c below) (hx : tb.exec = Jvm.exec) {k : Fin 4} {v : UInt64} (hd : decode c.code pc = .ok (.dstore_n k, 1)) (hl : storeLocals ls k.val (.double v) = some l') (hp : pc + 1 = pc') (hr : Ends tb e below (T.setTop (mkF m pc' l' st)) P) : Ends tb e below (T.setTop (mkF m pc ls (.double v :: st))) P := by
  subst hp
  exact own_via (fun t_ k_ => XS.dstoreN h hx rfl hd rfl hl k_) hr
theorem s_aload (h : At T m c below) (hx : tb.exec = Jvm.exec) {k : Nat} {v : Value} (hd : decode c.code pc = .ok (.aload k, 2)) (hl : ls[k]? = some (.val v)) (hv : v.isRef = true) (hp : pc + 2 = pc') (hr : Ends tb e below (T.setTop (mkF m pc' ls (v :: st))) P) : Ends tb e below (T.setTop (mkF m pc ls st)) P := by
  subst hp
  exact own_via (fun t_ k_ => XS.aload h hx rfl hd hl hv k_) hr
theorem s_astore (h : At T m c below) (hx : tb.exec = Jvm.exec) {k : Nat} {v : Value} (hd : decode c.code pc = .ok (.astore k, 2)) (hv : v.isRef = true) (hl : storeLocals ls k v = some l') (hp : pc + 2 = pc') (hr : Ends tb e below (T.setTop (mkF m pc' l' st)) P) : Ends tb e below (T.setTop (mkF m pc ls (v :: st))) P := by
  subst hp
  exact own_via (fun t_ k_ => XS.astore h hx rfl hd rfl hv hl k_) hr
theorem s_aloadN (h : At T m c below) (hx : tb.exec = Jvm.exec) {k : Fin 4} {v : Value} (hd : decode c.code pc = .ok (.aload_n k, 1)) (hl : ls[k.val]? = some (.val v)) (hv : v.isRef = true) (hp : pc + 1 = pc') (hr : Ends tb e below (T.setTop (mkF m pc' ls (v :: st))) P) : Ends tb e below (T.setTop (mkF m pc ls st)) P := by
  subst hp
  exact own_via (fun t_ k_ => XS.aloadN h hx rfl hd hl hv k_) hr
theorem s_astoreN (h : At T m c below) (hx : tb.exec = Jvm.exec) {k : Fin 4} {v : Value} (hd : decode c.code pc = .ok (.astore_n k, 1)) (hv : v.isRef = true) (hl : storeLocals ls k.val v = some l') (hp : pc + 1 = pc') (hr : Ends tb e below (T.setTop (mkF m pc' l' st)) P) : Ends tb e below (T.setTop (mkF m pc ls (v :: st))) P := by
  subst hp
  exact own_via (fun t_ k_ => XS.astoreN h hx rfl hd rfl hv hl k_) hr
theorem s_iconst (h : At T m c below) (hx : tb.exec = Jvm.exec) {i : Int} {v : Int32} (hd : decode c.code pc = .ok (.iconst i, 1)) (hv : Int32.ofInt i = v) (hp : pc + 1 = pc') (hr : Ends tb e below (T.setTop (mkF m pc' ls (.int v :: st))) P) : Ends tb e below (T.setTop (mkF m pc ls st)) P := by
  subst hp hv
  exact own_via (fun t_ k_ => XS.iconst h hx rfl hd k_) hr
theorem s_bipush (h : At T m c below) (hx : tb.exec = Jvm.exec) {i : Int} {v : Int32} (hd : decode c.code pc = .ok (.bipush i, 2)) (hv : (Int8.ofInt i).toInt32 = v) (hp : pc + 2 = pc') (hr : Ends tb e below (T.setTop (mkF m pc' ls (.int v :: st))) P) : Ends tb e below (T.setTop (mkF m pc ls st)) P := by
  subst hp hv
  exact own_via (fun t_ k_ => XS.bipush h hx rfl hd k_) hr
theorem s_sipush (h : At T m c below) (hx : tb.exec = Jvm.exec) {i : Int} {v : Int32} (hd : decode c.code pc = .ok (.sipush i, 3)) (hv : (Int16.ofInt i).toInt32 = v) (hp : pc + 3 = pc') (hr : Ends tb e below (T.setTop (mkF m pc' ls (.int v :: st))) P) : Ends tb e below (T.setTop (mkF m pc ls st)) P := by
  subst hp hv
  exact own_via (fun t_ k_ => XS.sipush h hx rfl hd k_) hr
theorem s_lconst (h : At T m c below) (hx : tb.exec = Jvm.exec) {i : Fin 2} {v : Int64} (hd : decode c.code pc = .ok (.lconst i, 1)) (hv : Int64.ofNat i = v) (hp : pc + 1 = pc') (hr : Ends tb e below (T.setTop (mkF m pc' ls (.long v :: st))) P) : Ends tb e below (T.setTop (mkF m pc ls st)) P := by
  subst hp hv
  exact own_via (fun t_ k_ => XS.lconst h hx rfl hd k_) hr
theorem s_aconstNull (h : At T m c below) (hx : tb.exec = Jvm.exec)  (hd : decode c.code pc = .ok (.aconst_null, 1))  (hp : pc + 1 = pc') (hr : Ends tb e below (T.setTop (mkF m pc' ls (.null :: st))) P) : Ends tb e below (T.setTop (mkF m pc ls st)) P := by
  subst hp
  exact own_via (fun t_ k_ => XS.aconstNull h hx rfl hd k_) hr
theorem s_iadd (h : At T m c below) (hx : tb.exec = Jvm.exec) {x y : Int32} (hd : decode c.code pc = .ok (.iadd, 1))  (hp : pc + 1 = pc') (hr : Ends tb e below (T.setTop (mkF m pc' ls (.int (x + y) :: st))) P) : Ends tb e below (T.setTop (mkF m pc ls (.int y :: .int x :: st))) P := by
  subst hp
  exact own_via (fun t_ k_ => XS.iadd h hx rfl hd rfl k_) hr
theorem s_isub (h : At T m c below) (hx : tb.exec = Jvm.exec) {x y : Int32} (hd : decode c.code pc = .ok (.isub, 1))  (hp : pc + 1 = pc') (hr : Ends tb e below (T.setTop (mkF m pc' ls (.int (x - y) :: st))) P) : Ends tb e below (T.setTop (mkF m pc ls (.int y :: .int x :: st))) P := by
  subst hp
  exact own_via (fun t_ k_ => XS.isub h hx rfl hd rfl k_) hr
theorem s_imul (h : At T m c below) (hx : tb.exec = Jvm.exec) {x y : Int32} (hd : decode c.code pc = .ok (.imul, 1))  (hp : pc + 1 = pc') (hr : Ends tb e below (T.setTop (mkF m pc' ls (.int (x * y) :: st))) P) : Ends tb e below (T.setTop (mkF m pc ls (.int y :: .int x :: st))) P := by
  subst hp
  exact own_via (fun t_ k_ => XS.imul h hx rfl hd rfl k_) hr
theorem s_iand (h : At T m c below) (hx : tb.exec = Jvm.exec) {x y : Int32} (hd : decode c.code pc = .ok (.iand, 1))  (hp : pc + 1 = pc') (hr : Ends tb e below (T.setTop (mkF m pc' ls (.int (x &&& y) :: st))) P) : Ends tb e below (T.setTop (mkF m pc ls (.int y :: .int x :: st))) P := by
  subst hp
  exact own_via (fun t_ k_ => XS.iand h hx rfl hd rfl k_) hr
theorem s_ior (h : At T m c below) (hx : tb.exec = Jvm.exec) {x y : Int32} (hd : decode c.code pc = .ok (.ior, 1))  (hp : pc + 1 = pc') (hr : Ends tb e below (T.setTop (mkF m pc' ls (.int (x ||| y) :: st))) P) : Ends tb e below (T.setTop (mkF m pc ls (.int y :: .int x :: st))) P := by
  subst hp
  exact own_via (fun t_ k_ => XS.ior h hx rfl hd rfl k_) hr
theorem s_ixor (h : At T m c below) (hx : tb.exec = Jvm.exec) {x y : Int32} (hd : decode c.code pc = .ok (.ixor, 1))  (hp : pc + 1 = pc') (hr : Ends tb e below (T.setTop (mkF m pc' ls (.int (x ^^^ y) :: st))) P) : Ends tb e below (T.setTop (mkF m pc ls (.int y :: .int x :: st))) P := by
  subst hp
  exact own_via (fun t_ k_ => XS.ixor h hx rfl hd rfl k_) hr
theorem s_ishl (h : At T m c below) (hx : tb.exec = Jvm.exec) {x y : Int32} (hd : decode c.code pc = .ok (.ishl, 1))  (hp : pc + 1 = pc') (hr : Ends tb e below (T.setTop (mkF m pc' ls (.int (x <<< (y &&& 31)) :: st))) P) : Ends tb e below (T.setTop (mkF m pc ls (.int y :: .int x :: st))) P := by
  subst hp
  exact own_via (fun t_ k_ => XS.ishl h hx rfl hd rfl k_) hr
theorem s_ishr (h : At T m c below) (hx : tb.exec = Jvm.exec) {x y : Int32} (hd : decode c.code pc = .ok (.ishr, 1))  (hp : pc + 1 = pc') (hr : Ends tb e below (T.setTop (mkF m pc' ls (.int (x >>> (y &&& 31)) :: st))) P) : Ends tb e below (T.setTop (mkF m pc ls (.int y :: .int x :: st))) P := by
  subst hp
  exact own_via (fun t_ k_ => XS.ishr h hx rfl hd rfl k_) hr
theorem s_iushr (h : At T m c below) (hx : tb.exec = Jvm.exec) {x y : Int32} (hd : decode c.code pc = .ok (.iushr, 1))  (hp : pc + 1 = pc') (hr : Ends tb e below (T.setTop (mkF m pc' ls (.int ((x.toUInt32 >>> (y &&& 31).toUInt32).toInt32) :: st))) P) : Ends tb e below (T.setTop (mkF m pc ls (.int y :: .int x :: st))) P := by
  subst hp
  exact own_via (fun t_ k_ => XS.iushr h hx rfl hd rfl k_) hr
theorem s_ladd (h : At T m c below) (hx : tb.exec = Jvm.exec) {x y : Int64} (hd : decode c.code pc = .ok (.ladd, 1))  (hp : pc + 1 = pc') (hr : Ends tb e below (T.setTop (mkF m pc' ls (.long (x + y) :: st))) P) : Ends tb e below (T.setTop (mkF m pc ls (.long y :: .long x :: st))) P := by
  subst hp
  exact own_via (fun t_ k_ => XS.ladd h hx rfl hd rfl k_) hr
theorem s_lsub (h : At T m c below) (hx : tb.exec = Jvm.exec) {x y : Int64} (hd : decode c.code pc = .ok (.lsub, 1))  (hp : pc + 1 = pc') (hr : Ends tb e below (T.setTop (mkF m pc' ls (.long (x - y) :: st))) P) : Ends tb e below (T.setTop (mkF m pc ls (.long y :: .long x :: st))) P := by
  subst hp
  exact own_via (fun t_ k_ => XS.lsub h hx rfl hd rfl k_) hr
theorem s_lmul (h : At T m c below) (hx : tb.exec = Jvm.exec) {x y : Int64} (hd : decode c.code pc = .ok (.lmul, 1))  (hp : pc + 1 = pc') (hr : Ends tb e below (T.setTop (mkF m pc' ls (.long (x * y) :: st))) P) : Ends tb e below (T.setTop (mkF m pc ls (.long y :: .long x :: st))) P := by
  subst hp
  exact own_via (fun t_ k_ => XS.lmul h hx rfl hd rfl k_) hr
theorem s_land (h : At T m c below) (hx : tb.exec = Jvm.exec) {x y : Int64} (hd : decode c.code pc = .ok (.land, 1))  (hp : pc + 1 = pc') (hr : Ends tb e below (T.setTop (mkF m pc' ls (.long (x &&& y) :: st))) P) : Ends tb e below (T.setTop (mkF m pc ls (.long y :: .long x :: st))) P := by
  subst hp
  exact own_via (fun t_ k_ => XS.land h hx rfl hd rfl k_) hr
theorem s_lor (h : At T m c below) (hx : tb.exec = Jvm.exec) {x y : Int64} (hd : decode c.code pc = .ok (.lor, 1))  (hp : pc + 1 = pc') (hr : Ends tb e below (T.setTop (mkF m pc' ls (.long (x ||| y) :: st))) P) : Ends tb e below (T.setTop (mkF m pc ls (.long y :: .long x :: st))) P := by
  subst hp
  exact own_via (fun t_ k_ => XS.lor h hx rfl hd rfl k_) hr
theorem s_lxor (h : At T m c below) (hx : tb.exec = Jvm.exec) {x y : Int64} (hd : decode c.code pc = .ok (.lxor, 1))  (hp : pc + 1 = pc') (hr : Ends tb e below (T.setTop (mkF m pc' ls (.long (x ^^^ y) :: st))) P) : Ends tb e below (T.setTop (mkF m pc ls (.long y :: .long x :: st))) P := by
  subst hp
  exact own_via (fun t_ k_ => XS.lxor h hx rfl hd rfl k_) hr
theorem s_lshl (h : At T m c below) (hx : tb.exec = Jvm.exec) {x : Int64} {y : Int32} (hd : decode c.code pc = .ok (.lshl, 1))  (hp : pc + 1 = pc') (hr : Ends tb e below (T.setTop (mkF m pc' ls (.long (x <<< (y &&& 0x3f).toInt64) :: st))) P) : Ends tb e below (T.setTop (mkF m pc ls (.int y :: .long x :: st))) P := by
  subst hp
  exact own_via (fun t_ k_ => XS.lshl h hx rfl hd rfl k_) hr
theorem s_lshr (h : At T m c below) (hx : tb.exec = Jvm.exec) {x : Int64} {y : Int32} (hd : decode c.code pc = .ok (.lshr, 1))  (hp : pc + 1 = pc') (hr : Ends tb e below (T.setTop (mkF m pc' ls (.long (x >>> (y &&& 0x3f).toInt64) :: st))) P) : Ends tb e below (T.setTop (mkF m pc ls (.int y :: .long x :: st))) P := by
  subst hp
  exact own_via (fun t_ k_ => XS.lshr h hx rfl hd rfl k_) hr
theorem s_lushr (h : At T m c below) (hx : tb.exec = Jvm.exec) {x : Int64} {y : Int32} (hd : decode c.code pc = .ok (.lushr, 1))  (hp : pc + 1 = pc') (hr : Ends tb e below (T.setTop (mkF m pc' ls (.long ((x.toUInt64 >>> (y &&& 0x3f).toInt64.toUInt64).toInt64) :: st))) P) : Ends tb e below (T.setTop (mkF m pc ls (.int y :: .long x :: st))) P := by
  subst hp
  exact own_via (fun t_ k_ => XS.lushr h hx rfl hd rfl k_) hr
theorem s_idiv (h : At T m c below) (hx : tb.exec = Jvm.exec) {x y : Int32} (hd : decode c.code pc = .ok (.idiv, 1)) (hy : y ≠ 0) (hp : pc + 1 = pc') (hr : Ends tb e below (T.setTop (mkF m pc' ls (.int (x / y) :: st))) P) : Ends tb e below (T.setTop (mkF m pc ls (.int y :: .int x :: st))) P := by
  subst hp
  exact own_via (fun t_ k_ => XS.idiv h hx rfl hd rfl hy k_) hr
theorem s_ldiv (h : At T m c below) (hx : tb.exec = Jvm.exec) {x y : Int64} (hd : decode c.code pc = .ok (.ldiv, 1)) (hy : y ≠ 0) (hp : pc + 1 = pc') (hr : Ends tb e below (T.setTop (mkF m pc' ls (.long (x / y) :: st))) P) : Ends tb e below (T.setTop (mkF m pc ls (.long y :: .long x :: st))) P := by
  subst hp
  exact own_via (fun t_ k_ => XS.ldiv h hx rfl hd rfl hy k_) hr
theorem s_lrem (h : At T m c below) (hx : tb.exec = Jvm.exec) {x y : Int64} (hd : decode c.code pc = .ok (.lrem, 1)) (hy : y ≠ 0) (hp : pc + 1 = pc') (hr : Ends tb e below (T.setTop (mkF m pc' ls (.long (x % y) :: st))) P) : Ends tb e below (T.setTop (mkF m pc ls (.long y :: .long x :: st))) P := by
  subst hp
  exact own_via (fun t_ k_ => XS.lrem h hx rfl hd rfl hy (by rw [lrem_mod]; exact k_)) hr
theorem s_ineg (h : At T m c below) (hx : tb.exec = Jvm.exec) {x : Int32} (hd : decode c.code pc = .ok (.ineg, 1))  (hp : pc + 1 = pc') (hr : Ends tb e below (T.setTop (mkF m pc' ls (.int (-x) :: st))) P) : Ends tb e below (T.setTop (mkF m pc ls (.int x :: st))) P := by
  subst hp
  exact own_via (fun t_ k_ => XS.ineg h hx rfl hd rfl k_) hr
theorem s_lneg (h : At T m c below) (hx : tb.exec = Jvm.exec) {x : Int64} (hd : decode c.code pc = .ok (.lneg, 1))  (hp : pc + 1 = pc') (hr : Ends tb e below (T.setTop (mkF m pc' ls (.long (-x) :: st))) P) : Ends tb e below (T.setTop (mkF m pc ls (.long x :: st))) P := by
  subst hp
  exact own_via (fun t_ k_ => XS.lneg h hx rfl hd rfl k_) hr
theorem s_i2l (h : At T m c below) (hx : tb.exec = Jvm.exec) {x : Int32} (hd : decode c.code pc = .ok (.i2l, 1))  (hp : pc + 1 = pc') (hr : Ends tb e below (T.setTop (mkF m pc' ls (.long (x.toInt64) :: st))) P) : Ends tb e below (T.setTop (mkF m pc ls (.int x :: st))) P := by
  subst hp
  exact own_via (fun t_ k_ => XS.i2l h hx rfl hd rfl k_) hr
theorem s_l2i (h : At T m c below) (hx : tb.exec = Jvm.exec) {x : Int64} (hd : decode c.code pc = .ok (.l2i, 1))  (hp : pc + 1 = pc') (hr : Ends tb e below (T.setTop (mkF m pc' ls (.int (x.toInt32) :: st))) P) : Ends tb e below (T.setTop (mkF m pc ls (.long x :: st))) P := by
  subst hp
  exact own_via (fun t_ k_ => XS.l2i h hx rfl hd rfl k_) hr
theorem s_i2b (h : At T m c below) (hx : tb.exec = Jvm.exec) {x : Int32} (hd : decode c.code pc = .ok (.i2b, 1))  (hp : pc + 1 = pc') (hr : Ends tb e below (T.setTop (mkF m pc' ls (.int (x.toInt8.toInt32) :: st))) P) : Ends tb e below (T.setTop (mkF m pc ls (.int x :: st))) P := by
  subst hp
  exact own_via (fun t_ k_ => XS.i2b h hx rfl hd rfl k_) hr
theorem s_i2s (h : At T m c below) (hx : tb.exec = Jvm.exec) {x : Int32} (hd : decode c.code pc = .ok (.i2s, 1))  (hp : pc + 1 = pc') (hr : Ends tb e below (T.setTop (mkF m pc' ls (.int (x.toInt16.toInt32) :: st))) P) : Ends tb e below (T.setTop (mkF m pc ls (.int x :: st))) P := by
  subst hp
  exact own_via (fun t_ k_ => XS.i2s h hx rfl hd rfl k_) hr
theorem s_i2c (h : At T m c below) (hx : tb.exec = Jvm.exec) {x : Int32} (hd : decode c.code pc = .ok (.i2c, 1))  (hp : pc + 1 = pc') (hr : Ends tb e below (T.setTop (mkF m pc' ls (.int (x.toUInt32.toUInt16.toUInt32.toInt32) :: st))) P) : Ends tb e below (T.setTop (mkF m pc ls (.int x :: st))) P := by
  subst hp
  exact own_via (fun t_ k_ => XS.i2c h hx rfl hd rfl k_) hr
theorem s_lcmp (h : At T m c below) (hx : tb.exec = Jvm.exec) {x y : Int64} (hd : decode c.code pc = .ok (.lcmp, 1))  (hp : pc + 1 = pc') (hr : Ends tb e below (T.setTop (mkF m pc' ls (.int (lcmpW x y) :: st))) P) : Ends tb e below (T.setTop (mkF m pc ls (.long y :: .long x :: st))) P := by
  subst hp
  exact own_via (fun t_ k_ => XS.lcmp h hx rfl hd rfl k_) hr
theorem s_l2d (h : At T m c below) (hx : tb.exec = Jvm.exec) {x : Int64} (hd : decode c.code pc = .ok (.l2d, 1))  (hp : pc + 1 = pc') (hr : Ends tb e below (T.setTop (mkF m pc' ls (.double (FP.l2d x) :: st))) P) : Ends tb e below (T.setTop (mkF m pc ls (.long x :: st))) P := by
  subst hp
  exact own_via (fun t_ k_ => XS.l2dS h hx rfl hd rfl rfl k_) hr
theorem s_dneg (h : At T m c below) (hx : tb.exec = Jvm.exec) {x : UInt64} (hd : decode c.code pc = .ok (.dneg, 1))  (hp : pc + 1 = pc') (hr : Ends tb e below (T.setTop (mkF m pc' ls (.double (FP.dneg x) :: st))) P) : Ends tb e below (T.setTop (mkF m pc ls (.double x :: st))) P := by
  subst hp
  exact own_via (fun t_ k_ => XS.dnegS h hx rfl hd rfl rfl k_) hr
theorem s_dcmp (h : At T m c below) (hx : tb.exec = Jvm.exec) {o : CmpOp} {x y : UInt64} (hd : decode c.code pc = .ok (.dcmp o, 1))  (hp : pc + 1 = pc') (hr : Ends tb e below (T.setTop (mkF m pc' ls (.int (cmpValue (FP.dcmp x y) o) :: st))) P) : Ends tb e below (T.setTop (mkF m pc ls (.double y :: .double x :: st))) P := by
  subst hp
  exact own_via (fun t_ k_ => XS.dcmpS h hx rfl hd rfl rfl k_) hr
theorem s_iinc (h : At T m c below) (hx : tb.exec = Jvm.exec) {k : Nat} {i : Int} {x v : Int32} (hd : decode c.code pc = .ok (.iinc k i, 3)) (hv : Int32.ofInt i = v) (hl : ls[k]? = some (.val (.int x))) (hl' : storeLocals ls k (.int (x + v)) = some l') (hp : pc + 3 = pc') (hr : Ends tb e below (T.setTop (mkF m pc' l' st)) P) : Ends tb e below (T.setTop (mkF m pc ls st)) P := by
  subst hp hv
  exact own_via (fun t_ k_ => XS.iinc h hx rfl hd hl hl' k_) hr
theorem s_dup (h : At T m c below) (hx : tb.exec = Jvm.exec) {x : Value} (hd : decode c.code pc = .ok (.dup, 1)) (hc : x.category = 1) (hp : pc + 1 = pc') (hr : Ends tb e below (T.setTop (mkF m pc' ls (x :: x :: st))) P) : Ends tb e below (T.setTop (mkF m pc ls (x :: st))) P := by
  subst hp
  exact own_via (fun t_ k_ => XS.dup h hx rfl hd rfl hc k_) hr
theorem s_dupX1 (h : At T m c below) (hx : tb.exec = Jvm.exec) {x y : Value} (hd : decode c.code pc = .ok (.dup_x1, 1)) (hc : x.category = 1) (hc' : y.category = 1) (hp : pc + 1 = pc') (hr : Ends tb e below (T.setTop (mkF m pc' ls (x :: y :: x :: st))) P) : Ends tb e below (T.setTop (mkF m pc ls (x :: y :: st))) P := by
  subst hp
  exact own_via (fun t_ k_ => XS.dupX1 h hx rfl hd rfl hc hc' k_) hr
theorem s_dup2 (h : At T m c below) (hx : tb.exec = Jvm.exec) {x y : Value} (hd : decode c.code pc = .ok (.dup2, 1)) (hc : x.category = 1) (hc' : y.category = 1) (hp : pc + 1 = pc') (hr : Ends tb e below (T.setTop (mkF m pc' ls (x :: y :: x :: y :: st))) P) : Ends tb e below (T.setTop (mkF m pc ls (x :: y :: st))) P := by
  subst hp
  exact own_via (fun t_ k_ => XT.dup2 h hx rfl hd rfl hc hc' k_) hr
theorem s_dup2L (h : At T m c below) (hx : tb.exec = Jvm.exec) {x : Int64} (hd : decode c.code pc = .ok (.dup2, 1))  (hp : pc + 1 = pc') (hr : Ends tb e below (T.setTop (mkF m pc' ls (.long x :: .long x :: st))) P) : Ends tb e below (T.setTop (mkF m pc ls (.long x :: st))) P := by
  subst hp
  exact own_via (fun t_ k_ => XT.dup2L h hx rfl hd rfl k_) hr
theorem s_pop (h : At T m c below) (hx : tb.exec = Jvm.exec) {x : Value} (hd : decode c.code pc = .ok (.pop, 1)) (hc : x.category = 1) (hp : pc + 1 = pc') (hr : Ends tb e below (T.setTop (mkF m pc' ls st)) P) : Ends tb e below (T.setTop (mkF m pc ls (x :: st))) P := by
  subst hp
  exact own_via (fun t_ k_ => XS.pop h hx rfl hd rfl hc k_) hr
theorem own_pop2L {target : State} {g : JFrame} (h : At T m c below) (hx : tb.exec = Jvm.exec) (hg : g.method = m) {x : Int64} {rest : List Value} (hd : decode c.code g.pc = .ok (.pop2, 1)) (hs : g.stack = .long x :: rest)
    (hr : Steps tb e below (T.setTop { g with pc := g.pc + 1, stack := rest }) target) : Steps tb e below (T.setTop g) target := by
  subst hg
  jvm_step h [h.top, hx, hd, hs, Value.category]
  exact hr
theorem s_pop2L (h : At T m c below) (hx : tb.exec = Jvm.exec) {x : Int64} (hd : decode c.code pc = .ok (.pop2, 1))  (hp : pc + 1 = pc') (hr : Ends tb e below (T.setTop (mkF m pc' ls st)) P) : Ends tb e below (T.setTop (mkF m pc ls (.long x :: st))) P := by
  subst hp
  exact own_via (fun t_ k_ => own_pop2L h hx rfl hd rfl k_) hr
theorem s_goto (h : At T m c below) (hx : tb.exec = Jvm.exec)  {o : Int} (hd : decode c.code pc = .ok (.goto o, 3))  (ho : 0 ≤ (pc : Int) + o) (hp : ((pc : Int) + o).toNat = pc') (hr : Ends tb e below (T.setTop (mkF m pc' ls st)) P) : Ends tb e below (T.setTop (mkF m pc ls st)) P := own_via (fun t_ k_ => XS.goto h hx rfl rfl hd ho hp k_) hr
theorem s_ifYes (h : At T m c below) (hx : tb.exec = Jvm.exec) {cd : ClassFile.Cond} {x : Int32} {o : Int} (hd : decode c.code pc = .ok (.ifCond cd o, 3)) (hc : ifCond.holds cd x = true) (ho : 0 ≤ (pc : Int) + o) (hp : ((pc : Int) + o).toNat = pc') (hr : Ends tb e below (T.setTop (mkF m pc' ls st)) P) : Ends tb e below (T.setTop (mkF m pc ls (.int x :: st))) P := own_via (fun t_ k_ => XS.ifYes h hx rfl rfl hd rfl hc ho hp k_) hr
theorem s_ifNo (h : At T m c below) (hx : tb.exec = Jvm.exec) {cd : ClassFile.Cond} {x : Int32} {o : Int} (hd : decode c.code pc = .ok (.ifCond cd o, 3)) (hc : ifCond.holds cd x = false) (hp : pc + 3 = pc') (hr : Ends tb e below (T.setTop (mkF m pc' ls st)) P) : Ends tb e below (T.setTop (mkF m pc ls (.int x :: st))) P := by
  subst hp
  exact own_via (fun t_ k_ => XS.ifNo h hx rfl hd rfl hc k_) hr
theorem s_icmpYes (h : At T m c below) (hx : tb.exec = Jvm.exec) {cd : ClassFile.Cond} {x y : Int32} {o : Int} (hd : decode c.code pc = .ok (.if_icmp cd o, 3)) (hc : if_icmp.holds cd x y = true) (ho : 0 ≤ (pc : Int) + o) (hp : ((pc : Int) + o).toNat = pc') (hr : Ends tb e below (T.setTop (mkF m pc' ls st)) P) : Ends tb e below (T.setTop (mkF m pc ls (.int y :: .int x :: st))) P := own_via (fun t_ k_ => XS.icmpYes h hx rfl rfl hd rfl hc ho hp k_) hr
theorem s_icmpNo (h : At T m c below) (hx : tb.exec = Jvm.exec) {cd : ClassFile.Cond} {x y : Int32} {o : Int} (hd : decode c.code pc = .ok (.if_icmp cd o, 3)) (hc : if_icmp.holds cd x y = false) (hp : pc + 3 = pc') (hr : Ends tb e below (T.setTop (mkF m pc' ls st)) P) : Ends tb e below (T.setTop (mkF m pc ls (.int y :: .int x :: st))) P := by
  subst hp
  exact own_via (fun t_ k_ => XS.icmpNo h hx rfl hd rfl hc k_) hr
theorem s_ifnullYes (h : At T m c below) (hx : tb.exec = Jvm.exec)  {o : Int} (hd : decode c.code pc = .ok (.ifnull o, 3))  (ho : 0 ≤ (pc : Int) + o) (hp : ((pc : Int) + o).toNat = pc') (hr : Ends tb e below (T.setTop (mkF m pc' ls st)) P) : Ends tb e below (T.setTop (mkF m pc ls (.null :: st))) P := own_via (fun t_ k_ => XS.ifnullYes h hx rfl rfl hd rfl ho hp k_) hr
theorem s_ifnullNo (h : At T m c below) (hx : tb.exec = Jvm.exec) {b : Addr} {o : Int} (hd : decode c.code pc = .ok (.ifnull o, 3))  (hp : pc + 3 = pc') (hr : Ends tb e below (T.setTop (mkF m pc' ls st)) P) : Ends tb e below (T.setTop (mkF m pc ls (.ref b :: st))) P := by
  subst hp
  exact own_via (fun t_ k_ => XS.ifnullNo h hx rfl hd rfl k_) hr
theorem s_ifnonnullYes (h : At T m c below) (hx : tb.exec = Jvm.exec) {b : Addr} {o : Int} (hd : decode c.code pc = .ok (.ifnonnull o, 3))  (ho : 0 ≤ (pc : Int) + o) (hp : ((pc : Int) + o).toNat = pc') (hr : Ends tb e below (T.setTop (mkF m pc' ls st)) P) : Ends tb e below (T.setTop (mkF m pc ls (.ref b :: st))) P := own_via (fun t_ k_ => XS.ifnonnullYes h hx rfl rfl hd rfl ho hp k_) hr
theorem s_ifnonnullNo (h : At T m c below) (hx : tb.exec = Jvm.exec)  {o : Int} (hd : decode c.code pc = .ok (.ifnonnull o, 3))  (hp : pc + 3 = pc') (hr : Ends tb e below (T.setTop (mkF m pc' ls st)) P) : Ends tb e below (T.setTop (mkF m pc ls (.null :: st))) P := by
  subst hp
  exact own_via (fun t_ k_ => XS.ifnonnullNo h hx rfl hd rfl k_) hr
theorem s_tswIn (h : At T m c below) (hx : tb.exec = Jvm.exec) {dflt low high : Int} {offs : Array Int} {len : Nat} {o : Int} {i : Int32} (hd : decode c.code pc = .ok (.tableswitch dflt low high offs, len)) (hin : ¬ (i.toInt < low ∨ i.toInt > high)) (hoff : offs[(i.toInt - low).toNat]? = some o) (ho : 0 ≤ (pc : Int) + o) (hp : ((pc : Int) + o).toNat = pc') (hr : Ends tb e below (T.setTop (mkF m pc' ls st)) P) : Ends tb e below (T.setTop (mkF m pc ls (.int i :: st))) P := own_via (fun t_ k_ => XS.tswIn h hx rfl rfl hd rfl hin hoff ho hp k_) hr
theorem s_tswOut (h : At T m c below) (hx : tb.exec = Jvm.exec) {dflt low high : Int} {offs : Array Int} {len : Nat} {i : Int32} (hd : decode c.code pc = .ok (.tableswitch dflt low high offs, len)) (hout : i.toInt < low ∨ i.toInt > high) (ho : 0 ≤ (pc : Int) + dflt) (hp : ((pc : Int) + dflt).toNat = pc') (hr : Ends tb e below (T.setTop (mkF m pc' ls st)) P) : Ends tb e below (T.setTop (mkF m pc ls (.int i :: st))) P := own_via (fun t_ k_ => XS.tswOut h hx rfl rfl hd rfl hout ho hp k_) hr
end OwnSteps
section OwnLaws
variable {p : Program} {l : Launch} {e : Env} {R : Room} {s : State} {m : MethodId} {args : Array Value} {below : List Frame} {meth : Method} {c : Code} {T : State} {locs : List Loc} {cells slots : Nat} {Z : State} {a0 : Array Value} {h : Heap} {P : State → Outcome → Prop} {pc pc' : Nat} {ls : Array Slot} {st : List Value}
theorem s_getF (X : Stand p l e R s m args below meth c T locs cells slots) (hx : p.tables.exec = Jvm.exec) (hZ : Z.Warmed39 s.vm) {own R0 O n d host : String} {index : Nat} (hown : s.vm.findClass own = some m.cls) (w : (Jvm.Cond.fieldLink own index R0 n d).before a0 Z = true ∨ (Jvm.Cond.fieldLinkNest own index R0 n d host).before a0 Z = true) (via : Via Z R0 O n d) (eT : T.heap = h) {a : Addr} {v : Value} (F : Fld Z h a O n d v) (hd : decode c.code pc = .ok (.getfield index, 3)) (hp : pc + 3 = pc') (k : ∀ T', Stand p l e R s m args below meth c T' locs cells slots → T'.heap = h → Ends p.tables e below (T'.setTop (mkF m pc' ls (v :: st))) P) : Ends p.tables e below (T.setTop (mkF m pc ls (.ref a :: st))) P := by
  subst hp
  obtain ⟨T', X', e', s'⟩ := getF X hx hZ hown w via eT F (g := mkF m pc ls (.ref a :: st)) rfl rfl hd
  exact own_via s' (k T' X' e')
theorem s_getS (X : Stand p l e R s m args below meth c T locs cells slots) (hx : p.tables.exec = Jvm.exec) (hZ : Z.Warmed39 s.vm) {own R0 O n d host : String} {index : Nat} (hown : s.vm.findClass own = some m.cls) (w : (Jvm.Cond.fieldLink own index R0 n d).before a0 Z = true ∨ (Jvm.Cond.fieldLinkNest own index R0 n d host).before a0 Z = true) (via : Via Z R0 O n d) (eT : T.heap = h) {v : Value} (F : Sta Z h O n d v) (hd : decode c.code pc = .ok (.getstatic index, 3)) (hp : pc + 3 = pc') (k : ∀ T', Stand p l e R s m args below meth c T' locs cells slots → T'.heap = h → Ends p.tables e below (T'.setTop (mkF m pc' ls (v :: st))) P) : Ends p.tables e below (T.setTop (mkF m pc ls st)) P := by
  subst hp
  obtain ⟨T', X', e', s'⟩ := getS2 X hx hZ hown w via eT F (g := mkF m pc ls st) rfl hd
  exact own_via s' (k T' X' e')
theorem s_putF (X : Stand p l e R s m args below meth c T locs cells slots) (hx : p.tables.exec = Jvm.exec) (hZ : Z.Warmed39 s.vm) {own R0 O n d host : String} {index : Nat} (hown : s.vm.findClass own = some m.cls) (w : (Jvm.Cond.fieldLink own index R0 n d).before a0 Z = true ∨ (Jvm.Cond.fieldLinkNest own index R0 n d host).before a0 Z = true) (via : Via Z R0 O n d) (eT : T.heap = h) {C : String} {kk : Nat} {ty : FieldType} {a : Addr} {v old : Value} (F : Fld Z h a O n d old) (E : Exa Z h a C) (L : (Jvm.Cond.lays C O n d).before a0 Z = true ∨ ((Jvm.Cond.laysFinal C O n d).before a0 Z = true ∧ own = O ∧ meth.name = "<init>")) (wi : (Jvm.Cond.instantiable C kk).before a0 Z = true) (hty : parseFieldDescriptor d = some ty) (hn : narrow ty v = v) (hf : fits ty v = true) (hd : decode c.code pc = .ok (.putfield index, 3)) (hp : pc + 3 = pc') (k : ∀ T' h', Stand p l e R s m args below meth c T' (locs ++ [⟨a, Jvm.RoadKit.slotOf Z O n d⟩]) cells slots → T'.heap = h' → Wr h h' a (Jvm.RoadKit.slotOf Z O n d) v → Ends p.tables e below (T'.setTop (mkF m pc' ls st)) P) : Ends p.tables e below (T.setTop (mkF m pc ls (v :: .ref a :: st))) P := by
  subst hp
  obtain ⟨T', h', X', e', W, s'⟩ := putF X hx hZ hown w via eT F E L wi hty hn hf (g := mkF m pc ls (v :: .ref a :: st)) rfl rfl hd
  exact own_via s' (k T' h' X' e' W)
theorem s_putFN (X : Stand p l e R s m args below meth c T locs cells slots) (hx : p.tables.exec = Jvm.exec) (hZ : Z.Warmed39 s.vm) {own R0 O n d : String} {index : Nat} (hown : s.vm.findClass own = some m.cls) (w : (Jvm.Cond.fieldLink own index R0 n d).before a0 Z = true) (via : Via Z R0 O n d) (eT : T.heap = h) {C : String} {kk : Nat} {ty : FieldType} {a : Addr} {v v' old : Value} (F : Fld Z h a O n d old) (E : Exa Z h a C) (L : (Jvm.Cond.lays C O n d).before a0 Z = true ∨ ((Jvm.Cond.laysFinal C O n d).before a0 Z = true ∧ own = O ∧ meth.name = "<init>")) (wi : (Jvm.Cond.instantiable C kk).before a0 Z = true) (hty : parseFieldDescriptor d = some ty) (hn : narrow ty v = v') (hf : fits ty v' = true) (hd : decode c.code pc = .ok (.putfield index, 3)) (hp : pc + 3 = pc') (k : ∀ T' h', Stand p l e R s m args below meth c T' (locs ++ [⟨a, Jvm.RoadKit.slotOf Z O n d⟩]) cells slots → T'.heap = h' → Wr h h' a (Jvm.RoadKit.slotOf Z O n d) v' → Ends p.tables e below (T'.setTop (mkF m pc' ls st)) P) : Ends p.tables e below (T.setTop (mkF m pc ls (v :: .ref a :: st))) P := by
  subst hp
  obtain ⟨T', h', X', e', W, s'⟩ := putFN X hx hZ hown w via eT F E L wi hty hn hf (g := mkF m pc ls (v :: .ref a :: st)) rfl rfl hd
  exact own_via s' (k T' h' X' e' W)
theorem s_newO (X : Stand p l e R s m args below meth c T locs cells slots) (hx : p.tables.exec = Jvm.exec) (hZ : Z.Warmed39 s.vm) {own C : String} {index n : Nat} (hown : s.vm.findClass own = some m.cls) (w : (Jvm.Cond.classLink own index C).before a0 Z = true) (wi : (Jvm.Cond.instantiable C n).before a0 Z = true) (wz : (Jvm.Cond.initialized C).before a0 Z = true) (eT : T.heap = h) (hd : decode c.code pc = .ok (.new index, 3)) (hc : cells + 1 ≤ R.cells) (hl : slots + n ≤ R.slots) (hp : pc + 3 = pc') (k : ∀ T' h', Stand p l e R s m args below meth c T' locs (cells + 1) (slots + n) → T'.heap = h' → Ext h h' → ∀ b, b = h.size → Exa Z h' b C → (∀ {O nm d : String} {ty : FieldType}, Laid Z a0 C O nm d → parseFieldDescriptor d = some ty → Fld Z h' b O nm d (defaultValue ty)) → Ends p.tables e below (T'.setTop (mkF m pc' ls (.ref b :: st))) P) : Ends p.tables e below (T.setTop (mkF m pc ls st)) P := by
  subst hp
  obtain ⟨T', h', X', e', E, A, D, -, s'⟩ := newO X hx hZ hown w wi wz eT (g := mkF m pc ls st) rfl hd hc hl
  exact own_via s' (k T' h' X' e' E _ rfl A D)
theorem s_newP (X : Stand p l e R s m args below meth c T locs cells slots) (hx : p.tables.exec = Jvm.exec) (hZ : Z.Warmed39 s.vm) {aty : ArrayType} (w : (Jvm.Cond.arrayClass (newarray.typeOf aty)).before a0 Z = true) (eT : T.heap = h) (hd : decode c.code pc = .ok (.newarray aty, 2)) {n : Int32} (hn : ¬ n < 0) {cap : Nat} (hcap : n.toNatClampNeg ≤ cap) (hb : cap * 8 ≤ 536870912) (hc : cells + 1 ≤ R.cells) (hl : slots + cap ≤ R.slots) (hp : pc + 2 = pc') (k : ∀ T' h', Stand p l e R s m args below meth c T' locs (cells + 1) (slots + cap) → T'.heap = h' → ∀ cA, Ext h h' → ∀ b, b = h.size → Arr Z h' b (newA cA (newarray.typeOf aty) n) (newarray.typeOf aty) → Ends p.tables e below (T'.setTop (mkF m pc' ls (.ref b :: st))) P) : Ends p.tables e below (T.setTop (mkF m pc ls (.int n :: st))) P := by
  subst hp
  obtain ⟨T', h', cA, X', e', E, A, s'⟩ := newP X hx hZ w eT (g := mkF m pc ls (.int n :: st)) rfl hd rfl hn hcap hb hc hl
  exact own_via s' (k T' h' X' e' cA E _ rfl A)
theorem s_newPE (X : Stand p l e R s m args below meth c T locs cells slots) (hx : p.tables.exec = Jvm.exec) (hZ : Z.Warmed39 s.vm) {aty : ArrayType} (w : (Jvm.Cond.arrayClass (newarray.typeOf aty)).before a0 Z = true) (eT : T.heap = h) (hd : decode c.code pc = .ok (.newarray aty, 2)) {n : Int32} (hn : ¬ n < 0) {cap : Nat} (hcap : n.toNatClampNeg ≤ cap) (hb : cap * 8 ≤ 536870912) (hc : cells + 1 ≤ R.cells) (hl : slots + cap ≤ R.slots) {ad : String} (had : "[" ++ (newarray.typeOf aty).toString = ad) (hp : pc + 2 = pc') (k : ∀ T' h', Stand p l e R s m args below meth c T' locs (cells + 1) (slots + cap) → T'.heap = h' → ∀ cA, Ext h h' → ∀ b, b = h.size → Arr Z h' b (newA cA (newarray.typeOf aty) n) (newarray.typeOf aty) → Exa Z h' b ad → Ends p.tables e below (T'.setTop (mkF m pc' ls (.ref b :: st))) P) : Ends p.tables e below (T.setTop (mkF m pc ls (.int n :: st))) P := by
  subst hp
  obtain ⟨T', h', cA, X', e', E, A, Ex, s'⟩ := newPE X hx hZ w eT (g := mkF m pc ls (.int n :: st)) rfl hd rfl hn hcap hb hc hl had
  exact own_via s' (k T' h' X' e' cA E _ rfl A Ex)
theorem s_newR (X : Stand p l e R s m args below meth c T locs cells slots) (hx : p.tables.exec = Jvm.exec) (hZ : Z.Warmed39 s.vm) {own C : String} {index : Nat} (hown : s.vm.findClass own = some m.cls) (w1 : (Jvm.Cond.classLink own index C).before a0 Z = true) (w2 : (Jvm.Cond.arrayOver (.object C)).before a0 Z = true) (eT : T.heap = h) (hd : decode c.code pc = .ok (.anewarray index, 3)) {n : Int32} (hn : ¬ n < 0) {cap : Nat} (hcap : n.toNatClampNeg ≤ cap) (hb : cap * 8 ≤ 536870912) (hc : cells + 1 ≤ R.cells) (hl : slots + cap ≤ R.slots) (hp : pc + 3 = pc') (k : ∀ T' h', Stand p l e R s m args below meth c T' locs (cells + 1) (slots + cap) → T'.heap = h' → ∀ cA, Ext h h' → ∀ b, b = h.size → Arr Z h' b (newA cA (.object C) n) (.object C) → Ends p.tables e below (T'.setTop (mkF m pc' ls (.ref b :: st))) P) : Ends p.tables e below (T.setTop (mkF m pc ls (.int n :: st))) P := by
  subst hp
  obtain ⟨T', h', cA, X', e', E, A, -, s'⟩ := newR X hx hZ hown w1 w2 eT (g := mkF m pc ls (.int n :: st)) rfl hd rfl hn hcap hb hc hl
  exact own_via s' (k T' h' X' e' cA E _ rfl A)
theorem s_stI (X : Stand p l e R s m args below meth c T locs cells slots) (hx : p.tables.exec = Jvm.exec) (hZ : Z.Warmed39 s.vm) (eT : T.heap = h) {a : Addr} {cl : Cell} (A : Arr Z h a cl .int) {j : Int32} {x : Int32} (hj : ¬ (j < 0 ∨ cl.slots.size ≤ j.toNatClampNeg)) (hd : decode c.code pc = .ok (.iastore, 1)) (hp : pc + 1 = pc') (k : ∀ T' h', Stand p l e R s m args below meth c T' (locs ++ [⟨a, j.toNatClampNeg⟩]) cells slots → T'.heap = h' → Wr h h' a j.toNatClampNeg (.int x) → Ends p.tables e below (T'.setTop (mkF m pc' ls st)) P) : Ends p.tables e below (T.setTop (mkF m pc ls (.int x :: .int j :: .ref a :: st))) P := by
  subst hp
  obtain ⟨T', h', X', e', W, s'⟩ := stI X hx hZ eT A (j := j) hj (g := mkF m pc ls (.int x :: .int j :: .ref a :: st)) rfl rfl hd
  exact own_via s' (k T' h' X' e' W)
theorem s_stJ (X : Stand p l e R s m args below meth c T locs cells slots) (hx : p.tables.exec = Jvm.exec) (hZ : Z.Warmed39 s.vm) (eT : T.heap = h) {a : Addr} {cl : Cell} (A : Arr Z h a cl .long) {j : Int32} {x : Int64} (hj : ¬ (j < 0 ∨ cl.slots.size ≤ j.toNatClampNeg)) (hd : decode c.code pc = .ok (.lastore, 1)) (hp : pc + 1 = pc') (k : ∀ T' h', Stand p l e R s m args below meth c T' (locs ++ [⟨a, j.toNatClampNeg⟩]) cells slots → T'.heap = h' → Wr h h' a j.toNatClampNeg (.long x) → Ends p.tables e below (T'.setTop (mkF m pc' ls st)) P) : Ends p.tables e below (T.setTop (mkF m pc ls (.long x :: .int j :: .ref a :: st))) P := by
  subst hp
  obtain ⟨T', h', X', e', W, s'⟩ := stJ X hx hZ eT A (j := j) hj (g := mkF m pc ls (.long x :: .int j :: .ref a :: st)) rfl rfl hd
  exact own_via s' (k T' h' X' e' W)
theorem s_stC (X : Stand p l e R s m args below meth c T locs cells slots) (hx : p.tables.exec = Jvm.exec) (hZ : Z.Warmed39 s.vm) (eT : T.heap = h) {a : Addr} {cl : Cell} (A : Arr Z h a cl .char) {j : Int32} {x : Int32} (hj : ¬ (j < 0 ∨ cl.slots.size ≤ j.toNatClampNeg)) (hd : decode c.code pc = .ok (.castore, 1)) (hp : pc + 1 = pc') (k : ∀ T' h', Stand p l e R s m args below meth c T' (locs ++ [⟨a, j.toNatClampNeg⟩]) cells slots → T'.heap = h' → Wr h h' a j.toNatClampNeg (.int (nar .char x)) → Ends p.tables e below (T'.setTop (mkF m pc' ls st)) P) : Ends p.tables e below (T.setTop (mkF m pc ls (.int x :: .int j :: .ref a :: st))) P := by
  subst hp
  obtain ⟨T', h', X', e', W, s'⟩ := stC X hx hZ eT A (j := j) hj (g := mkF m pc ls (.int x :: .int j :: .ref a :: st)) rfl rfl hd
  exact own_via s' (k T' h' X' e' W)
theorem s_stB (X : Stand p l e R s m args below meth c T locs cells slots) (hx : p.tables.exec = Jvm.exec) (hZ : Z.Warmed39 s.vm) (eT : T.heap = h) {a : Addr} {cl : Cell} (A : Arr Z h a cl .byte) {j : Int32} {x : Int32} (hj : ¬ (j < 0 ∨ cl.slots.size ≤ j.toNatClampNeg)) (hd : decode c.code pc = .ok (.bastore, 1)) (hp : pc + 1 = pc') (k : ∀ T' h', Stand p l e R s m args below meth c T' (locs ++ [⟨a, j.toNatClampNeg⟩]) cells slots → T'.heap = h' → Wr h h' a j.toNatClampNeg (.int (nar .byte x)) → Ends p.tables e below (T'.setTop (mkF m pc' ls st)) P) : Ends p.tables e below (T.setTop (mkF m pc ls (.int x :: .int j :: .ref a :: st))) P := by
  subst hp
  obtain ⟨T', h', X', e', W, s'⟩ := stB X hx hZ eT A (j := j) hj (g := mkF m pc ls (.int x :: .int j :: .ref a :: st)) rfl rfl hd
  exact own_via s' (k T' h' X' e' W)
theorem s_stN (X : Stand p l e R s m args below meth c T locs cells slots) (hx : p.tables.exec = Jvm.exec) (hZ : Z.Warmed39 s.vm) (eT : T.heap = h) {a : Addr} {cl : Cell} {ty : FieldType} (A : Arr Z h a cl ty) (hr : ty.isReference = true) {j : Int32} (hj : ¬ (j < 0 ∨ cl.slots.size ≤ j.toNatClampNeg)) (hd : decode c.code pc = .ok (.aastore, 1)) (hp : pc + 1 = pc') (k : ∀ T' h', Stand p l e R s m args below meth c T' (locs ++ [⟨a, j.toNatClampNeg⟩]) cells slots → T'.heap = h' → Wr h h' a j.toNatClampNeg .null → Ends p.tables e below (T'.setTop (mkF m pc' ls st)) P) : Ends p.tables e below (T.setTop (mkF m pc ls (.null :: .int j :: .ref a :: st))) P := by
  subst hp
  obtain ⟨T', h', X', e', W, s'⟩ := stR X hx hZ eT A (j := j) hj hr (Or.inl rfl) (g := mkF m pc ls (.null :: .int j :: .ref a :: st)) rfl rfl hd
  exact own_via s' (k T' h' X' e' W)
theorem s_iaload (X : Stand p l e R s m args below meth c T locs cells slots) (hx : p.tables.exec = Jvm.exec) (hZ : Z.Warmed39 s.vm) (eT : T.heap = h) {a : Addr} {k : ClassId} {z : Int32} {vs : List Value} {dv v : Value} {j : Int32} (F : Arv Z h a k .int z vs dv) (hj : ¬ j < 0 ∧ j < z) (hv : vs.getD j.toNatClampNeg dv = v) (hd : decode c.code pc = .ok (.iaload, 1)) (hp : pc + 1 = pc') (hr : Ends p.tables e below (T.setTop (mkF m pc' ls (v :: st))) P) : Ends p.tables e below (T.setTop (mkF m pc ls (.int j :: .ref a :: st))) P := by
  subst hp
  obtain ⟨cl, A, -, S, M, H, -⟩ := F
  have hin := inb_of S hj
  exact own_via (X.iaload hx (j := j) (v := v) (by rw [eT]; exact A.1) (State.isArrayOf_alike hZ.alike A.2.1) A.2.2 hin (H.at hin hv) (g := mkF m pc ls (.int j :: .ref a :: st)) rfl rfl hd) hr
theorem s_laload (X : Stand p l e R s m args below meth c T locs cells slots) (hx : p.tables.exec = Jvm.exec) (hZ : Z.Warmed39 s.vm) (eT : T.heap = h) {a : Addr} {k : ClassId} {z : Int32} {vs : List Value} {dv v : Value} {j : Int32} (F : Arv Z h a k .long z vs dv) (hj : ¬ j < 0 ∧ j < z) (hv : vs.getD j.toNatClampNeg dv = v) (hd : decode c.code pc = .ok (.laload, 1)) (hp : pc + 1 = pc') (hr : Ends p.tables e below (T.setTop (mkF m pc' ls (v :: st))) P) : Ends p.tables e below (T.setTop (mkF m pc ls (.int j :: .ref a :: st))) P := by
  subst hp
  obtain ⟨cl, A, -, S, M, H, -⟩ := F
  have hin := inb_of S hj
  exact own_via (X.laload hx (j := j) (v := v) (by rw [eT]; exact A.1) (State.isArrayOf_alike hZ.alike A.2.1) A.2.2 hin (H.at hin hv) (g := mkF m pc ls (.int j :: .ref a :: st)) rfl rfl hd) hr
theorem s_caload (X : Stand p l e R s m args below meth c T locs cells slots) (hx : p.tables.exec = Jvm.exec) (hZ : Z.Warmed39 s.vm) (eT : T.heap = h) {a : Addr} {k : ClassId} {z : Int32} {vs : List Value} {dv v : Value} {j : Int32} (F : Arv Z h a k .char z vs dv) (hj : ¬ j < 0 ∧ j < z) (hv : vs.getD j.toNatClampNeg dv = v) (hd : decode c.code pc = .ok (.caload, 1)) (hp : pc + 1 = pc') (hr : Ends p.tables e below (T.setTop (mkF m pc' ls (v :: st))) P) : Ends p.tables e below (T.setTop (mkF m pc ls (.int j :: .ref a :: st))) P := by
  subst hp
  obtain ⟨cl, A, -, S, M, H, -⟩ := F
  have hin := inb_of S hj
  exact own_via (X.caload hx (j := j) (v := v) (by rw [eT]; exact A.1) (State.isArrayOf_alike hZ.alike A.2.1) A.2.2 hin (H.at hin hv) (g := mkF m pc ls (.int j :: .ref a :: st)) rfl rfl hd) hr
theorem s_baload (X : Stand p l e R s m args below meth c T locs cells slots) (hx : p.tables.exec = Jvm.exec) (hZ : Z.Warmed39 s.vm) (eT : T.heap = h) {a : Addr} {k : ClassId} {z : Int32} {vs : List Value} {dv v : Value} {j : Int32} (F : Arv Z h a k .byte z vs dv) (hj : ¬ j < 0 ∧ j < z) (hv : vs.getD j.toNatClampNeg dv = v) (hd : decode c.code pc = .ok (.baload, 1)) (hp : pc + 1 = pc') (hr : Ends p.tables e below (T.setTop (mkF m pc' ls (v :: st))) P) : Ends p.tables e below (T.setTop (mkF m pc ls (.int j :: .ref a :: st))) P := by
  subst hp
  obtain ⟨cl, A, -, S, M, H, -⟩ := F
  have hin := inb_of S hj
  exact own_via (X.baloadBytes hx (j := j) (v := v) (by rw [eT]; exact A.1) (State.isArrayOf_alike hZ.alike A.2.1) A.2.2 hin (H.at hin hv) (g := mkF m pc ls (.int j :: .ref a :: st)) rfl rfl hd) hr
theorem s_arraylength (X : Stand p l e R s m args below meth c T locs cells slots) (hx : p.tables.exec = Jvm.exec) (hZ : Z.Warmed39 s.vm) (eT : T.heap = h) {a : Addr} {k : ClassId} {ty : FieldType} {z : Int32} {vs : List Value} {dv : Value} (F : Arv Z h a k ty z vs dv) (hd : decode c.code pc = .ok (.arraylength, 1)) (hp : pc + 1 = pc') (hr : Ends p.tables e below (T.setTop (mkF m pc' ls (.int z :: st))) P) : Ends p.tables e below (T.setTop (mkF m pc ls (.ref a :: st))) P := by
  subst hp
  obtain ⟨cl, A, -, S, M, H, -⟩ := F
  refine own_via (X.arraylength hx (by rw [eT]; exact A.1) (State.isArrayOf_alike hZ.alike A.2.1) (g := mkF m pc ls (.ref a :: st)) rfl rfl hd) ?_
  rw [len_of S M]
  exact hr
theorem own_set {a : Addr} {k : ClassId} {ty : FieldType} {z : Int32} {vs : List Value} {dv v : Value} {j : Int32} {cl : Cell} {h' : Heap} (F : ∃ c : Cell, c = cl ∧ Arr Z h a c ty ∧ c.cls = k ∧ c.slots.size = z.toNatClampNeg ∧ ¬ z < 0 ∧ Has c vs dv ∧ ∀ i, i < c.slots.size → fits ty (vs.getD i dv) = true) (hv : fits ty v = true) (W : Wr h h' a j.toNatClampNeg v) (i : Nat) (hj : j.toNatClampNeg = i) (hi : i < vs.length) : Arv Z h' a k ty z (vs.set i v) dv := by
  obtain ⟨c, rfl, A, q1, S, M, H, G⟩ := F
  exact Arv.set A q1 S M H G hv W i hj hi
theorem s_putI (X : Stand p l e R s m args below meth c T locs cells slots) (hx : p.tables.exec = Jvm.exec) (hZ : Z.Warmed39 s.vm) (eT : T.heap = h) {a : Addr} {k : ClassId} {z : Int32} {vs : List Value} {dv : Value} {j : Int32} {x : Int32} (F : Arv Z h a k .int z vs dv) (hj : ¬ j < 0 ∧ j < z) (i : Nat) (hi : j.toNatClampNeg = i) (hl : i < vs.length) (hd : decode c.code pc = .ok (.iastore, 1)) (hp : pc + 1 = pc') (kk : ∀ T' h', Stand p l e R s m args below meth c T' (locs ++ [⟨a, j.toNatClampNeg⟩]) cells slots → T'.heap = h' → Wr h h' a j.toNatClampNeg (.int x) → Arv Z h' a k .int z (vs.set i (.int x)) dv → Ends p.tables e below (T'.setTop (mkF m pc' ls st)) P) : Ends p.tables e below (T.setTop (mkF m pc ls (.int x :: .int j :: .ref a :: st))) P := by
  obtain ⟨cl, A, q1, S, M, H, G⟩ := F
  exact s_stI X hx hZ eT A (inb_of S hj) hd hp fun T' h' X' e' W => kk T' h' X' e' W (Arv.set A q1 S M H G rfl W i hi hl)
theorem s_putJ (X : Stand p l e R s m args below meth c T locs cells slots) (hx : p.tables.exec = Jvm.exec) (hZ : Z.Warmed39 s.vm) (eT : T.heap = h) {a : Addr} {k : ClassId} {z : Int32} {vs : List Value} {dv : Value} {j : Int32} {x : Int64} (F : Arv Z h a k .long z vs dv) (hj : ¬ j < 0 ∧ j < z) (i : Nat) (hi : j.toNatClampNeg = i) (hl : i < vs.length) (hd : decode c.code pc = .ok (.lastore, 1)) (hp : pc + 1 = pc') (kk : ∀ T' h', Stand p l e R s m args below meth c T' (locs ++ [⟨a, j.toNatClampNeg⟩]) cells slots → T'.heap = h' → Wr h h' a j.toNatClampNeg (.long x) → Arv Z h' a k .long z (vs.set i (.long x)) dv → Ends p.tables e below (T'.setTop (mkF m pc' ls st)) P) : Ends p.tables e below (T.setTop (mkF m pc ls (.long x :: .int j :: .ref a :: st))) P := by
  obtain ⟨cl, A, q1, S, M, H, G⟩ := F
  exact s_stJ X hx hZ eT A (inb_of S hj) hd hp fun T' h' X' e' W => kk T' h' X' e' W (Arv.set A q1 S M H G rfl W i hi hl)
theorem s_putC (X : Stand p l e R s m args below meth c T locs cells slots) (hx : p.tables.exec = Jvm.exec) (hZ : Z.Warmed39 s.vm) (eT : T.heap = h) {a : Addr} {k : ClassId} {z : Int32} {vs : List Value} {dv : Value} {j : Int32} {x : Int32} (F : Arv Z h a k .char z vs dv) (hj : ¬ j < 0 ∧ j < z) (i : Nat) (hi : j.toNatClampNeg = i) (hl : i < vs.length) (hd : decode c.code pc = .ok (.castore, 1)) (hp : pc + 1 = pc') (kk : ∀ T' h', Stand p l e R s m args below meth c T' (locs ++ [⟨a, j.toNatClampNeg⟩]) cells slots → T'.heap = h' → Wr h h' a j.toNatClampNeg (.int (nar .char x)) → Arv Z h' a k .char z (vs.set i (.int (nar .char x))) dv → Ends p.tables e below (T'.setTop (mkF m pc' ls st)) P) : Ends p.tables e below (T.setTop (mkF m pc ls (.int x :: .int j :: .ref a :: st))) P := by
  obtain ⟨cl, A, q1, S, M, H, G⟩ := F
  exact s_stC X hx hZ eT A (inb_of S hj) hd hp fun T' h' X' e' W => kk T' h' X' e' W (Arv.set A q1 S M H G (fits_nar_char _) W i hi hl)
theorem s_putB (X : Stand p l e R s m args below meth c T locs cells slots) (hx : p.tables.exec = Jvm.exec) (hZ : Z.Warmed39 s.vm) (eT : T.heap = h) {a : Addr} {k : ClassId} {z : Int32} {vs : List Value} {dv : Value} {j : Int32} {x : Int32} (F : Arv Z h a k .byte z vs dv) (hj : ¬ j < 0 ∧ j < z) (i : Nat) (hi : j.toNatClampNeg = i) (hl : i < vs.length) (hd : decode c.code pc = .ok (.bastore, 1)) (hp : pc + 1 = pc') (kk : ∀ T' h', Stand p l e R s m args below meth c T' (locs ++ [⟨a, j.toNatClampNeg⟩]) cells slots → T'.heap = h' → Wr h h' a j.toNatClampNeg (.int (nar .byte x)) → Arv Z h' a k .byte z (vs.set i (.int (nar .byte x))) dv → Ends p.tables e below (T'.setTop (mkF m pc' ls st)) P) : Ends p.tables e below (T.setTop (mkF m pc ls (.int x :: .int j :: .ref a :: st))) P := by
  obtain ⟨cl, A, q1, S, M, H, G⟩ := F
  exact s_stB X hx hZ eT A (inb_of S hj) hd hp fun T' h' X' e' W => kk T' h' X' e' W (Arv.set A q1 S M H G (fits_nar_byte _) W i hi hl)
theorem s_initO (X : Stand p l e R s m args below meth c T locs cells slots) (hx : p.tables.exec = Jvm.exec) (hZ : Z.Warmed39 s.vm) {own : String} {idx : Nat} (hown : s.vm.findClass own = some m.cls) (w1 : (Jvm.Cond.methodLink own idx Lib.objectInit).before a0 Z = true) (w2 : (Jvm.Cond.instanceMethod Lib.objectInit).before a0 Z = true) (w3 : (Jvm.Cond.code Lib.objectInit ⟨#[0xb1]⟩ 1 none).before a0 Z = true) (eT : T.heap = h) (hsize : ls.size = c.maxLocals) {a : Addr} (hd : decode c.code pc = .ok (.invokespecial idx, 3)) (hf : 1 ≤ R.frames) {W : Nat} (hW : (st.map fun v => v.category).sum ≤ W) (hl : W + 12 ≤ R.locals) (hp : pc + 3 = pc') (k : ∀ T', Stand p l e R s m args below meth c T' locs cells slots → T'.heap = h → Ends p.tables e below (T'.setTop (mkF m pc' ls st)) P) : Ends p.tables e below (T.setTop (mkF m pc ls (.ref a :: st))) P := by
  subst hp
  obtain ⟨T', X', e', s'⟩ := initO X hx hZ hown w1 w2 w3 eT (g := mkF m pc ls (.ref a :: st)) rfl hsize rfl hd hf (W := W) (by show 2 * 0 + _ ≤ _; omega) hl
  exact own_via s' (k T' X' e')
theorem s_castY (X : Stand p l e R s m args below meth c T locs cells slots) (hx : p.tables.exec = Jvm.exec) (hZ : Z.Warmed39 s.vm) {own K : String} {index : Nat} (hown : s.vm.findClass own = some m.cls) (w : (Jvm.Cond.classLink own index K).before a0 Z = true) (eT : T.heap = h) {a : Addr} (F : Ins Z h a K true) (hd : decode c.code pc = .ok (.checkcast index, 3)) (hp : pc + 3 = pc') (k : ∀ T', Stand p l e R s m args below meth c T' locs cells slots → T'.heap = h → Ends p.tables e below (T'.setTop (mkF m pc' ls (.ref a :: st))) P) : Ends p.tables e below (T.setTop (mkF m pc ls (.ref a :: st))) P := by
  subst hp
  obtain ⟨T', X', e', s'⟩ := castY X hx hZ hown w eT F (g := mkF m pc ls (.ref a :: st)) rfl rfl hd
  exact own_via s' (k T' X' e')
theorem s_instY (X : Stand p l e R s m args below meth c T locs cells slots) (hx : p.tables.exec = Jvm.exec) (hZ : Z.Warmed39 s.vm) {own K : String} {index : Nat} (hown : s.vm.findClass own = some m.cls) (w : (Jvm.Cond.classLink own index K).before a0 Z = true) (eT : T.heap = h) {a : Addr} (F : Ins Z h a K true) (hd : decode c.code pc = .ok (.instanceof index, 3)) (hp : pc + 3 = pc') (k : ∀ T', Stand p l e R s m args below meth c T' locs cells slots → T'.heap = h → Ends p.tables e below (T'.setTop (mkF m pc' ls (.int 1 :: st))) P) : Ends p.tables e below (T.setTop (mkF m pc ls (.ref a :: st))) P := by
  subst hp
  obtain ⟨T', X', e', s'⟩ := instY X hx hZ hown w eT F (g := mkF m pc ls (.ref a :: st)) rfl rfl hd
  exact own_via s' (k T' X' e')
theorem s_callS (X : Stand p l e R s m args below meth c T locs cells slots) (hx : p.tables.exec = Jvm.exec) (hZ : Z.Warmed39 s.vm) {y : MethodName} {bytes : ByteArray} {maxL : Nat} {ret : Option FieldType} {rm : Room} {W : Nat} {as' : Array Value} {Q : Option Value → Heap → List Loc → Prop} {own : String} {index : Nat} (hown : s.vm.findClass own = some m.cls) (w1 : (Jvm.Cond.methodLink own index y).before a0 Z = true) (w2 : (Jvm.Cond.static y).before a0 Z = true) (w3 : (Jvm.Cond.initialized y.cls).before a0 Z = true) (w4 : (Jvm.Cond.code y bytes maxL ret).before a0 Z = true) (hy : y.cls ≠ "java/lang/invoke/MethodHandle" ∧ y.cls ≠ "java/lang/invoke/VarHandle") (eT : T.heap = h) (hM : MetFree l y (head1 [Jvm.Cond.code y bytes maxL ret] rm) (fun a U => a = as' ∧ Z.Warmed39 U.vm ∧ U.heap = h) (fun _ _ _ _ _ => True) (fun _ U o U' => ∃ v L, o = .returned v ∧ Q v U'.heap L ∧ FrameEnd U o U' L rm.cells rm.slots)) (hsize : ls.size = c.maxLocals) (argsL rest : List Value) (has : as' = argsL.toArray) (hlen : ∀ sig, parseMethodDescriptor y.desc = some sig → argsL.length = sig.parameters.length) (hstack : st = argsL.reverse ++ rest) (hW : (rest.map fun v => v.category).sum ≤ W) (hf : rm.frames + 1 ≤ R.frames) (hl : W + (maxL + 11) + rm.locals ≤ R.locals) (hce : cells + rm.cells ≤ R.cells) (hsl : slots + rm.slots ≤ R.slots) (hp : pc + 3 = pc') (hd : decode c.code pc = .ok (.invokestatic index, 3)) (k : ∀ T' v L, Stand p l e R s m args below meth c T' (locs ++ L) (cells + rm.cells) (slots + rm.slots) → Q v T'.heap L → Ends p.tables e below (T'.setTop (mkF m pc' ls (v.toList ++ rest))) P) : Ends p.tables e below (T.setTop (mkF m pc ls st)) P := by
  subst hp has hstack
  obtain ⟨v, _, ⟨T', _, _, _⟩, -, X', ⟨L, hQ, e1, e2, e3⟩, s'⟩ := Jvm.LawKit.callS X hx (y := y) hown (mvT hZ w1) (mvT hZ w2) (mvT hZ w3) (mvT hZ w4) hy (backOf (W := W) hM hZ w4 w3 hf hl) (g := mkF m pc ls (argsL.reverse ++ rest)) rfl hsize (argsL := argsL) (rest := rest) hlen rfl (by show 2 * 0 + _ ≤ _; omega) hd (fun _ _ => ⟨rfl, eT, hce, hsl⟩)
  dsimp only [Pt.U, Pt.locs, Pt.cells, Pt.slots] at X' e1 e2 e3 s' hQ
  subst e1 e2 e3
  exact own_via s' (k T' v L X' hQ)
theorem s_callI (X : Stand p l e R s m args below meth c T locs cells slots) (hx : p.tables.exec = Jvm.exec) (hZ : Z.Warmed39 s.vm) {y : MethodName} {bytes : ByteArray} {maxL : Nat} {rm : Room} {W : Nat} {as' : Array Value} {Q : Option Value → Heap → List Loc → Prop} {own : String} {index : Nat} (hy1 : y.name = "<init>") (hown : s.vm.findClass own = some m.cls) (w1 : (Jvm.Cond.methodLink own index y).before a0 Z = true) (w2 : (Jvm.Cond.instanceMethod y).before a0 Z = true) (w3 : (Jvm.Cond.initialized y.cls).before a0 Z = true) (w4 : (Jvm.Cond.code y bytes maxL none).before a0 Z = true) (hy : y.cls ≠ "java/lang/invoke/MethodHandle" ∧ y.cls ≠ "java/lang/invoke/VarHandle") (eT : T.heap = h) (hM : MetFree l y (head1 [Jvm.Cond.code y bytes maxL none] rm) (fun a U => a = as' ∧ Z.Warmed39 U.vm ∧ U.heap = h) (fun _ _ _ _ _ => True) (fun _ U o U' => ∃ v L, o = .returned v ∧ Q v U'.heap L ∧ FrameEnd U o U' L rm.cells rm.slots)) (a : Addr) (hsize : ls.size = c.maxLocals) (argsL rest : List Value) (has : as' = (.ref a :: argsL).toArray) (hlen : ∀ sig, parseMethodDescriptor y.desc = some sig → argsL.length = sig.parameters.length) (hstack : st = argsL.reverse ++ .ref a :: rest) (hW : (rest.map fun v => v.category).sum ≤ W) (hf : rm.frames + 1 ≤ R.frames) (hl : W + (maxL + 11) + rm.locals ≤ R.locals) (hce : cells + rm.cells ≤ R.cells) (hsl : slots + rm.slots ≤ R.slots) (hp : pc + 3 = pc') (hd : decode c.code pc = .ok (.invokespecial index, 3)) (k : ∀ T' v L, Stand p l e R s m args below meth c T' (locs ++ L) (cells + rm.cells) (slots + rm.slots) → Q v T'.heap L → Ends p.tables e below (T'.setTop (mkF m pc' ls (v.toList ++ rest))) P) : Ends p.tables e below (T.setTop (mkF m pc ls st)) P := by
  subst hp has hstack
  obtain ⟨v, _, ⟨T', _, _, _⟩, -, X', ⟨L, hQ, e1, e2, e3⟩, s'⟩ := X.specialBack hx (y := y) hy1 hown (mvT hZ w1) (mvT hZ w2) (mvT hZ w4) hy (backOf (W := W) hM hZ w4 w3 hf hl) (g := mkF m pc ls (argsL.reverse ++ .ref a :: rest)) rfl hsize (Steps.refl _) (a := a) (argsL := argsL) (rest := rest) hlen rfl (by show 2 * 0 + _ ≤ _; omega) hd (fun _ _ => ⟨rfl, eT, hce, hsl⟩)
  dsimp only [Pt.U, Pt.locs, Pt.cells, Pt.slots] at X' e1 e2 e3 s' hQ
  subst e1 e2 e3
  exact own_via (fun t_ k_ => s'.trans k_) (k T' v L X' hQ)
theorem s_callV (X : Stand p l e R s m args below meth c T locs cells slots) (hx : p.tables.exec = Jvm.exec) (hZ : Z.Warmed39 s.vm) {y : MethodName} {bytes : ByteArray} {maxL : Nat} {ret : Option FieldType} {rm : Room} {W : Nat} {as' : Array Value} {Q : Option Value → Heap → List Loc → Prop} {a : Addr} {own C : String} {index : Nat} (hown : s.vm.findClass own = some m.cls) (w1 : (Jvm.Cond.methodLink own index y).before a0 Z = true) (w2 : (Jvm.Cond.declares y).before a0 Z = true) (w3 : (Jvm.Cond.initialized y.cls).before a0 Z = true) (w4 : (Jvm.Cond.code y bytes maxL ret).before a0 Z = true) (w5 : (Jvm.Cond.selects C y y).before a0 Z = true) (w6 : (Jvm.Cond.instanceMethod y).before a0 Z = true) (hy : y.cls ≠ "java/lang/invoke/MethodHandle" ∧ y.cls ≠ "java/lang/invoke/VarHandle") (eT : T.heap = h) (E : Exa Z h a C) (hM : MetFree l y (head1 [Jvm.Cond.code y bytes maxL ret] rm) (fun a U => a = as' ∧ Z.Warmed39 U.vm ∧ U.heap = h) (fun _ _ _ _ _ => True) (fun _ U o U' => ∃ v L, o = .returned v ∧ Q v U'.heap L ∧ FrameEnd U o U' L rm.cells rm.slots)) (hsize : ls.size = c.maxLocals) (argsL rest : List Value) (has : as' = (.ref a :: argsL).toArray) (hlen : ∀ sig, parseMethodDescriptor y.desc = some sig → argsL.length = sig.parameters.length) (hstack : st = argsL.reverse ++ .ref a :: rest) (hW : (rest.map fun v => v.category).sum ≤ W) (hf : rm.frames + 1 ≤ R.frames) (hl : W + (maxL + 11) + rm.locals ≤ R.locals) (hce : cells + rm.cells ≤ R.cells) (hsl : slots + rm.slots ≤ R.slots) (hp : pc + 3 = pc') (hd : decode c.code pc = .ok (.invokevirtual index, 3)) (k : ∀ T' v L, Stand p l e R s m args below meth c T' (locs ++ L) (cells + rm.cells) (slots + rm.slots) → Q v T'.heap L → Ends p.tables e below (T'.setTop (mkF m pc' ls (v.toList ++ rest))) P) : Ends p.tables e below (T.setTop (mkF m pc ls st)) P := by
  subst hp has hstack
  obtain ⟨cq, kq, qa, qb, qc⟩ := isOf hZ eT E
  obtain ⟨v, _, ⟨T', _, _, _⟩, -, X', ⟨L, hQ, e1, e2, e3⟩, s'⟩ := X.virtualBack hx (y := y) (z := y) hown (mvT hZ w1) (mvT hZ w2) (notFace_of_selects (args := #[]) (mvT hZ w5)) (mvT hZ w5) (mvT hZ w6) hy (backOf (W := W) hM hZ w4 w3 hf hl) qa qc (g := mkF m pc ls (argsL.reverse ++ .ref a :: rest)) rfl hsize (Steps.refl _) (argsL := argsL) (rest := rest) hlen rfl (by show 2 * 0 + _ ≤ _; omega) hd (fun _ _ => ⟨rfl, eT, hce, hsl⟩)
  dsimp only [Pt.U, Pt.locs, Pt.cells, Pt.slots] at X' e1 e2 e3 s' hQ
  subst e1 e2 e3
  exact own_via (fun t_ k_ => s'.trans k_) (k T' v L X' hQ)
theorem s_callP (X : Stand p l e R s m args below meth c T locs cells slots) (hx : p.tables.exec = Jvm.exec) (hZ : Z.Warmed39 s.vm) {y : MethodName} {bytes : ByteArray} {maxL : Nat} {ret : Option FieldType} {rm : Room} {W : Nat} {as' : Array Value} {Q : Option Value → Heap → List Loc → Prop} {a : Addr} {own C : String} {index : Nat} {zz : MethodName} (hzz : zz.cls = y.cls) (hown : s.vm.findClass own = some m.cls) (w1 : (Jvm.Cond.methodLink own index y).before a0 Z = true) (w2 : (Jvm.Cond.privateMethod y).before a0 Z = true) (w3 : (Jvm.Cond.initialized y.cls).before a0 Z = true) (w4 : (Jvm.Cond.code y bytes maxL ret).before a0 Z = true) (w5 : (Jvm.Cond.selects zz.cls zz zz).before a0 Z = true) (w6 : (Jvm.Cond.instanceMethod y).before a0 Z = true) (hy : y.cls ≠ "java/lang/invoke/MethodHandle" ∧ y.cls ≠ "java/lang/invoke/VarHandle") (eT : T.heap = h) (E : Exa Z h a C) (hM : MetFree l y (head1 [Jvm.Cond.code y bytes maxL ret] rm) (fun a U => a = as' ∧ Z.Warmed39 U.vm ∧ U.heap = h) (fun _ _ _ _ _ => True) (fun _ U o U' => ∃ v L, o = .returned v ∧ Q v U'.heap L ∧ FrameEnd U o U' L rm.cells rm.slots)) (hsize : ls.size = c.maxLocals) (argsL rest : List Value) (has : as' = (.ref a :: argsL).toArray) (hlen : ∀ sig, parseMethodDescriptor y.desc = some sig → argsL.length = sig.parameters.length) (hstack : st = argsL.reverse ++ .ref a :: rest) (hW : (rest.map fun v => v.category).sum ≤ W) (hf : rm.frames + 1 ≤ R.frames) (hl : W + (maxL + 11) + rm.locals ≤ R.locals) (hce : cells + rm.cells ≤ R.cells) (hsl : slots + rm.slots ≤ R.slots) (hp : pc + 3 = pc') (hd : decode c.code pc = .ok (.invokevirtual index, 3)) (k : ∀ T' v L, Stand p l e R s m args below meth c T' (locs ++ L) (cells + rm.cells) (slots + rm.slots) → Q v T'.heap L → Ends p.tables e below (T'.setTop (mkF m pc' ls (v.toList ++ rest))) P) : Ends p.tables e below (T.setTop (mkF m pc ls st)) P := by
  subst hp has hstack
  obtain ⟨cq, qa, qb⟩ := E.cell
  have hpr := Cond.privateMethod_at (mvP hZ w2 (args := #[]))
  obtain ⟨v, _, ⟨T', _, _, _⟩, -, X', ⟨L, hQ, e1, e2, e3⟩, s'⟩ := X.privateBack hx (y := y) hown (mvT hZ w1) (mvT hZ w6) (own_selPriv hzz (mvT hZ w5) hpr (mvT hZ w6) hy) hpr (mvT hZ w4) hy (backOf (W := W) hM hZ w4 w3 hf hl) (g := mkF m pc ls (argsL.reverse ++ .ref a :: rest)) rfl hsize (Steps.refl _) (a := a) (by rw [eT]; exact qa) qb (argsL := argsL) (rest := rest) hlen rfl (by show 2 * 0 + _ ≤ _; omega) hd (fun _ _ => ⟨rfl, eT, hce, hsl⟩)
  dsimp only [Pt.U, Pt.locs, Pt.cells, Pt.slots] at X' e1 e2 e3 s' hQ
  subst e1 e2 e3
  exact own_via (fun t_ k_ => s'.trans k_) (k T' v L X' hQ)
theorem s_irem (X : Stand p l e R s m args below meth c T locs cells slots) (hx : p.tables.exec = Jvm.exec) {x y : Int32} (hd : decode c.code pc = .ok (.irem, 1)) (hy : y ≠ 0) (hp : pc + 1 = pc') (hr : Ends p.tables e below (T.setTop (mkF m pc' ls (.int (x % y) :: st))) P) : Ends p.tables e below (T.setTop (mkF m pc ls (.int y :: .int x :: st))) P := by
  subst hp
  exact own_via (fun t_ k_ => iremM X hx rfl hd rfl hy k_) hr
theorem s_ldcI (X : Stand p l e R s m args below meth c T locs cells slots) (hx : p.tables.exec = Jvm.exec) (hZ : Z.Warmed39 s.vm) {own : String} {index : Nat} {v : Int32} (hown : s.vm.findClass own = some m.cls) (w : (Jvm.Cond.constant own index v).before a0 Z = true) (hd : decode c.code pc = .ok (.ldc index, 2)) (hp : pc + 2 = pc') (hr : Ends p.tables e below (T.setTop (mkF m pc' ls (.int v :: st))) P) : Ends p.tables e below (T.setTop (mkF m pc ls st)) P := by
  subst hp
  exact own_via (X.ldcInt hx hown (mvT hZ w) (g := mkF m pc ls st) rfl hd) hr
theorem s_ldcJ (X : Stand p l e R s m args below meth c T locs cells slots) (hx : p.tables.exec = Jvm.exec) (hZ : Z.Warmed39 s.vm) {own : String} {index : Nat} {v : Int64} (hown : s.vm.findClass own = some m.cls) (w : (Jvm.Cond.constantLong own index v).before a0 Z = true) (hd : decode c.code pc = .ok (.ldc2_w index, 3)) (hp : pc + 3 = pc') (hr : Ends p.tables e below (T.setTop (mkF m pc' ls (.long v :: st))) P) : Ends p.tables e below (T.setTop (mkF m pc ls st)) P := by
  subst hp
  exact own_via (X.ldc2Long hx hown (mvT hZ w) (g := mkF m pc ls st) rfl hd) hr
theorem s_callSS {vm0 : Vm} (X : Stand p l e R (s.setVm vm0) m args below meth c T locs cells slots) (hx : p.tables.exec = Jvm.exec) (hZ : Z.Warmed39 (s.setVm vm0).vm) {k0 : Nat} (hS : s.Since vm0 k0) (hk : k0 ≤ h.size) {y : MethodName} {bytes : ByteArray} {maxL : Nat} {ret : Option FieldType} {rm : Room} {W : Nat} {as' : Array Value} {Q : Option Value → Heap → List Loc → Prop} {own : String} {index : Nat} (hown : (s.setVm vm0).vm.findClass own = some m.cls) (w1 : (Jvm.Cond.methodLink own index y).before a0 Z = true) (w2 : (Jvm.Cond.static y).before a0 Z = true) (w3 : (Jvm.Cond.initialized y.cls).before a0 Z = true) (w4 : (Jvm.Cond.code y bytes maxL ret).before a0 Z = true) (hy : y.cls ≠ "java/lang/invoke/MethodHandle" ∧ y.cls ≠ "java/lang/invoke/VarHandle") (eT : T.heap = h) (hM : MetFree l y (head1 [Jvm.Cond.code y bytes maxL ret] rm) (fun a U => a = as' ∧ Z.Warmed39 U.vm ∧ U.heap = h) (fun _ _ _ _ _ => True) (fun _ U o U' => ∃ v L, o = .returned v ∧ Q v U'.heap L ∧ ReturnedEndW U o U' L rm.cells rm.slots)) (hsize : ls.size = c.maxLocals) (argsL rest : List Value) (has : as' = argsL.toArray) (hlen : ∀ sig, parseMethodDescriptor y.desc = some sig → argsL.length = sig.parameters.length) (hstack : st = argsL.reverse ++ rest) (hW : (rest.map fun v => v.category).sum ≤ W) (hf : rm.frames + 1 ≤ R.frames) (hl : W + (maxL + 11) + rm.locals ≤ R.locals) (hce : cells + rm.cells ≤ R.cells) (hsl : slots + rm.slots ≤ R.slots) (hp : pc + 3 = pc') (hd : decode c.code pc = .ok (.invokestatic index, 3)) (k : ∀ T' v L, Stand p l e R (s.setVm T'.vm) m args below meth c T' (locs ++ L) (cells + rm.cells) (slots + rm.slots) → s.Since T'.vm T'.heap.size → Z.Warmed39 (s.setVm T'.vm).vm → (s.setVm T'.vm).vm.findClass own = some m.cls → Q v T'.heap L → Ends p.tables e below (T'.setTop (mkF m pc' ls (v.toList ++ rest))) P) : Ends p.tables e below (T.setTop (mkF m pc ls st)) P := by
  subst hp has hstack
  obtain ⟨v, _, ⟨T', _, _, _⟩, -, X', S', g', ⟨L, hQ, e1, e2, e3⟩, s'⟩ := callSS X hx (y := y) hown (mvT hZ w1) (mvT hZ w2) (mvT hZ w3) (mvT hZ w4) hy (backOfS (W := W) hM hZ w4 w3 hf hl) (g := mkF m pc ls (argsL.reverse ++ rest)) rfl hsize (argsL := argsL) (rest := rest) hlen rfl (by show 2 * 0 + _ ≤ _; omega) hd (fun _ _ => ⟨rfl, eT, hce, hsl⟩)
  dsimp only [Pt.U, Pt.locs, Pt.cells, Pt.slots] at X' S' g' e1 e2 e3 s' hQ
  subst e1 e2 e3
  obtain ⟨X2, S2, Z2, o2⟩ := rebS hS (show _ ≤ T.heap.size by rw [eT]; exact hk) X' S' g' hZ hown
  exact own_via (fun t_ k_ => s'.trans k_) (k T' v L X2 S2 Z2 o2 hQ)
theorem s_callIS {vm0 : Vm} (X : Stand p l e R (s.setVm vm0) m args below meth c T locs cells slots) (hx : p.tables.exec = Jvm.exec) (hZ : Z.Warmed39 (s.setVm vm0).vm) {k0 : Nat} (hS : s.Since vm0 k0) (hk : k0 ≤ h.size) {y : MethodName} {bytes : ByteArray} {maxL : Nat} {rm : Room} {W : Nat} {as' : Array Value} {Q : Option Value → Heap → List Loc → Prop} {own : String} {index : Nat} (hown : (s.setVm vm0).vm.findClass own = some m.cls) (hy1 : y.name = "<init>") (w1 : (Jvm.Cond.methodLink own index y).before a0 Z = true) (w2 : (Jvm.Cond.instanceMethod y).before a0 Z = true) (w3 : (Jvm.Cond.initialized y.cls).before a0 Z = true) (w4 : (Jvm.Cond.code y bytes maxL none).before a0 Z = true) (hy : y.cls ≠ "java/lang/invoke/MethodHandle" ∧ y.cls ≠ "java/lang/invoke/VarHandle") (eT : T.heap = h) (hM : MetFree l y (head1 [Jvm.Cond.code y bytes maxL none] rm) (fun a U => a = as' ∧ Z.Warmed39 U.vm ∧ U.heap = h) (fun _ _ _ _ _ => True) (fun _ U o U' => ∃ v L, o = .returned v ∧ Q v U'.heap L ∧ ReturnedEndW U o U' L rm.cells rm.slots)) (a : Addr) (hsize : ls.size = c.maxLocals) (argsL rest : List Value) (has : as' = (.ref a :: argsL).toArray) (hlen : ∀ sig, parseMethodDescriptor y.desc = some sig → argsL.length = sig.parameters.length) (hstack : st = argsL.reverse ++ .ref a :: rest) (hW : (rest.map fun v => v.category).sum ≤ W) (hf : rm.frames + 1 ≤ R.frames) (hl : W + (maxL + 11) + rm.locals ≤ R.locals) (hce : cells + rm.cells ≤ R.cells) (hsl : slots + rm.slots ≤ R.slots) (hp : pc + 3 = pc') (hd : decode c.code pc = .ok (.invokespecial index, 3)) (k : ∀ T' v L, Stand p l e R (s.setVm T'.vm) m args below meth c T' (locs ++ L) (cells + rm.cells) (slots + rm.slots) → s.Since T'.vm T'.heap.size → Z.Warmed39 (s.setVm T'.vm).vm → (s.setVm T'.vm).vm.findClass own = some m.cls → Q v T'.heap L → Ends p.tables e below (T'.setTop (mkF m pc' ls (v.toList ++ rest))) P) : Ends p.tables e below (T.setTop (mkF m pc ls st)) P := by
  subst hp has hstack
  obtain ⟨v, _, ⟨T', _, _, _⟩, -, X', S', g', ⟨L, hQ, e1, e2, e3⟩, s'⟩ := X.specialBackS hx (y := y) hy1 hown (mvT hZ w1) (mvT hZ w2) (mvT hZ w4) hy (backOfS (W := W) hM hZ w4 w3 hf hl) (g := mkF m pc ls (argsL.reverse ++ .ref a :: rest)) rfl hsize (Steps.refl _) (a := a) (argsL := argsL) (rest := rest) hlen rfl (by show 2 * 0 + _ ≤ _; omega) hd (fun _ _ => ⟨rfl, eT, hce, hsl⟩)
  dsimp only [Pt.U, Pt.locs, Pt.cells, Pt.slots] at X' S' g' e1 e2 e3 s' hQ
  subst e1 e2 e3
  obtain ⟨X2, S2, Z2, o2⟩ := rebS hS (show _ ≤ T.heap.size by rw [eT]; exact hk) X' S' g' hZ hown
  exact own_via (fun t_ k_ => s'.trans k_) (k T' v L X2 S2 Z2 o2 hQ)
theorem s_callVS {vm0 : Vm} (X : Stand p l e R (s.setVm vm0) m args below meth c T locs cells slots) (hx : p.tables.exec = Jvm.exec) (hZ : Z.Warmed39 (s.setVm vm0).vm) {k0 : Nat} (hS : s.Since vm0 k0) (hk : k0 ≤ h.size) {y : MethodName} {bytes : ByteArray} {maxL : Nat} {ret : Option FieldType} {rm : Room} {W : Nat} {as' : Array Value} {Q : Option Value → Heap → List Loc → Prop} {a : Addr} {C : String} {own : String} {index : Nat} (hown : (s.setVm vm0).vm.findClass own = some m.cls) (w1 : (Jvm.Cond.methodLink own index y).before a0 Z = true) (w2 : (Jvm.Cond.declares y).before a0 Z = true) (w3 : (Jvm.Cond.initialized y.cls).before a0 Z = true) (w4 : (Jvm.Cond.code y bytes maxL ret).before a0 Z = true) (w5 : (Jvm.Cond.selects C y y).before a0 Z = true) (w6 : (Jvm.Cond.instanceMethod y).before a0 Z = true) (hy : y.cls ≠ "java/lang/invoke/MethodHandle" ∧ y.cls ≠ "java/lang/invoke/VarHandle") (eT : T.heap = h) (E : Exa Z h a C) (hM : MetFree l y (head1 [Jvm.Cond.code y bytes maxL ret] rm) (fun a U => a = as' ∧ Z.Warmed39 U.vm ∧ U.heap = h) (fun _ _ _ _ _ => True) (fun _ U o U' => ∃ v L, o = .returned v ∧ Q v U'.heap L ∧ ReturnedEndW U o U' L rm.cells rm.slots)) (hsize : ls.size = c.maxLocals) (argsL rest : List Value) (has : as' = (.ref a :: argsL).toArray) (hlen : ∀ sig, parseMethodDescriptor y.desc = some sig → argsL.length = sig.parameters.length) (hstack : st = argsL.reverse ++ .ref a :: rest) (hW : (rest.map fun v => v.category).sum ≤ W) (hf : rm.frames + 1 ≤ R.frames) (hl : W + (maxL + 11) + rm.locals ≤ R.locals) (hce : cells + rm.cells ≤ R.cells) (hsl : slots + rm.slots ≤ R.slots) (hp : pc + 3 = pc') (hd : decode c.code pc = .ok (.invokevirtual index, 3)) (k : ∀ T' v L, Stand p l e R (s.setVm T'.vm) m args below meth c T' (locs ++ L) (cells + rm.cells) (slots + rm.slots) → s.Since T'.vm T'.heap.size → Z.Warmed39 (s.setVm T'.vm).vm → (s.setVm T'.vm).vm.findClass own = some m.cls → Q v T'.heap L → Ends p.tables e below (T'.setTop (mkF m pc' ls (v.toList ++ rest))) P) : Ends p.tables e below (T.setTop (mkF m pc ls st)) P := by
  subst hp has hstack
  obtain ⟨cq, kq, qa, qb, qc⟩ := isOf hZ eT E
  obtain ⟨v, _, ⟨T', _, _, _⟩, -, X', S', g', ⟨L, hQ, e1, e2, e3⟩, s'⟩ := X.virtualBackS hx (y := y) (z := y) hown (mvT hZ w1) (mvT hZ w2) (notFace_of_selects (args := #[]) (mvT hZ w5)) (mvT hZ w5) (mvT hZ w6) hy (backOfS (W := W) hM hZ w4 w3 hf hl) qa qc (g := mkF m pc ls (argsL.reverse ++ .ref a :: rest)) rfl hsize (Steps.refl _) (argsL := argsL) (rest := rest) hlen rfl (by show 2 * 0 + _ ≤ _; omega) hd (fun _ _ => ⟨rfl, eT, hce, hsl⟩)
  dsimp only [Pt.U, Pt.locs, Pt.cells, Pt.slots] at X' S' g' e1 e2 e3 s' hQ
  subst e1 e2 e3
  obtain ⟨X2, S2, Z2, o2⟩ := rebS hS (show _ ≤ T.heap.size by rw [eT]; exact hk) X' S' g' hZ hown
  exact own_via (fun t_ k_ => s'.trans k_) (k T' v L X2 S2 Z2 o2 hQ)
theorem s_ldcS {vm0 : Vm} (X : Stand p l e R (s.setVm vm0) m args below meth c T locs cells slots) (hx : p.tables.exec = Jvm.exec) (hZ : Z.Warmed39 (s.setVm vm0).vm) {k0 : Nat} (hS : s.Since vm0 k0) (hk : k0 ≤ h.size) {own : String} {index : Nat} (hown : (s.setVm vm0).vm.findClass own = some m.cls) {text : String} (w : (Jvm.Cond.stringLink own index text).before a0 Z = true) (wS : ∀ a ∈ Bundle.stringAtoms, a.before a0 Z = true) (eT : T.heap = h) (hd : decode c.code pc = .ok (.ldc index, 2)) {n : Nat} (hn : 4 * text.toList.length ≤ n) (hbig : n ≤ 536870912) (hc : cells + 2 ≤ R.cells) (hl : slots + (n + 4) ≤ R.slots) (hp : pc + 2 = pc') (k : ∀ a T' h' k1, Stand p l e R (s.setVm T'.vm) m args below meth c T' locs (cells + 2) (slots + (n + 4)) → T'.heap = h' → Ext h h' → s.Since T'.vm k1 → k1 ≤ h'.size → Z.Warmed39 (s.setVm T'.vm).vm → (s.setVm T'.vm).vm.findClass own = some m.cls → Ends p.tables e below (T'.setTop (mkF m pc' ls (.ref a :: st))) P) : Ends p.tables e below (T.setTop (mkF m pc ls st)) P := by
  subst hp
  obtain ⟨a, T', h', k1, X', e', E', S', g', Z', o', s'⟩ := ldcS X hx hZ hown w wS eT hS hk (g := mkF m pc ls st) rfl hd hn hbig hc hl
  exact own_via s' (k a T' h' k1 X' e' E' S' g' Z' o')
theorem s_ldcSW {vm0 : Vm} (X : Stand p l e R (s.setVm vm0) m args below meth c T locs cells slots) (hx : p.tables.exec = Jvm.exec) (hZ : Z.Warmed39 (s.setVm vm0).vm) {k0 : Nat} (hS : s.Since vm0 k0) (hk : k0 ≤ h.size) {own : String} {index : Nat} (hown : (s.setVm vm0).vm.findClass own = some m.cls) {text : String} (w : (Jvm.Cond.stringLink own index text).before a0 Z = true) (wS : ∀ a ∈ Bundle.stringAtoms, a.before a0 Z = true) (eT : T.heap = h) (hd : decode c.code pc = .ok (.ldc_w index, 3)) {n : Nat} (hn : 4 * text.toList.length ≤ n) (hbig : n ≤ 536870912) (hc : cells + 2 ≤ R.cells) (hl : slots + (n + 4) ≤ R.slots) (hp : pc + 3 = pc') (k : ∀ a T' h' k1, Stand p l e R (s.setVm T'.vm) m args below meth c T' locs (cells + 2) (slots + (n + 4)) → T'.heap = h' → Ext h h' → s.Since T'.vm k1 → k1 ≤ h'.size → Z.Warmed39 (s.setVm T'.vm).vm → (s.setVm T'.vm).vm.findClass own = some m.cls → Ends p.tables e below (T'.setTop (mkF m pc' ls (.ref a :: st))) P) : Ends p.tables e below (T.setTop (mkF m pc ls st)) P := by
  subst hp
  obtain ⟨a, T', h', k1, X', e', E', S', g', Z', o', s'⟩ := ldcSW X hx hZ hown w wS eT hS hk (g := mkF m pc ls st) rfl hd hn hbig hc hl
  exact own_via s' (k a T' h' k1 X' e' E' S' g' Z' o')
end OwnLaws
section OwnHeld
variable {p : Program} {l : Launch} {e : Env} {R : Room} {s : State} {m : MethodId} {args : Array Value} {below : List Frame} {meth : Method} {c : Code} {T : State} {locs : List Loc} {cells slots : Nat} {Z : State} {a0 : Array Value} {EL : List (String × Nat)} {h : Heap} {vm0 : Vm} {P : State → Outcome → Prop} {pc pc' : Nat} {ls : Array Slot} {st : List Value} {sf : List Addr}
theorem own_safe0 {vm : Vm} : ∀ x ∈ ([] : List Addr), x < h.size ∧ Safe Z EL vm h x := fun _ q => nomatch q
theorem own_safeS {vm : Vm} {x : Addr} {L : List Addr} (a : x < h.size) (b : Safe Z EL vm h x) (r : ∀ y ∈ L, y < h.size ∧ Safe Z EL vm h y) : ∀ y ∈ x :: L, y < h.size ∧ Safe Z EL vm h y := fun y q => by
  rcases List.mem_cons.mp q with rfl | q
  · exact ⟨a, b⟩
  · exact r y q
theorem own_backH {y : MethodName} {bytes : ByteArray} {maxL : Nat} {ret : Option FieldType} {rm : Room} {W : Nat} {as' : Array Value} {Q : Option Value → Heap → List Loc → Prop} {len : Nat} (hM : MetFree l y (head1 [Jvm.Cond.code y bytes maxL ret] rm) (fun a U => a = as' ∧ Z.Warmed39 U.vm ∧ U.heap = h ∧ CHv Z EL U.vm h ∧ ∀ x ∈ sf, Safe Z EL U.vm h x) (fun _ _ _ _ _ => True) (fun _ U o U' => ∃ v L, o = .returned v ∧ Q v U'.heap L ∧ CHr Z EL U.vm U.heap U'.vm U'.heap ∧ ReturnedEndW U o U' L rm.cells rm.slots)) (hZ : Z.Warmed39 vm0) (wc : (Jvm.Cond.code y bytes maxL ret).before a0 Z = true) (wz : (Jvm.Cond.initialized y.cls).before a0 Z = true) (hf : rm.frames + 1 ≤ R.frames) (hl : W + (maxL + 11) + rm.locals ≤ R.locals) (hEL : EW Z a0 EL) (H : CHv Z EL vm0 h) (hsf : ∀ x ∈ sf, x < h.size ∧ Safe Z EL vm0 h x) :
    BackS l R p e below (s.setVm vm0) args y len W (fun A a => a = as' ∧ A.U.heap = h ∧ A.cells + rm.cells ≤ R.cells ∧ A.slots + rm.slots ≤ R.slots)
      (fun A _ v B => ∃ L, Q v B.U.heap L ∧ B.locs = A.locs ++ L ∧ B.cells = A.cells + rm.cells ∧ B.slots = A.slots + rm.slots ∧ CHr Z EL vm0 h B.U.vm B.U.heap) := by
  refine BackS.of_freeW (bytes := bytes) (maxL := maxL) (ret := ret) (E := fun _ U o t L k n => k = rm.cells ∧ n = rm.slots ∧ (∃ v, o = .returned v ∧ Q v t.heap L) ∧ CHr Z EL U.vm U.heap t.vm t.heap) hM hf hl ?_ ?_ ?_ ?_ ?_
  · intro m meth c A a Y hp
    have hU : Z.Warmed39 A.U.vm := wtrans (s := s.setVm vm0) hZ Y.warmed
    refine ⟨?_, mv hU wc, mv hU wz, hp.2.2.1, hp.2.2.2⟩
    show (Jvm.Cond.and _ .tt).before a A.U = true
    rw [Cond.before_and, mv hU wc]
    rfl
  · intro m meth c A a g mk Y hp
    have hR := CHv.at Y hZ hEL H
    exact ⟨hp.1, wtrans (s := s.setVm vm0) hZ Y.warmed, hp.2.1, hR.1, fun x hx => hR.safe (hsf x hx).1 (hsf x hx).2⟩
  · intro m meth c A a g mk Y hp
    trivial
  · intro a U o t q
    obtain ⟨v, L, h1, h2, h3, h4⟩ := q
    exact ⟨L, _, _, h4, rfl, rfl, ⟨v, h1, h2⟩, h3⟩
  · intro m meth c A a g mk v t L k n Y hp _ _ q
    obtain ⟨e1, e2, ⟨v', e3, e4⟩, e5⟩ := q
    cases e3
    subst e1 e2
    refine ⟨L, e4, rfl, rfl, rfl, (CHv.at Y hZ hEL H).trans ?_⟩
    rw [← hp.2.1]
    exact e5
theorem s_callSH (X : Stand p l e R (s.setVm vm0) m args below meth c T locs cells slots) (hx : p.tables.exec = Jvm.exec) (hZ : Z.Warmed39 (s.setVm vm0).vm) {k0 : Nat} (hS : s.Since vm0 k0) (hk : k0 ≤ h.size) (hEL : EW Z a0 EL) (HC : CHv Z EL vm0 h) {y : MethodName} {bytes : ByteArray} {maxL : Nat} {ret : Option FieldType} {rm : Room} {W : Nat} {as' : Array Value} {Q : Option Value → Heap → List Loc → Prop} {own : String} {index : Nat} (hown : (s.setVm vm0).vm.findClass own = some m.cls) (w1 : (Jvm.Cond.methodLink own index y).before a0 Z = true) (w2 : (Jvm.Cond.static y).before a0 Z = true) (w3 : (Jvm.Cond.initialized y.cls).before a0 Z = true) (w4 : (Jvm.Cond.code y bytes maxL ret).before a0 Z = true) (hy : y.cls ≠ "java/lang/invoke/MethodHandle" ∧ y.cls ≠ "java/lang/invoke/VarHandle") (eT : T.heap = h) (hM : MetFree l y (head1 [Jvm.Cond.code y bytes maxL ret] rm) (fun a U => a = as' ∧ Z.Warmed39 U.vm ∧ U.heap = h ∧ CHv Z EL U.vm h ∧ ∀ x ∈ sf, Safe Z EL U.vm h x) (fun _ _ _ _ _ => True) (fun _ U o U' => ∃ v L, o = .returned v ∧ Q v U'.heap L ∧ CHr Z EL U.vm U.heap U'.vm U'.heap ∧ ReturnedEndW U o U' L rm.cells rm.slots)) (hsf : ∀ x ∈ sf, x < h.size ∧ Safe Z EL vm0 h x) (hsize : ls.size = c.maxLocals) (argsL rest : List Value) (has : as' = argsL.toArray) (hlen : ∀ sig, parseMethodDescriptor y.desc = some sig → argsL.length = sig.parameters.length) (hstack : st = argsL.reverse ++ rest) (hW : (rest.map fun v => v.category).sum ≤ W) (hf : rm.frames + 1 ≤ R.frames) (hl : W + (maxL + 11) + rm.locals ≤ R.locals) (hce : cells + rm.cells ≤ R.cells) (hsl : slots + rm.slots ≤ R.slots) (hp : pc + 3 = pc') (hd : decode c.code pc = .ok (.invokestatic index, 3)) (k : ∀ T' v L, Stand p l e R (s.setVm T'.vm) m args below meth c T' (locs ++ L) (cells + rm.cells) (slots + rm.slots) → s.Since T'.vm T'.heap.size → Z.Warmed39 (s.setVm T'.vm).vm → (s.setVm T'.vm).vm.findClass own = some m.cls → CHr Z EL vm0 h T'.vm T'.heap → Q v T'.heap L → Ends p.tables e below (T'.setTop (mkF m pc' ls (v.toList ++ rest))) P) : Ends p.tables e below (T.setTop (mkF m pc ls st)) P := by
  subst hp has hstack
  obtain ⟨v, _, ⟨T', _, _, _⟩, -, X', S', g', ⟨L, hQ, e1, e2, e3, e4⟩, s'⟩ := callSS X hx (y := y) hown (mvT hZ w1) (mvT hZ w2) (mvT hZ w3) (mvT hZ w4) hy (own_backH (W := W) hM hZ w4 w3 hf hl hEL HC hsf) (g := mkF m pc ls (argsL.reverse ++ rest)) rfl hsize (argsL := argsL) (rest := rest) hlen rfl (by show 2 * 0 + _ ≤ _; omega) hd (fun _ _ => ⟨rfl, eT, hce, hsl⟩)
  dsimp only [Pt.U, Pt.locs, Pt.cells, Pt.slots] at X' S' g' e1 e2 e3 e4 s' hQ
  subst e1 e2 e3
  obtain ⟨X2, S2, Z2, o2⟩ := rebS hS (show _ ≤ T.heap.size by rw [eT]; exact hk) X' S' g' hZ hown
  exact own_via (fun t_ k_ => s'.trans k_) (k T' v L X2 S2 Z2 o2 e4 hQ)
theorem s_callIH (X : Stand p l e R (s.setVm vm0) m args below meth c T locs cells slots) (hx : p.tables.exec = Jvm.exec) (hZ : Z.Warmed39 (s.setVm vm0).vm) {k0 : Nat} (hS : s.Since vm0 k0) (hk : k0 ≤ h.size) (hEL : EW Z a0 EL) (HC : CHv Z EL vm0 h) {y : MethodName} {bytes : ByteArray} {maxL : Nat} {rm : Room} {W : Nat} {as' : Array Value} {Q : Option Value → Heap → List Loc → Prop} {own : String} {index : Nat} (hown : (s.setVm vm0).vm.findClass own = some m.cls) (hy1 : y.name = "<init>") (w1 : (Jvm.Cond.methodLink own index y).before a0 Z = true) (w2 : (Jvm.Cond.instanceMethod y).before a0 Z = true) (w3 : (Jvm.Cond.initialized y.cls).before a0 Z = true) (w4 : (Jvm.Cond.code y bytes maxL none).before a0 Z = true) (hy : y.cls ≠ "java/lang/invoke/MethodHandle" ∧ y.cls ≠ "java/lang/invoke/VarHandle") (eT : T.heap = h) (hM : MetFree l y (head1 [Jvm.Cond.code y bytes maxL none] rm) (fun a U => a = as' ∧ Z.Warmed39 U.vm ∧ U.heap = h ∧ CHv Z EL U.vm h ∧ ∀ x ∈ sf, Safe Z EL U.vm h x) (fun _ _ _ _ _ => True) (fun _ U o U' => ∃ v L, o = .returned v ∧ Q v U'.heap L ∧ CHr Z EL U.vm U.heap U'.vm U'.heap ∧ ReturnedEndW U o U' L rm.cells rm.slots)) (hsf : ∀ x ∈ sf, x < h.size ∧ Safe Z EL vm0 h x) (a : Addr) (hsize : ls.size = c.maxLocals) (argsL rest : List Value) (has : as' = (.ref a :: argsL).toArray) (hlen : ∀ sig, parseMethodDescriptor y.desc = some sig → argsL.length = sig.parameters.length) (hstack : st = argsL.reverse ++ .ref a :: rest) (hW : (rest.map fun v => v.category).sum ≤ W) (hf : rm.frames + 1 ≤ R.frames) (hl : W + (maxL + 11) + rm.locals ≤ R.locals) (hce : cells + rm.cells ≤ R.cells) (hsl : slots + rm.slots ≤ R.slots) (hp : pc + 3 = pc') (hd : decode c.code pc = .ok (.invokespecial index, 3)) (k : ∀ T' v L, Stand p l e R (s.setVm T'.vm) m args below meth c T' (locs ++ L) (cells + rm.cells) (slots + rm.slots) → s.Since T'.vm T'.heap.size → Z.Warmed39 (s.setVm T'.vm).vm → (s.setVm T'.vm).vm.findClass own = some m.cls → CHr Z EL vm0 h T'.vm T'.heap → Q v T'.heap L → Ends p.tables e below (T'.setTop (mkF m pc' ls (v.toList ++ rest))) P) : Ends p.tables e below (T.setTop (mkF m pc ls st)) P := by
  subst hp has hstack
  obtain ⟨v, _, ⟨T', _, _, _⟩, -, X', S', g', ⟨L, hQ, e1, e2, e3, e4⟩, s'⟩ := X.specialBackS hx (y := y) hy1 hown (mvT hZ w1) (mvT hZ w2) (mvT hZ w4) hy (own_backH (W := W) hM hZ w4 w3 hf hl hEL HC hsf) (g := mkF m pc ls (argsL.reverse ++ .ref a :: rest)) rfl hsize (Steps.refl _) (a := a) (argsL := argsL) (rest := rest) hlen rfl (by show 2 * 0 + _ ≤ _; omega) hd (fun _ _ => ⟨rfl, eT, hce, hsl⟩)
  dsimp only [Pt.U, Pt.locs, Pt.cells, Pt.slots] at X' S' g' e1 e2 e3 e4 s' hQ
  subst e1 e2 e3
  obtain ⟨X2, S2, Z2, o2⟩ := rebS hS (show _ ≤ T.heap.size by rw [eT]; exact hk) X' S' g' hZ hown
  exact own_via (fun t_ k_ => s'.trans k_) (k T' v L X2 S2 Z2 o2 e4 hQ)
theorem s_ldcCH (X : Stand p l e R (s.setVm vm0) m args below meth c T locs cells slots) (hx : p.tables.exec = Jvm.exec) (hZ : Z.Warmed39 (s.setVm vm0).vm) {k0 : Nat} (hS : s.Since vm0 k0) (hk : k0 ≤ h.size) (hEL : EW Z a0 EL) (HC : CHv Z EL vm0 h) {own : String} {index : Nat} (hown : (s.setVm vm0).vm.findClass own = some m.cls) {text : String} (w : (Jvm.Cond.stringLink own index text).before a0 Z = true) (wS : ∀ a ∈ Bundle.stringAtoms, a.before a0 Z = true) (eT : T.heap = h) (hmem : (own, index) ∈ EL) {vs : List Value} {z : Int32} (ht : (∀ c ∈ text.toList, c.toNat < 256) ∧ text.toList.map (fun c => Value.int (Jvm.Lit.byteI c.toNat.toUInt16)) = vs) (hz : ¬ z < 0) (hlz : z.toNatClampNeg = vs.length) (hd : decode c.code pc = .ok (.ldc index, 2)) {n : Nat} (hn : 4 * text.toList.length ≤ n) (hbig : n ≤ 536870912) (hc : cells + 2 ≤ R.cells) (hl : slots + (n + 4) ≤ R.slots) (hp : pc + 2 = pc') (k : ∀ a b kb T' h' k1, Stand p l e R (s.setVm T'.vm) m args below meth c T' locs (cells + 2) (slots + (n + 4)) → T'.heap = h' → Ext h h' → s.Since T'.vm k1 → k1 ≤ h'.size → Z.Warmed39 (s.setVm T'.vm).vm → (s.setVm T'.vm).vm.findClass own = some m.cls → CHr Z EL vm0 h T'.vm h' → Exa Z h' a "java/lang/String" → Fld Z h' a "java/lang/String" "coder" "B" (.int 0) → Fld Z h' a "java/lang/String" "value" "[B" (.ref b) → Arv Z h' b kb .byte z vs (.int 0) → (∀ x, Safe Z EL T'.vm h' x → x ≠ a ∧ x ≠ b) → Ends p.tables e below (T'.setTop (mkF m pc' ls (.ref a :: st))) P) : Ends p.tables e below (T.setTop (mkF m pc ls st)) P := by
  subst hp
  obtain ⟨a, T', h', k1, b, kb, X', e', E', S', g', Z', o', E1, F1, F2, V1, -, -, hr, -, hs, s'⟩ := ldcCH X hx hZ hown w wS eT hS hk hEL hmem HC ht hz hlz (g := mkF m pc ls st) rfl hd hn hbig hc hl
  exact own_via s' (k a b kb T' h' k1 X' e' E' S' g' Z' o' hr E1 F1 F2 V1 hs)
theorem s_ldcOH (X : Stand p l e R (s.setVm vm0) m args below meth c T locs cells slots) (hx : p.tables.exec = Jvm.exec) (hZ : Z.Warmed39 (s.setVm vm0).vm) {k0 : Nat} (hS : s.Since vm0 k0) (hk : k0 ≤ h.size) (hEL : EW Z a0 EL) (HC : CHv Z EL vm0 h) {own : String} {index : Nat} (hown : (s.setVm vm0).vm.findClass own = some m.cls) {text : String} (w : (Jvm.Cond.stringLink own index text).before a0 Z = true) (wS : ∀ a ∈ Bundle.stringAtoms, a.before a0 Z = true) (eT : T.heap = h) (hd : decode c.code pc = .ok (.ldc index, 2)) {n : Nat} (hn : 4 * text.toList.length ≤ n) (hbig : n ≤ 536870912) (hc : cells + 2 ≤ R.cells) (hl : slots + (n + 4) ≤ R.slots) (hp : pc + 2 = pc') (k : ∀ a T' h' k1, Stand p l e R (s.setVm T'.vm) m args below meth c T' locs (cells + 2) (slots + (n + 4)) → T'.heap = h' → Ext h h' → s.Since T'.vm k1 → k1 ≤ h'.size → Z.Warmed39 (s.setVm T'.vm).vm → (s.setVm T'.vm).vm.findClass own = some m.cls → CHr Z EL vm0 h T'.vm h' → Ends p.tables e below (T'.setTop (mkF m pc' ls (.ref a :: st))) P) : Ends p.tables e below (T.setTop (mkF m pc ls st)) P := by
  subst hp
  obtain ⟨a, T', h', k1, X', e', E', S', g', Z', o', hr, -, s'⟩ := ldcOH X hx hZ hown w wS eT hS hk hEL HC (g := mkF m pc ls st) rfl hd hn hbig hc hl
  exact own_via s' (k a T' h' k1 X' e' E' S' g' Z' o' hr)
end OwnHeld

theorem own_wS {Z : State} {a0 : Array Value} (hw : ∀ d ∈ tables_1, d.before a0 Z = true) : ∀ a ∈ Bundle.stringAtoms, a.before a0 Z = true := by
  intro a ha
  simp only [Bundle.stringAtoms, List.mem_cons, List.not_mem_nil, or_false] at ha
  rcases ha with rfl | rfl | rfl | rfl | rfl | rfl | rfl
  · exact (hw _ (List.mem_of_getElem? (i := 5) rfl))
  · exact (hw _ (List.mem_of_getElem? (i := 6) rfl))
  · exact (hw _ (List.mem_of_getElem? (i := 7) rfl))
  · exact (hw _ (List.mem_of_getElem? (i := 8) rfl))
  · exact (hw _ (List.mem_of_getElem? (i := 9) rfl))
  · exact (hw _ (List.mem_of_getElem? (i := 10) rfl))
  · exact (hw _ (List.mem_of_getElem? (i := 11) rfl))
theorem own_EW {Z : State} {a0 : Array Value} (hw : ∀ d ∈ tables_1, d.before a0 Z = true) : EW Z a0 consts_1 := (EW.cons (hw _ (List.mem_of_getElem? (i := 47) rfl)) (by decide) (EW.cons (hw _ (List.mem_of_getElem? (i := 4) rfl)) (by decide) (EW.cons (hw _ (List.mem_of_getElem? (i := 48) rfl)) (by decide) EW.nil)))
theorem own_sh0 (z : Int32) : z >>> ((0 : Int32) &&& 31) = z := by
  have h := c_ishr z 0 0 (by decide)
  exact Int32.toInt_inj.mp (by rw [h]; omega)
theorem own_ch (x : Int32) : nar .char ((x &&& (255 : Int32)).toUInt32.toUInt16.toUInt32.toInt32) = x &&& (255 : Int32) := by
  rw [i2c_mask]
  exact i2c_mask x
theorem own_d3_0 : decode jdk_42_method_152_code 0 = .ok (.getstatic 38, 3) := by decide +kernel
theorem own_d3_3 : decode jdk_42_method_152_code 3 = .ok (.ifCond .eq 10, 3) := by decide +kernel
theorem own_d3_6 : decode jdk_42_method_152_code 6 = .ok (.aload_n 0, 1) := by decide +kernel
theorem own_d3_7 : decode jdk_42_method_152_code 7 = .ok (.getfield 15, 3) := by decide +kernel
theorem own_d3_10 : decode jdk_42_method_152_code 10 = .ok (.goto 4, 3) := by decide +kernel
theorem own_d3_14 : decode jdk_42_method_152_code 14 = .ok (.ireturn, 1) := by decide +kernel
theorem own_pn0 : plainName "java/lang/String" = true := by first | (simp [plainName, overriddenIn]; done) | decide +kernel
theorem own_rm3_ef (m : MethodId) (a : Addr) (cs : Int32) : entryFrame m #[(.ref a)] 1 = mkF m 0 #[.val (.ref a)] [] := by first | (simp [entryFrame, mkF, argsToLocals, Value.category]; done) | rfl
def own_rm3_Q (Z : State) (a : Addr) (cs : Int32) (h0 : Heap) (n0 : Nat) (v : Option Value) (h : Heap) (L : List Loc) : Prop := v = some (.int 0) ∧ Fr n0 L ∧ h = h0
set_option maxRecDepth 65536 in
set_option maxHeartbeats 40000000 in
theorem own_rm3 (l : Launch) (Z : State) (a0 : Array Value) (hw : ∀ d ∈ tables_1, d.before a0 Z = true) (ws : List Jvm.Cond) (a : Addr) (cs : Int32) (h0 : Heap) (n0 : Nat) (Z0 : n0 ≤ h0.size) (O0 : Old Z n0 h0) (S_cs : Sta Z Z.heap "java/lang/String" "COMPACT_STRINGS" "Z" (.int cs)) (hcs : ¬ cs = (0 : Int32)) (F_c : Fld Z h0 a "java/lang/String" "coder" "B" (.int (0 : Int32))) :
    MetFree l (⟨"java/lang/String", "coder", "()B"⟩ : MethodName) (head1 (Jvm.Cond.code (⟨"java/lang/String", "coder", "()B"⟩ : MethodName) jdk_42_method_152_code 1 (some .byte) :: ws) ({ frames := 0, cells := 0, slots := 0, locals := 0 } : Room)) (fun as_ U => as_ = #[(.ref a)] ∧ Z.Warmed39 U.vm ∧ U.heap = h0) (fun _ _ _ _ _ => True) (fun _ U_ o_ V_ => ∃ v_ L_, o_ = .returned v_ ∧ own_rm3_Q Z a cs h0 n0 v_ V_.heap L_ ∧ FrameEnd U_ o_ V_ L_ ({ frames := 0, cells := 0, slots := 0, locals := 0 } : Room).cells ({ frames := 0, cells := 0, slots := 0, locals := 0 } : Room).slots) := by
  refine MetFree.of_bodySF (plainFor_of_name own_pn0) hisR ?_
  intro p e s m args below meth c s₁ Bd hml0 hP hK
  obtain ⟨rfl, hZ, hh⟩ := hP
  have hx := Bd.exec
  have hby := Bd.bytes
  have hml : c.maxLocals = 1 := hml0
  have hown : s.vm.findClass "java/lang/String" = some m.cls := findClass_of_methodNamed Bd.named
  have hnm := (name_of_methodNamed Bd.named Bd.method).1
  have X0 : Stand p l e ({ frames := 0, cells := 0, slots := 0, locals := 0 } : Room) s m #[(.ref a)] below meth c s₁ [] 0 0 := Stand.of_body Bd
  have e0 : s₁.heap = h0 := by rw [← hh, Bd.state]; rfl
  have N0 := Fr.nil n0
  refine own_begin (own_rm3_ef m a cs) ?_
  show Ends p.tables e below (s₁.setTop (mkF m 0 #[.val (.ref a)] [])) _
  refine s_getS (pc' := 3) X0 hx hZ hown (host := "") (Or.inl (hw _ (List.mem_of_getElem? (i := 23) rfl))) Via.refl e0 (S_cs.ext O0.2) (hb hby own_d3_0) rfl fun T1 X1 e1 => ?_
  have hk2 : ¬ (cs = (0 : Int32)) := hcs
  refine s_ifNo (pc' := 6) X1.here hx (hb hby own_d3_3) ((if0 _ _).trans (feq hk2).1) rfl ?_
  refine s_aloadN (pc' := 7) X1.here hx (hb hby own_d3_6) rfl rfl rfl ?_
  refine s_getF (pc' := 10) X1 hx hZ hown (host := "") (Or.inl (hw _ (List.mem_of_getElem? (i := 24) rfl))) Via.refl e1 F_c (hb hby own_d3_7) rfl fun T3 X3 e3 => ?_
  refine s_goto (pc' := 14) X3.here hx (hb hby own_d3_10) (by decide) (by decide) ?_
  obtain ⟨fs, hr, hrun, hended, hW, hsame⟩ := X3.leave (v := some (.int (0 : Int32))) (fun h => by rw [Bd.returns] at h; cases h)
  refine ⟨_, _, retN X3 hx (t := .byte) Bd.returns (by simp) (hb hby own_d3_14) hr, hrun, hended, _, _, rfl, ?_, ⟨_, rfl⟩, hW, hsame.mono (by decide) (by decide)⟩
  show own_rm3_Q Z a cs h0 n0 _ T3.heap _
  rw [e3]
  exact ⟨rfl, N0, rfl⟩
theorem own_d5_0 : decode jdk_42_method_154_code 0 = .ok (.getstatic 38, 3) := by decide +kernel
theorem own_d5_3 : decode jdk_42_method_154_code 3 = .ok (.ifCond .eq 14, 3) := by decide +kernel
theorem own_d5_6 : decode jdk_42_method_154_code 6 = .ok (.aload_n 0, 1) := by decide +kernel
theorem own_d5_7 : decode jdk_42_method_154_code 7 = .ok (.getfield 15, 3) := by decide +kernel
theorem own_d5_10 : decode jdk_42_method_154_code 10 = .ok (.ifCond .ne 7, 3) := by decide +kernel
theorem own_d5_13 : decode jdk_42_method_154_code 13 = .ok (.iconst 1, 1) := by decide +kernel
theorem own_d5_14 : decode jdk_42_method_154_code 14 = .ok (.goto 4, 3) := by decide +kernel
theorem own_d5_18 : decode jdk_42_method_154_code 18 = .ok (.ireturn, 1) := by decide +kernel
theorem own_rm5_ef (m : MethodId) (a : Addr) (cs : Int32) : entryFrame m #[(.ref a)] 1 = mkF m 0 #[.val (.ref a)] [] := by first | (simp [entryFrame, mkF, argsToLocals, Value.category]; done) | rfl
def own_rm5_Q (Z : State) (a : Addr) (cs : Int32) (h0 : Heap) (n0 : Nat) (v : Option Value) (h : Heap) (L : List Loc) : Prop := v = some (.int 1) ∧ Fr n0 L ∧ h = h0
set_option maxRecDepth 65536 in
set_option maxHeartbeats 40000000 in
theorem own_rm5 (l : Launch) (Z : State) (a0 : Array Value) (hw : ∀ d ∈ tables_1, d.before a0 Z = true) (ws : List Jvm.Cond) (a : Addr) (cs : Int32) (h0 : Heap) (n0 : Nat) (Z0 : n0 ≤ h0.size) (O0 : Old Z n0 h0) (S_cs : Sta Z Z.heap "java/lang/String" "COMPACT_STRINGS" "Z" (.int cs)) (hcs : ¬ cs = (0 : Int32)) (F_c : Fld Z h0 a "java/lang/String" "coder" "B" (.int (0 : Int32))) :
    MetFree l (⟨"java/lang/String", "isLatin1", "()Z"⟩ : MethodName) (head1 (Jvm.Cond.code (⟨"java/lang/String", "isLatin1", "()Z"⟩ : MethodName) jdk_42_method_154_code 1 (some .boolean) :: ws) ({ frames := 0, cells := 0, slots := 0, locals := 0 } : Room)) (fun as_ U => as_ = #[(.ref a)] ∧ Z.Warmed39 U.vm ∧ U.heap = h0) (fun _ _ _ _ _ => True) (fun _ U_ o_ V_ => ∃ v_ L_, o_ = .returned v_ ∧ own_rm5_Q Z a cs h0 n0 v_ V_.heap L_ ∧ FrameEnd U_ o_ V_ L_ ({ frames := 0, cells := 0, slots := 0, locals := 0 } : Room).cells ({ frames := 0, cells := 0, slots := 0, locals := 0 } : Room).slots) := by
  refine MetFree.of_bodySF (plainFor_of_name own_pn0) hisR ?_
  intro p e s m args below meth c s₁ Bd hml0 hP hK
  obtain ⟨rfl, hZ, hh⟩ := hP
  have hx := Bd.exec
  have hby := Bd.bytes
  have hml : c.maxLocals = 1 := hml0
  have hown : s.vm.findClass "java/lang/String" = some m.cls := findClass_of_methodNamed Bd.named
  have hnm := (name_of_methodNamed Bd.named Bd.method).1
  have X0 : Stand p l e ({ frames := 0, cells := 0, slots := 0, locals := 0 } : Room) s m #[(.ref a)] below meth c s₁ [] 0 0 := Stand.of_body Bd
  have e0 : s₁.heap = h0 := by rw [← hh, Bd.state]; rfl
  have N0 := Fr.nil n0
  refine own_begin (own_rm5_ef m a cs) ?_
  show Ends p.tables e below (s₁.setTop (mkF m 0 #[.val (.ref a)] [])) _
  refine s_getS (pc' := 3) X0 hx hZ hown (host := "") (Or.inl (hw _ (List.mem_of_getElem? (i := 23) rfl))) Via.refl e0 (S_cs.ext O0.2) (hb hby own_d5_0) rfl fun T1 X1 e1 => ?_
  have hk2 : ¬ (cs = (0 : Int32)) := hcs
  refine s_ifNo (pc' := 6) X1.here hx (hb hby own_d5_3) ((if0 _ _).trans (feq hk2).1) rfl ?_
  refine s_aloadN (pc' := 7) X1.here hx (hb hby own_d5_6) rfl rfl rfl ?_
  refine s_getF (pc' := 10) X1 hx hZ hown (host := "") (Or.inl (hw _ (List.mem_of_getElem? (i := 24) rfl))) Via.refl e1 F_c (hb hby own_d5_7) rfl fun T3 X3 e3 => ?_
  have hk4 : (0 : Int32) = (0 : Int32) := rfl
  refine s_ifNo (pc' := 13) X3.here hx (hb hby own_d5_10) ((if0 _ _).trans (teq hk4).2) rfl ?_
  refine s_iconst (pc' := 14) X3.here hx (v := (1 : Int32)) (hb hby own_d5_13) rfl rfl ?_
  refine s_goto (pc' := 18) X3.here hx (hb hby own_d5_14) (by decide) (by decide) ?_
  obtain ⟨fs, hr, hrun, hended, hW, hsame⟩ := X3.leave (v := some (.int (1 : Int32))) (fun h => by rw [Bd.returns] at h; cases h)
  refine ⟨_, _, retN X3 hx (t := .boolean) Bd.returns (by simp) (hb hby own_d5_18) hr, hrun, hended, _, _, rfl, ?_, ⟨_, rfl⟩, hW, hsame.mono (by decide) (by decide)⟩
  show own_rm5_Q Z a cs h0 n0 _ T3.heap _
  rw [e3]
  exact ⟨rfl, N0, rfl⟩
theorem own_d2_0 : decode jdk_42_method_54_code 0 = .ok (.aload_n 0, 1) := by decide +kernel
theorem own_d2_1 : decode jdk_42_method_54_code 1 = .ok (.getfield 9, 3) := by decide +kernel
theorem own_d2_4 : decode jdk_42_method_54_code 4 = .ok (.arraylength, 1) := by decide +kernel
theorem own_d2_5 : decode jdk_42_method_54_code 5 = .ok (.aload_n 0, 1) := by decide +kernel
theorem own_d2_6 : decode jdk_42_method_54_code 6 = .ok (.invokevirtual 335, 3) := by decide +kernel
theorem own_pd0 : parseMethodDescriptor "()B" = some ⟨[], some .byte⟩ := by decide +kernel
theorem own_d2_9 : decode jdk_42_method_54_code 9 = .ok (.ishr, 1) := by decide +kernel
theorem own_d2_10 : decode jdk_42_method_54_code 10 = .ok (.ireturn, 1) := by decide +kernel
theorem own_rm2_ef (m : MethodId) (a : Addr) (cs : Int32) (b : Addr) (k : ClassId) (z : Int32) (vs : List Value) : entryFrame m #[(.ref a)] 1 = mkF m 0 #[.val (.ref a)] [] := by first | (simp [entryFrame, mkF, argsToLocals, Value.category]; done) | rfl
def own_rm2_Q (Z : State) (a : Addr) (cs : Int32) (b : Addr) (k : ClassId) (z : Int32) (vs : List Value) (h0 : Heap) (n0 : Nat) (v : Option Value) (h : Heap) (L : List Loc) : Prop := v = some (.int z) ∧ Fr n0 L ∧ h = h0
set_option maxRecDepth 65536 in
set_option maxHeartbeats 40000000 in
theorem own_rm2 (l : Launch) (Z : State) (a0 : Array Value) (hw : ∀ d ∈ tables_1, d.before a0 Z = true) (ws : List Jvm.Cond) (a : Addr) (cs : Int32) (b : Addr) (k : ClassId) (z : Int32) (vs : List Value) (h0 : Heap) (n0 : Nat) (Z0 : n0 ≤ h0.size) (O0 : Old Z n0 h0) (S_cs : Sta Z Z.heap "java/lang/String" "COMPACT_STRINGS" "Z" (.int cs)) (hcs : ¬ cs = (0 : Int32)) (F_c : Fld Z h0 a "java/lang/String" "coder" "B" (.int (0 : Int32))) (F_v : Fld Z h0 a "java/lang/String" "value" "[B" (.ref b)) (E_a : Exa Z h0 a "java/lang/String") (V_b : Arv Z h0 b k .byte z vs (.int (0 : Int32))) :
    MetFree l (⟨"java/lang/String", "length", "()I"⟩ : MethodName) (head1 (Jvm.Cond.code (⟨"java/lang/String", "length", "()I"⟩ : MethodName) jdk_42_method_54_code 1 (some .int) :: ws) ({ frames := 1, cells := 0, slots := 0, locals := 13 } : Room)) (fun as_ U => as_ = #[(.ref a)] ∧ Z.Warmed39 U.vm ∧ U.heap = h0) (fun _ _ _ _ _ => True) (fun _ U_ o_ V_ => ∃ v_ L_, o_ = .returned v_ ∧ own_rm2_Q Z a cs b k z vs h0 n0 v_ V_.heap L_ ∧ FrameEnd U_ o_ V_ L_ ({ frames := 1, cells := 0, slots := 0, locals := 13 } : Room).cells ({ frames := 1, cells := 0, slots := 0, locals := 13 } : Room).slots) := by
  refine MetFree.of_bodySF (plainFor_of_name own_pn0) hisR ?_
  intro p e s m args below meth c s₁ Bd hml0 hP hK
  obtain ⟨rfl, hZ, hh⟩ := hP
  have hx := Bd.exec
  have hby := Bd.bytes
  have hml : c.maxLocals = 1 := hml0
  have hown : s.vm.findClass "java/lang/String" = some m.cls := findClass_of_methodNamed Bd.named
  have hnm := (name_of_methodNamed Bd.named Bd.method).1
  have X0 : Stand p l e ({ frames := 1, cells := 0, slots := 0, locals := 13 } : Room) s m #[(.ref a)] below meth c s₁ [] 0 0 := Stand.of_body Bd
  have e0 : s₁.heap = h0 := by rw [← hh, Bd.state]; rfl
  have N0 := Fr.nil n0
  refine own_begin (own_rm2_ef m a cs b k z vs) ?_
  show Ends p.tables e below (s₁.setTop (mkF m 0 #[.val (.ref a)] [])) _
  refine s_aloadN (pc' := 1) X0.here hx (hb hby own_d2_0) rfl rfl rfl ?_
  refine s_getF (pc' := 4) X0 hx hZ hown (host := "") (Or.inl (hw _ (List.mem_of_getElem? (i := 17) rfl))) Via.refl e0 F_v (hb hby own_d2_1) rfl fun T1 X1 e1 => ?_
  refine s_arraylength (pc' := 5) X1 hx hZ e1 V_b (hb hby own_d2_4) rfl ?_
  refine s_aloadN (pc' := 6) X1.here hx (hb hby own_d2_5) rfl rfl rfl ?_
  refine s_callV (pc' := 9) (W := 1) X1 hx hZ  hown (hw _ (List.mem_of_getElem? (i := 18) rfl)) (hw _ (List.mem_of_getElem? (i := 19) rfl)) (hw _ (List.mem_of_getElem? (i := 5) rfl)) (hw _ (List.mem_of_getElem? (i := 22) rfl)) (hw _ (List.mem_of_getElem? (i := 21) rfl)) (hw _ (List.mem_of_getElem? (i := 20) rfl)) (by decide) e1 E_a (own_rm3 l Z a0 hw [] a cs h0 n0 Z0 O0 S_cs hcs F_c) (by rw [hml]; rfl) [] [(.int z)] rfl (lenOf own_pd0 rfl) rfl (Nat.le_of_eq rfl) (by decide) (by decide) (by decide) (by decide) rfl (hb hby own_d2_6) fun T2 v2 Lc2 X2 hQ2 => ?_
  obtain ⟨rfl, Nq2, eh2⟩ := hQ2
  have N2 := Fr.app N0 Nq2
  show Ends p.tables e below (T2.setTop (mkF m 9 #[.val (.ref a)] [(.int (0 : Int32)), (.int z)])) _
  refine s_ishr (pc' := 10) X2.here hx (hb hby own_d2_9) rfl ?_
  rw [own_sh0]
  obtain ⟨fs, hr, hrun, hended, hW, hsame⟩ := X2.leave (v := some (.int z)) (fun h => by rw [Bd.returns] at h; cases h)
  refine ⟨_, _, retOut X2 hx Bd.returns rfl (Or.inl ⟨rfl, Or.inl rfl, _, rfl⟩) (hb hby own_d2_10) hr, hrun, hended, _, _, rfl, ?_, ⟨_, rfl⟩, hW, hsame.mono (by decide) (by decide)⟩
  show own_rm2_Q Z a cs b k z vs h0 n0 _ T2.heap _
  rw [eh2]
  exact ⟨rfl, N2, rfl⟩
theorem own_d8_0 : decode jdk_41_method_11_code 0 = .ok (.iload_n 0, 1) := by decide +kernel
theorem own_d8_1 : decode jdk_41_method_11_code 1 = .ok (.ifCond .lt 8, 3) := by decide +kernel
theorem own_d8_4 : decode jdk_41_method_11_code 4 = .ok (.iload_n 0, 1) := by decide +kernel
theorem own_d8_5 : decode jdk_41_method_11_code 5 = .ok (.iload_n 1, 1) := by decide +kernel
theorem own_d8_6 : decode jdk_41_method_11_code 6 = .ok (.if_icmp .lt 10, 3) := by decide +kernel
theorem own_d8_16 : decode jdk_41_method_11_code 16 = .ok (.iload_n 0, 1) := by decide +kernel
theorem own_d8_17 : decode jdk_41_method_11_code 17 = .ok (.ireturn, 1) := by decide +kernel
theorem own_pn1 : plainName "jdk/internal/util/Preconditions" = true := by first | (simp [plainName, overriddenIn]; done) | decide +kernel
theorem own_rm8_ef (m : MethodId) (i : Int32) (z : Int32) (vf : Value) (r_vf : vf.isRef = true) : entryFrame m #[(.int i), (.int z), vf] 3 = mkF m 0 #[.val (.int i), .val (.int z), .val vf] [] := by cases vf <;> first | (simp [entryFrame, mkF, argsToLocals, Value.category]; done) | rfl | (simp [Value.isRef] at r_vf)
def own_rm8_Q (Z : State) (i : Int32) (z : Int32) (vf : Value) (h0 : Heap) (n0 : Nat) (v : Option Value) (h : Heap) (L : List Loc) : Prop := v = some (.int i) ∧ Fr n0 L ∧ h = h0
set_option maxRecDepth 65536 in
set_option maxHeartbeats 40000000 in
theorem own_rm8 (l : Launch) (Z : State) (a0 : Array Value) (hw : ∀ d ∈ tables_1, d.before a0 Z = true) (ws : List Jvm.Cond) (i : Int32) (z : Int32) (vf : Value) (h0 : Heap) (n0 : Nat) (Z0 : n0 ≤ h0.size) (r_vf : vf.isRef = true) (hi0 : ¬ i < (0 : Int32)) (hiz : i < z) :
    MetFree l (⟨"jdk/internal/util/Preconditions", "checkIndex", "(IILjava/util/function/BiFunction;)I"⟩ : MethodName) (head1 (Jvm.Cond.code (⟨"jdk/internal/util/Preconditions", "checkIndex", "(IILjava/util/function/BiFunction;)I"⟩ : MethodName) jdk_41_method_11_code 3 (some .int) :: ws) ({ frames := 0, cells := 0, slots := 0, locals := 0 } : Room)) (fun as_ U => as_ = #[(.int i), (.int z), vf] ∧ Z.Warmed39 U.vm ∧ U.heap = h0) (fun _ _ _ _ _ => True) (fun _ U_ o_ V_ => ∃ v_ L_, o_ = .returned v_ ∧ own_rm8_Q Z i z vf h0 n0 v_ V_.heap L_ ∧ FrameEnd U_ o_ V_ L_ ({ frames := 0, cells := 0, slots := 0, locals := 0 } : Room).cells ({ frames := 0, cells := 0, slots := 0, locals := 0 } : Room).slots) := by
  refine MetFree.of_bodySF (plainFor_of_name own_pn1) hisR ?_
  intro p e s m args below meth c s₁ Bd hml0 hP hK
  obtain ⟨rfl, hZ, hh⟩ := hP
  have hx := Bd.exec
  have hby := Bd.bytes
  have hml : c.maxLocals = 3 := hml0
  have hown : s.vm.findClass "jdk/internal/util/Preconditions" = some m.cls := findClass_of_methodNamed Bd.named
  have hnm := (name_of_methodNamed Bd.named Bd.method).1
  have X0 : Stand p l e ({ frames := 0, cells := 0, slots := 0, locals := 0 } : Room) s m #[(.int i), (.int z), vf] below meth c s₁ [] 0 0 := Stand.of_body Bd
  have e0 : s₁.heap = h0 := by rw [← hh, Bd.state]; rfl
  have N0 := Fr.nil n0
  refine own_begin (own_rm8_ef m i z vf r_vf) ?_
  show Ends p.tables e below (s₁.setTop (mkF m 0 #[.val (.int i), .val (.int z), .val vf] [])) _
  refine s_iloadN (pc' := 1) X0.here hx (hb hby own_d8_0) rfl rfl ?_
  have hk1 : ¬ (i < (0 : Int32)) := hi0
  refine s_ifNo (pc' := 4) X0.here hx (hb hby own_d8_1) ((if0 _ _).trans (flt hk1).1) rfl ?_
  refine s_iloadN (pc' := 5) X0.here hx (hb hby own_d8_4) rfl rfl ?_
  refine s_iloadN (pc' := 6) X0.here hx (hb hby own_d8_5) rfl rfl ?_
  have hk2 : i < z := hiz
  refine s_icmpYes (pc' := 16) X0.here hx (hb hby own_d8_6) (tlt hk2).1 (by decide) (by decide) ?_
  refine s_iloadN (pc' := 17) X0.here hx (hb hby own_d8_16) rfl rfl ?_
  obtain ⟨fs, hr, hrun, hended, hW, hsame⟩ := X0.leave (v := some (.int i)) (fun h => by rw [Bd.returns] at h; cases h)
  refine ⟨_, _, retOut X0 hx Bd.returns rfl (Or.inl ⟨rfl, Or.inl rfl, _, rfl⟩) (hb hby own_d8_17) hr, hrun, hended, _, _, rfl, ?_, ⟨_, rfl⟩, hW, hsame.mono (by decide) (by decide)⟩
  show own_rm8_Q Z i z vf h0 n0 _ s₁.heap _
  rw [e0]
  exact ⟨rfl, N0, rfl⟩
theorem own_d7_0 : decode jdk_42_method_155_code 0 = .ok (.iload_n 0, 1) := by decide +kernel
theorem own_d7_1 : decode jdk_42_method_155_code 1 = .ok (.iload_n 1, 1) := by decide +kernel
theorem own_d7_2 : decode jdk_42_method_155_code 2 = .ok (.getstatic 1053, 3) := by decide +kernel
theorem own_d7_5 : decode jdk_42_method_155_code 5 = .ok (.invokestatic 1059, 3) := by decide +kernel
theorem own_pd1 : parseMethodDescriptor "(IILjava/util/function/BiFunction;)I" = some ⟨[.int, .int, (.object "java/util/function/BiFunction")], some .int⟩ := by decide +kernel
theorem own_d7_8 : decode jdk_42_method_155_code 8 = .ok (.pop, 1) := by decide +kernel
theorem own_d7_9 : decode jdk_42_method_155_code 9 = .ok (.return_, 1) := by decide +kernel
theorem own_rm7_ef (m : MethodId) (i : Int32) (z : Int32) (vf : Value) : entryFrame m #[(.int i), (.int z)] 2 = mkF m 0 #[.val (.int i), .val (.int z)] [] := by first | (simp [entryFrame, mkF, argsToLocals, Value.category]; done) | rfl
def own_rm7_Q (Z : State) (i : Int32) (z : Int32) (vf : Value) (h0 : Heap) (n0 : Nat) (v : Option Value) (h : Heap) (L : List Loc) : Prop := v = none ∧ Fr n0 L ∧ h = h0
set_option maxRecDepth 65536 in
set_option maxHeartbeats 40000000 in
theorem own_rm7 (l : Launch) (Z : State) (a0 : Array Value) (hw : ∀ d ∈ tables_1, d.before a0 Z = true) (ws : List Jvm.Cond) (i : Int32) (z : Int32) (vf : Value) (h0 : Heap) (n0 : Nat) (Z0 : n0 ≤ h0.size) (O0 : Old Z n0 h0) (S_vf : Sta Z Z.heap "jdk/internal/util/Preconditions" "SIOOBE_FORMATTER" "Ljava/util/function/BiFunction;" vf) (r_vf : vf.isRef = true) (hi0 : ¬ i < (0 : Int32)) (hiz : i < z) :
    MetFree l (⟨"java/lang/String", "checkIndex", "(II)V"⟩ : MethodName) (head1 (Jvm.Cond.code (⟨"java/lang/String", "checkIndex", "(II)V"⟩ : MethodName) jdk_42_method_155_code 2 none :: ws) ({ frames := 1, cells := 0, slots := 0, locals := 14 } : Room)) (fun as_ U => as_ = #[(.int i), (.int z)] ∧ Z.Warmed39 U.vm ∧ U.heap = h0) (fun _ _ _ _ _ => True) (fun _ U_ o_ V_ => ∃ v_ L_, o_ = .returned v_ ∧ own_rm7_Q Z i z vf h0 n0 v_ V_.heap L_ ∧ FrameEnd U_ o_ V_ L_ ({ frames := 1, cells := 0, slots := 0, locals := 14 } : Room).cells ({ frames := 1, cells := 0, slots := 0, locals := 14 } : Room).slots) := by
  refine MetFree.of_bodySF (plainFor_of_name own_pn0) hisR ?_
  intro p e s m args below meth c s₁ Bd hml0 hP hK
  obtain ⟨rfl, hZ, hh⟩ := hP
  have hx := Bd.exec
  have hby := Bd.bytes
  have hml : c.maxLocals = 2 := hml0
  have hown : s.vm.findClass "java/lang/String" = some m.cls := findClass_of_methodNamed Bd.named
  have hnm := (name_of_methodNamed Bd.named Bd.method).1
  have X0 : Stand p l e ({ frames := 1, cells := 0, slots := 0, locals := 14 } : Room) s m #[(.int i), (.int z)] below meth c s₁ [] 0 0 := Stand.of_body Bd
  have e0 : s₁.heap = h0 := by rw [← hh, Bd.state]; rfl
  have N0 := Fr.nil n0
  refine own_begin (own_rm7_ef m i z vf) ?_
  show Ends p.tables e below (s₁.setTop (mkF m 0 #[.val (.int i), .val (.int z)] [])) _
  refine s_iloadN (pc' := 1) X0.here hx (hb hby own_d7_0) rfl rfl ?_
  refine s_iloadN (pc' := 2) X0.here hx (hb hby own_d7_1) rfl rfl ?_
  refine s_getS (pc' := 5) X0 hx hZ hown (host := "") (Or.inl (hw _ (List.mem_of_getElem? (i := 42) rfl))) Via.refl e0 (S_vf.ext O0.2) (hb hby own_d7_2) rfl fun T1 X1 e1 => ?_
  refine s_callS (pc' := 8) (W := 0) X1 hx hZ  hown (hw _ (List.mem_of_getElem? (i := 44) rfl)) (hw _ (List.mem_of_getElem? (i := 45) rfl)) (hw _ (List.mem_of_getElem? (i := 43) rfl)) (hw _ (List.mem_of_getElem? (i := 46) rfl)) (by decide) e1 (own_rm8 l Z a0 hw [] i z vf h0 n0 Z0 r_vf hi0 hiz) (by rw [hml]; rfl) [(.int i), (.int z), vf] [] rfl (lenOf own_pd1 rfl) rfl (Nat.le_of_eq rfl) (by decide) (by decide) (by decide) (by decide) rfl (hb hby own_d7_5) fun T2 v2 Lc2 X2 hQ2 => ?_
  obtain ⟨rfl, Nq2, eh2⟩ := hQ2
  have N2 := Fr.app N0 Nq2
  show Ends p.tables e below (T2.setTop (mkF m 8 #[.val (.int i), .val (.int z)] [(.int i)])) _
  refine s_pop (pc' := 9) X2.here hx (hb hby own_d7_8) rfl rfl ?_
  obtain ⟨fs, hr, hrun, hended, hW, hsame⟩ := X2.leave (v := none) (fun _ => rfl)
  refine ⟨_, _, X2.returnOut hx Bd.returns (hb hby own_d7_9) hr, hrun, hended, _, _, rfl, ?_, ⟨_, rfl⟩, hW, hsame.mono (by decide) (by decide)⟩
  show own_rm7_Q Z i z vf h0 n0 _ T2.heap _
  rw [eh2]
  exact ⟨rfl, N2, rfl⟩
theorem own_d6_0 : decode jdk_43_method_2_code 0 = .ok (.iload_n 1, 1) := by decide +kernel
theorem own_d6_1 : decode jdk_43_method_2_code 1 = .ok (.aload_n 0, 1) := by decide +kernel
theorem own_d6_2 : decode jdk_43_method_2_code 2 = .ok (.arraylength, 1) := by decide +kernel
theorem own_d6_3 : decode jdk_43_method_2_code 3 = .ok (.invokestatic 9, 3) := by decide +kernel
theorem own_pd2 : parseMethodDescriptor "(II)V" = some ⟨[.int, .int], none⟩ := by decide +kernel
theorem own_d6_6 : decode jdk_43_method_2_code 6 = .ok (.aload_n 0, 1) := by decide +kernel
theorem own_d6_7 : decode jdk_43_method_2_code 7 = .ok (.iload_n 1, 1) := by decide +kernel
theorem own_d6_8 : decode jdk_43_method_2_code 8 = .ok (.baload, 1) := by decide +kernel
theorem own_d6_9 : decode jdk_43_method_2_code 9 = .ok (.sipush 255, 3) := by decide +kernel
theorem own_d6_12 : decode jdk_43_method_2_code 12 = .ok (.iand, 1) := by decide +kernel
theorem own_d6_13 : decode jdk_43_method_2_code 13 = .ok (.i2c, 1) := by decide +kernel
theorem own_d6_14 : decode jdk_43_method_2_code 14 = .ok (.ireturn, 1) := by decide +kernel
theorem own_pn2 : plainName "java/lang/StringLatin1" = true := by first | (simp [plainName, overriddenIn]; done) | decide +kernel
theorem own_rm6_ef (m : MethodId) (b : Addr) (i : Int32) (k : ClassId) (z : Int32) (vs : List Value) (vf : Value) (x : Int32) : entryFrame m #[(.ref b), (.int i)] 2 = mkF m 0 #[.val (.ref b), .val (.int i)] [] := by first | (simp [entryFrame, mkF, argsToLocals, Value.category]; done) | rfl
def own_rm6_Q (Z : State) (b : Addr) (i : Int32) (k : ClassId) (z : Int32) (vs : List Value) (vf : Value) (x : Int32) (h0 : Heap) (n0 : Nat) (v : Option Value) (h : Heap) (L : List Loc) : Prop := v = some (.int (x &&& (255 : Int32))) ∧ Fr n0 L ∧ h = h0
set_option maxRecDepth 65536 in
set_option maxHeartbeats 40000000 in
theorem own_rm6 (l : Launch) (Z : State) (a0 : Array Value) (hw : ∀ d ∈ tables_1, d.before a0 Z = true) (ws : List Jvm.Cond) (b : Addr) (i : Int32) (k : ClassId) (z : Int32) (vs : List Value) (vf : Value) (x : Int32) (h0 : Heap) (n0 : Nat) (Z0 : n0 ≤ h0.size) (O0 : Old Z n0 h0) (S_vf : Sta Z Z.heap "jdk/internal/util/Preconditions" "SIOOBE_FORMATTER" "Ljava/util/function/BiFunction;" vf) (r_vf : vf.isRef = true) (V_b : Arv Z h0 b k .byte z vs (.int (0 : Int32))) (hi0 : ¬ i < (0 : Int32)) (hiz : i < z) (hvx : vs.getD i.toNatClampNeg (.int (0 : Int32)) = .int x) :
    MetFree l (⟨"java/lang/StringLatin1", "charAt", "([BI)C"⟩ : MethodName) (head1 (Jvm.Cond.code (⟨"java/lang/StringLatin1", "charAt", "([BI)C"⟩ : MethodName) jdk_43_method_2_code 2 (some .char) :: ws) ({ frames := 2, cells := 0, slots := 0, locals := 27 } : Room)) (fun as_ U => as_ = #[(.ref b), (.int i)] ∧ Z.Warmed39 U.vm ∧ U.heap = h0) (fun _ _ _ _ _ => True) (fun _ U_ o_ V_ => ∃ v_ L_, o_ = .returned v_ ∧ own_rm6_Q Z b i k z vs vf x h0 n0 v_ V_.heap L_ ∧ FrameEnd U_ o_ V_ L_ ({ frames := 2, cells := 0, slots := 0, locals := 27 } : Room).cells ({ frames := 2, cells := 0, slots := 0, locals := 27 } : Room).slots) := by
  refine MetFree.of_bodySF (plainFor_of_name own_pn2) hisR ?_
  intro p e s m args below meth c s₁ Bd hml0 hP hK
  obtain ⟨rfl, hZ, hh⟩ := hP
  have hx := Bd.exec
  have hby := Bd.bytes
  have hml : c.maxLocals = 2 := hml0
  have hown : s.vm.findClass "java/lang/StringLatin1" = some m.cls := findClass_of_methodNamed Bd.named
  have hnm := (name_of_methodNamed Bd.named Bd.method).1
  have X0 : Stand p l e ({ frames := 2, cells := 0, slots := 0, locals := 27 } : Room) s m #[(.ref b), (.int i)] below meth c s₁ [] 0 0 := Stand.of_body Bd
  have e0 : s₁.heap = h0 := by rw [← hh, Bd.state]; rfl
  have N0 := Fr.nil n0
  refine own_begin (own_rm6_ef m b i k z vs vf x) ?_
  show Ends p.tables e below (s₁.setTop (mkF m 0 #[.val (.ref b), .val (.int i)] [])) _
  refine s_iloadN (pc' := 1) X0.here hx (hb hby own_d6_0) rfl rfl ?_
  refine s_aloadN (pc' := 2) X0.here hx (hb hby own_d6_1) rfl rfl rfl ?_
  refine s_arraylength (pc' := 3) X0 hx hZ e0 V_b (hb hby own_d6_2) rfl ?_
  refine s_callS (pc' := 6) (W := 0) X0 hx hZ  hown (hw _ (List.mem_of_getElem? (i := 39) rfl)) (hw _ (List.mem_of_getElem? (i := 40) rfl)) (hw _ (List.mem_of_getElem? (i := 5) rfl)) (hw _ (List.mem_of_getElem? (i := 41) rfl)) (by decide) e0 (own_rm7 l Z a0 hw [] i z vf h0 n0 Z0 O0 S_vf r_vf hi0 hiz) (by rw [hml]; rfl) [(.int i), (.int z)] [] rfl (lenOf own_pd2 rfl) rfl (Nat.le_of_eq rfl) (by decide) (by decide) (by decide) (by decide) rfl (hb hby own_d6_3) fun T1 v1 Lc1 X1 hQ1 => ?_
  obtain ⟨rfl, Nq1, eh1⟩ := hQ1
  have N1 := Fr.app N0 Nq1
  show Ends p.tables e below (T1.setTop (mkF m 6 #[.val (.ref b), .val (.int i)] [])) _
  refine s_aloadN (pc' := 7) X1.here hx (hb hby own_d6_6) rfl rfl rfl ?_
  refine s_iloadN (pc' := 8) X1.here hx (hb hby own_d6_7) rfl rfl ?_
  refine s_baload (pc' := 9) (v := (.int x)) X1 hx hZ eh1 V_b ⟨hi0, hiz⟩ hvx (hb hby own_d6_8) rfl ?_
  refine s_sipush (pc' := 12) X1.here hx (v := (255 : Int32)) (hb hby own_d6_9) rfl rfl ?_
  refine s_iand (pc' := 13) X1.here hx (hb hby own_d6_12) rfl ?_
  refine s_i2c (pc' := 14) X1.here hx (hb hby own_d6_13) rfl ?_
  obtain ⟨fs, hr, hrun, hended, hW, hsame⟩ := X1.leave (v := some (.int (nar .char ((x &&& (255 : Int32)).toUInt32.toUInt16.toUInt32.toInt32)))) (fun h => by rw [Bd.returns] at h; cases h)
  refine ⟨_, _, retN X1 hx (t := .char) Bd.returns (by simp) (hb hby own_d6_14) hr, hrun, hended, _, _, rfl, ?_, ⟨_, rfl⟩, hW, hsame.mono (by decide) (by decide)⟩
  show own_rm6_Q Z b i k z vs vf x h0 n0 _ T1.heap _
  rw [eh1]
  exact ⟨by rw [own_ch], N1, rfl⟩
theorem own_d4_0 : decode jdk_42_method_56_code 0 = .ok (.aload_n 0, 1) := by decide +kernel
theorem own_d4_1 : decode jdk_42_method_56_code 1 = .ok (.invokevirtual 492, 3) := by decide +kernel
theorem own_pd3 : parseMethodDescriptor "()Z" = some ⟨[], some .boolean⟩ := by decide +kernel
theorem own_d4_4 : decode jdk_42_method_56_code 4 = .ok (.ifCond .eq 12, 3) := by decide +kernel
theorem own_d4_7 : decode jdk_42_method_56_code 7 = .ok (.aload_n 0, 1) := by decide +kernel
theorem own_d4_8 : decode jdk_42_method_56_code 8 = .ok (.getfield 9, 3) := by decide +kernel
theorem own_d4_11 : decode jdk_42_method_56_code 11 = .ok (.iload_n 1, 1) := by decide +kernel
theorem own_d4_12 : decode jdk_42_method_56_code 12 = .ok (.invokestatic 495, 3) := by decide +kernel
theorem own_pd4 : parseMethodDescriptor "([BI)C" = some ⟨[(.array .byte), .int], some .char⟩ := by decide +kernel
theorem own_d4_15 : decode jdk_42_method_56_code 15 = .ok (.ireturn, 1) := by decide +kernel
theorem own_rm4_ef (m : MethodId) (a : Addr) (i : Int32) (cs : Int32) (b : Addr) (k : ClassId) (z : Int32) (vs : List Value) (vf : Value) (x : Int32) : entryFrame m #[(.ref a), (.int i)] 2 = mkF m 0 #[.val (.ref a), .val (.int i)] [] := by first | (simp [entryFrame, mkF, argsToLocals, Value.category]; done) | rfl
def own_rm4_Q (Z : State) (a : Addr) (i : Int32) (cs : Int32) (b : Addr) (k : ClassId) (z : Int32) (vs : List Value) (vf : Value) (x : Int32) (h0 : Heap) (n0 : Nat) (v : Option Value) (h : Heap) (L : List Loc) : Prop := v = some (.int (x &&& (255 : Int32))) ∧ Fr n0 L ∧ h = h0
set_option maxRecDepth 65536 in
set_option maxHeartbeats 40000000 in
theorem own_rm4 (l : Launch) (Z : State) (a0 : Array Value) (hw : ∀ d ∈ tables_1, d.before a0 Z = true) (ws : List Jvm.Cond) (a : Addr) (i : Int32) (cs : Int32) (b : Addr) (k : ClassId) (z : Int32) (vs : List Value) (vf : Value) (x : Int32) (h0 : Heap) (n0 : Nat) (Z0 : n0 ≤ h0.size) (O0 : Old Z n0 h0) (S_cs : Sta Z Z.heap "java/lang/String" "COMPACT_STRINGS" "Z" (.int cs)) (hcs : ¬ cs = (0 : Int32)) (S_vf : Sta Z Z.heap "jdk/internal/util/Preconditions" "SIOOBE_FORMATTER" "Ljava/util/function/BiFunction;" vf) (r_vf : vf.isRef = true) (F_c : Fld Z h0 a "java/lang/String" "coder" "B" (.int (0 : Int32))) (F_v : Fld Z h0 a "java/lang/String" "value" "[B" (.ref b)) (E_a : Exa Z h0 a "java/lang/String") (V_b : Arv Z h0 b k .byte z vs (.int (0 : Int32))) (hi0 : ¬ i < (0 : Int32)) (hiz : i < z) (hvx : vs.getD i.toNatClampNeg (.int (0 : Int32)) = .int x) :
    MetFree l (⟨"java/lang/String", "charAt", "(I)C"⟩ : MethodName) (head1 (Jvm.Cond.code (⟨"java/lang/String", "charAt", "(I)C"⟩ : MethodName) jdk_42_method_56_code 2 (some .char) :: ws) ({ frames := 3, cells := 0, slots := 0, locals := 40 } : Room)) (fun as_ U => as_ = #[(.ref a), (.int i)] ∧ Z.Warmed39 U.vm ∧ U.heap = h0) (fun _ _ _ _ _ => True) (fun _ U_ o_ V_ => ∃ v_ L_, o_ = .returned v_ ∧ own_rm4_Q Z a i cs b k z vs vf x h0 n0 v_ V_.heap L_ ∧ FrameEnd U_ o_ V_ L_ ({ frames := 3, cells := 0, slots := 0, locals := 40 } : Room).cells ({ frames := 3, cells := 0, slots := 0, locals := 40 } : Room).slots) := by
  refine MetFree.of_bodySF (plainFor_of_name own_pn0) hisR ?_
  intro p e s m args below meth c s₁ Bd hml0 hP hK
  obtain ⟨rfl, hZ, hh⟩ := hP
  have hx := Bd.exec
  have hby := Bd.bytes
  have hml : c.maxLocals = 2 := hml0
  have hown : s.vm.findClass "java/lang/String" = some m.cls := findClass_of_methodNamed Bd.named
  have hnm := (name_of_methodNamed Bd.named Bd.method).1
  have X0 : Stand p l e ({ frames := 3, cells := 0, slots := 0, locals := 40 } : Room) s m #[(.ref a), (.int i)] below meth c s₁ [] 0 0 := Stand.of_body Bd
  have e0 : s₁.heap = h0 := by rw [← hh, Bd.state]; rfl
  have N0 := Fr.nil n0
  refine own_begin (own_rm4_ef m a i cs b k z vs vf x) ?_
  show Ends p.tables e below (s₁.setTop (mkF m 0 #[.val (.ref a), .val (.int i)] [])) _
  refine s_aloadN (pc' := 1) X0.here hx (hb hby own_d4_0) rfl rfl rfl ?_
  refine s_callV (pc' := 4) (W := 0) X0 hx hZ  hown (hw _ (List.mem_of_getElem? (i := 30) rfl)) (hw _ (List.mem_of_getElem? (i := 31) rfl)) (hw _ (List.mem_of_getElem? (i := 5) rfl)) (hw _ (List.mem_of_getElem? (i := 34) rfl)) (hw _ (List.mem_of_getElem? (i := 33) rfl)) (hw _ (List.mem_of_getElem? (i := 32) rfl)) (by decide) e0 E_a (own_rm5 l Z a0 hw [] a cs h0 n0 Z0 O0 S_cs hcs F_c) (by rw [hml]; rfl) [] [] rfl (lenOf own_pd3 rfl) rfl (Nat.le_of_eq rfl) (by decide) (by decide) (by decide) (by decide) rfl (hb hby own_d4_1) fun T1 v1 Lc1 X1 hQ1 => ?_
  obtain ⟨rfl, Nq1, eh1⟩ := hQ1
  have N1 := Fr.app N0 Nq1
  show Ends p.tables e below (T1.setTop (mkF m 4 #[.val (.ref a), .val (.int i)] [(.int (1 : Int32))])) _
  have hk2 : ¬ ((1 : Int32) = (0 : Int32)) := by decide
  refine s_ifNo (pc' := 7) X1.here hx (hb hby own_d4_4) ((if0 _ _).trans (feq hk2).1) rfl ?_
  refine s_aloadN (pc' := 8) X1.here hx (hb hby own_d4_7) rfl rfl rfl ?_
  refine s_getF (pc' := 11) X1 hx hZ hown (host := "") (Or.inl (hw _ (List.mem_of_getElem? (i := 17) rfl))) Via.refl eh1 F_v (hb hby own_d4_8) rfl fun T3 X3 e3 => ?_
  refine s_iloadN (pc' := 12) X3.here hx (hb hby own_d4_11) rfl rfl ?_
  refine s_callS (pc' := 15) (W := 0) X3 hx hZ  hown (hw _ (List.mem_of_getElem? (i := 35) rfl)) (hw _ (List.mem_of_getElem? (i := 36) rfl)) (hw _ (List.mem_of_getElem? (i := 37) rfl)) (hw _ (List.mem_of_getElem? (i := 38) rfl)) (by decide) e3 (own_rm6 l Z a0 hw [] b i k z vs vf x h0 n0 Z0 O0 S_vf r_vf V_b hi0 hiz hvx) (by rw [hml]; rfl) [(.ref b), (.int i)] [] rfl (lenOf own_pd4 rfl) rfl (Nat.le_of_eq rfl) (by decide) (by decide) (by decide) (by decide) rfl (hb hby own_d4_12) fun T4 v4 Lc4 X4 hQ4 => ?_
  obtain ⟨rfl, Nq4, eh4⟩ := hQ4
  have N4 := Fr.app N1 Nq4
  show Ends p.tables e below (T4.setTop (mkF m 15 #[.val (.ref a), .val (.int i)] [(.int (x &&& (255 : Int32)))])) _
  obtain ⟨fs, hr, hrun, hended, hW, hsame⟩ := X4.leave (v := some (.int (nar .char (x &&& (255 : Int32))))) (fun h => by rw [Bd.returns] at h; cases h)
  refine ⟨_, _, retN X4 hx (t := .char) Bd.returns (by simp) (hb hby own_d4_15) hr, hrun, hended, _, _, rfl, ?_, ⟨_, rfl⟩, hW, hsame.mono (by decide) (by decide)⟩
  show own_rm4_Q Z a i cs b k z vs vf x h0 n0 _ T4.heap _
  rw [eh4]
  exact ⟨by rw [show nar .char (x &&& (255 : Int32)) = x &&& (255 : Int32) from i2c_mask x], N4, rfl⟩
theorem own_d1_0 : decode prog_17_method_3_code 0 = .ok (.iload_n 0, 1) := by decide +kernel
theorem own_d1_1 : decode prog_17_method_3_code 1 = .ok (.tableswitch 44 9 13 #[35, 38, 44, 44, 41], 35) := by decide +kernel
theorem own_d1_36 : decode prog_17_method_3_code 36 = .ok (.ldc 55, 2) := by decide +kernel
theorem own_d1_38 : decode prog_17_method_3_code 38 = .ok (.areturn, 1) := by decide +kernel
theorem own_pn3 : plainName "com/example/lacuna/lacuna/engine/Messages" = true := by first | (simp [plainName, overriddenIn]; done) | decide +kernel
theorem own_esc9_ef (m : MethodId) (c0 : Int32) : entryFrame m #[(.int c0)] 1 = mkF m 0 #[.val (.int c0)] [] := by first | (simp [entryFrame, mkF, argsToLocals, Value.category]; done) | rfl
def own_esc9_Q (Z : State) (c0 : Int32) (h0 : Heap) (n0 : Nat) (v : Option Value) (h : Heap) (L : List Loc) : Prop := ∃ a b kb, v = some (.ref a) ∧ Fr n0 L ∧ Keep h0 h [] ∧ Exa Z h a "java/lang/String" ∧ Fld Z h a "java/lang/String" "coder" "B" (.int (0 : Int32)) ∧ Fld Z h a "java/lang/String" "value" "[B" (.ref b) ∧ Arv Z h b kb .byte (2 : Int32) [(.int (92 : Int32)), (.int (116 : Int32))] (.int (0 : Int32))
set_option maxRecDepth 65536 in
set_option maxHeartbeats 40000000 in
theorem own_esc9 (l : Launch) (Z : State) (a0 : Array Value) (hw : ∀ d ∈ tables_1, d.before a0 Z = true) (ws : List Jvm.Cond) (c0 : Int32) (h0 : Heap) (n0 : Nat) (Z0 : n0 ≤ h0.size) (hc0 : c0 = (9 : Int32)) :
    MetFree l (⟨"com/example/lacuna/lacuna/engine/Messages", "shortEscape", "(C)Ljava/lang/String;"⟩ : MethodName) (head1 (Jvm.Cond.code (⟨"com/example/lacuna/lacuna/engine/Messages", "shortEscape", "(C)Ljava/lang/String;"⟩ : MethodName) prog_17_method_3_code 1 (some (.object "java/lang/String")) :: ws) ({ frames := 0, cells := 2, slots := 12, locals := 0 } : Room)) (fun as_ U => as_ = #[(.int c0)] ∧ Z.Warmed39 U.vm ∧ U.heap = h0 ∧ CHv Z consts_1 U.vm h0 ∧ ∀ x_ ∈ ([] : List Addr), Safe Z consts_1 U.vm h0 x_) (fun _ _ _ _ _ => True) (fun _ U_ o_ V_ => ∃ v_ L_, o_ = .returned v_ ∧ own_esc9_Q Z c0 h0 n0 v_ V_.heap L_ ∧ CHr Z consts_1 U_.vm U_.heap V_.vm V_.heap ∧ ReturnedEndW U_ o_ V_ L_ ({ frames := 0, cells := 2, slots := 12, locals := 0 } : Room).cells ({ frames := 0, cells := 2, slots := 12, locals := 0 } : Room).slots) := by
  refine MetFree.of_bodySF (plainFor_of_name own_pn3) hisR ?_
  intro p e s m args below meth c s₁ Bd hml0 hP hK
  obtain ⟨rfl, hZ, hh, HC0, hsf0⟩ := hP
  have hx := Bd.exec
  have hby := Bd.bytes
  have hml : c.maxLocals = 1 := hml0
  have hown : s.vm.findClass "com/example/lacuna/lacuna/engine/Messages" = some m.cls := findClass_of_methodNamed Bd.named
  have hnm := (name_of_methodNamed Bd.named Bd.method).1
  have X0 : Stand p l e ({ frames := 0, cells := 2, slots := 12, locals := 0 } : Room) s m #[(.int c0)] below meth c s₁ [] 0 0 := Stand.of_body Bd
  have e0 : s₁.heap = h0 := by rw [← hh, Bd.state]; rfl
  have N0 := Fr.nil n0
  refine own_begin (own_esc9_ef m c0) ?_
  show Ends p.tables e below (s₁.setTop (mkF m 0 #[.val (.int c0)] [])) _
  have Kr0 : Keep h0 h0 [] := Keep.refl h0 _
  have HR0 : CHr Z consts_1 s.vm h0 s.vm h0 := CHr.refl HC0
  have X0w : Stand p l e ({ frames := 0, cells := 2, slots := 12, locals := 0 } : Room) (s.setVm s.vm) m #[(.int c0)] below meth c s₁ [] 0 0 := X0
  have hS : s.Since s.vm 0 := (State.WarmedH.refl s).since 0
  have hk : 0 ≤ h0.size := Nat.zero_le _
  subst hc0
  refine s_iloadN (pc' := 1) X0w.here hx (hb hby own_d1_0) rfl rfl ?_
  refine s_tswIn (pc' := 36) X0w.here hx (hb hby own_d1_1) (by decide) rfl (by decide) (by decide) ?_
  refine s_ldcCH (pc' := 38) (n := 8) (z := (2 : Int32)) (vs := [(.int (92 : Int32)), (.int (116 : Int32))]) X0w hx hZ hS hk (own_EW hw) HC0 hown (hw _ (List.mem_of_getElem? (i := 47) rfl)) (own_wS hw) e0 (List.mem_of_getElem? (i := 0) rfl) ⟨by decide, by decide⟩ (by decide) rfl (hb hby own_d1_36) (by decide) (by decide) (by decide) (by decide) rfl fun sa sb kb1 T1 hp1 kx1 X1 e1 E1 hS hk' hZ hown hr1 Ex1 Fc1 Fv1 Vb1 hne1 => ?_
  have HR2 := CHr.trans HR0 (hr1)
  have HC3 := hr1.1
  have Z4 : n0 ≤ hp1.size := Nat.le_trans Z0 E1.1
  have K5 : Keep h0 hp1 [] := Kr0.ext E1
  replace hk := hk'
  obtain ⟨fs, hr, hrun, hended, hRW⟩ := X1.leaveW hS (show _ ≤ T1.heap.size from by rw [e1]; exact hk) (v := some (.ref sa)) (fun h => by rw [Bd.returns] at h; cases h)
  have hfin : CHr Z consts_1 s.vm s.heap T1.vm T1.heap := by rw [hh, e1]; exact CHr.trans HR2 (CHv.at X1 hZ (own_EW hw) HC3)
  refine ⟨_, _, retOut X1 hx Bd.returns rfl (Or.inr (Or.inr (Or.inr (Or.inr ⟨rfl, rfl, rfl⟩)))) (hb hby own_d1_38) hr, hrun, hended, _, _, rfl, ?_, hfin, own_rwm hRW (by decide) (by decide)⟩
  show own_esc9_Q Z (9 : Int32) h0 n0 _ T1.heap _
  rw [e1]
  exact ⟨sa, sb, kb1, rfl, N0, K5, Ex1, Fc1, Fv1, Vb1⟩
theorem own_d1_39 : decode prog_17_method_3_code 39 = .ok (.ldc 57, 2) := by decide +kernel
theorem own_d1_41 : decode prog_17_method_3_code 41 = .ok (.areturn, 1) := by decide +kernel
theorem own_esc10_ef (m : MethodId) (c0 : Int32) : entryFrame m #[(.int c0)] 1 = mkF m 0 #[.val (.int c0)] [] := by first | (simp [entryFrame, mkF, argsToLocals, Value.category]; done) | rfl
def own_esc10_Q (Z : State) (c0 : Int32) (h0 : Heap) (n0 : Nat) (v : Option Value) (h : Heap) (L : List Loc) : Prop := ∃ a b kb, v = some (.ref a) ∧ Fr n0 L ∧ Keep h0 h [] ∧ Exa Z h a "java/lang/String" ∧ Fld Z h a "java/lang/String" "coder" "B" (.int (0 : Int32)) ∧ Fld Z h a "java/lang/String" "value" "[B" (.ref b) ∧ Arv Z h b kb .byte (2 : Int32) [(.int (92 : Int32)), (.int (110 : Int32))] (.int (0 : Int32))
set_option maxRecDepth 65536 in
set_option maxHeartbeats 40000000 in
theorem own_esc10 (l : Launch) (Z : State) (a0 : Array Value) (hw : ∀ d ∈ tables_1, d.before a0 Z = true) (ws : List Jvm.Cond) (c0 : Int32) (h0 : Heap) (n0 : Nat) (Z0 : n0 ≤ h0.size) (hc0 : c0 = (10 : Int32)) :
    MetFree l (⟨"com/example/lacuna/lacuna/engine/Messages", "shortEscape", "(C)Ljava/lang/String;"⟩ : MethodName) (head1 (Jvm.Cond.code (⟨"com/example/lacuna/lacuna/engine/Messages", "shortEscape", "(C)Ljava/lang/String;"⟩ : MethodName) prog_17_method_3_code 1 (some (.object "java/lang/String")) :: ws) ({ frames := 0, cells := 2, slots := 12, locals := 0 } : Room)) (fun as_ U => as_ = #[(.int c0)] ∧ Z.Warmed39 U.vm ∧ U.heap = h0 ∧ CHv Z consts_1 U.vm h0 ∧ ∀ x_ ∈ ([] : List Addr), Safe Z consts_1 U.vm h0 x_) (fun _ _ _ _ _ => True) (fun _ U_ o_ V_ => ∃ v_ L_, o_ = .returned v_ ∧ own_esc10_Q Z c0 h0 n0 v_ V_.heap L_ ∧ CHr Z consts_1 U_.vm U_.heap V_.vm V_.heap ∧ ReturnedEndW U_ o_ V_ L_ ({ frames := 0, cells := 2, slots := 12, locals := 0 } : Room).cells ({ frames := 0, cells := 2, slots := 12, locals := 0 } : Room).slots) := by
  refine MetFree.of_bodySF (plainFor_of_name own_pn3) hisR ?_
  intro p e s m args below meth c s₁ Bd hml0 hP hK
  obtain ⟨rfl, hZ, hh, HC0, hsf0⟩ := hP
  have hx := Bd.exec
  have hby := Bd.bytes
  have hml : c.maxLocals = 1 := hml0
  have hown : s.vm.findClass "com/example/lacuna/lacuna/engine/Messages" = some m.cls := findClass_of_methodNamed Bd.named
  have hnm := (name_of_methodNamed Bd.named Bd.method).1
  have X0 : Stand p l e ({ frames := 0, cells := 2, slots := 12, locals := 0 } : Room) s m #[(.int c0)] below meth c s₁ [] 0 0 := Stand.of_body Bd
  have e0 : s₁.heap = h0 := by rw [← hh, Bd.state]; rfl
  have N0 := Fr.nil n0
  refine own_begin (own_esc10_ef m c0) ?_
  show Ends p.tables e below (s₁.setTop (mkF m 0 #[.val (.int c0)] [])) _
  have Kr0 : Keep h0 h0 [] := Keep.refl h0 _
  have HR0 : CHr Z consts_1 s.vm h0 s.vm h0 := CHr.refl HC0
  have X0w : Stand p l e ({ frames := 0, cells := 2, slots := 12, locals := 0 } : Room) (s.setVm s.vm) m #[(.int c0)] below meth c s₁ [] 0 0 := X0
  have hS : s.Since s.vm 0 := (State.WarmedH.refl s).since 0
  have hk : 0 ≤ h0.size := Nat.zero_le _
  subst hc0
  refine s_iloadN (pc' := 1) X0w.here hx (hb hby own_d1_0) rfl rfl ?_
  refine s_tswIn (pc' := 39) X0w.here hx (hb hby own_d1_1) (by decide) rfl (by decide) (by decide) ?_
  refine s_ldcCH (pc' := 41) (n := 8) (z := (2 : Int32)) (vs := [(.int (92 : Int32)), (.int (110 : Int32))]) X0w hx hZ hS hk (own_EW hw) HC0 hown (hw _ (List.mem_of_getElem? (i := 4) rfl)) (own_wS hw) e0 (List.mem_of_getElem? (i := 1) rfl) ⟨by decide, by decide⟩ (by decide) rfl (hb hby own_d1_39) (by decide) (by decide) (by decide) (by decide) rfl fun sa sb kb1 T1 hp1 kx1 X1 e1 E1 hS hk' hZ hown hr1 Ex1 Fc1 Fv1 Vb1 hne1 => ?_
  have HR2 := CHr.trans HR0 (hr1)
  have HC3 := hr1.1
  have Z4 : n0 ≤ hp1.size := Nat.le_trans Z0 E1.1
  have K5 : Keep h0 hp1 [] := Kr0.ext E1
  replace hk := hk'
  obtain ⟨fs, hr, hrun, hended, hRW⟩ := X1.leaveW hS (show _ ≤ T1.heap.size from by rw [e1]; exact hk) (v := some (.ref sa)) (fun h => by rw [Bd.returns] at h; cases h)
  have hfin : CHr Z consts_1 s.vm s.heap T1.vm T1.heap := by rw [hh, e1]; exact CHr.trans HR2 (CHv.at X1 hZ (own_EW hw) HC3)
  refine ⟨_, _, retOut X1 hx Bd.returns rfl (Or.inr (Or.inr (Or.inr (Or.inr ⟨rfl, rfl, rfl⟩)))) (hb hby own_d1_41) hr, hrun, hended, _, _, rfl, ?_, hfin, own_rwm hRW (by decide) (by decide)⟩
  show own_esc10_Q Z (10 : Int32) h0 n0 _ T1.heap _
  rw [e1]
  exact ⟨sa, sb, kb1, rfl, N0, K5, Ex1, Fc1, Fv1, Vb1⟩
theorem own_d1_42 : decode prog_17_method_3_code 42 = .ok (.ldc 59, 2) := by decide +kernel
theorem own_d1_44 : decode prog_17_method_3_code 44 = .ok (.areturn, 1) := by decide +kernel
theorem own_esc13_ef (m : MethodId) (c0 : Int32) : entryFrame m #[(.int c0)] 1 = mkF m 0 #[.val (.int c0)] [] := by first | (simp [entryFrame, mkF, argsToLocals, Value.category]; done) | rfl
def own_esc13_Q (Z : State) (c0 : Int32) (h0 : Heap) (n0 : Nat) (v : Option Value) (h : Heap) (L : List Loc) : Prop := ∃ a b kb, v = some (.ref a) ∧ Fr n0 L ∧ Keep h0 h [] ∧ Exa Z h a "java/lang/String" ∧ Fld Z h a "java/lang/String" "coder" "B" (.int (0 : Int32)) ∧ Fld Z h a "java/lang/String" "value" "[B" (.ref b) ∧ Arv Z h b kb .byte (2 : Int32) [(.int (92 : Int32)), (.int (114 : Int32))] (.int (0 : Int32))
set_option maxRecDepth 65536 in
set_option maxHeartbeats 40000000 in
theorem own_esc13 (l : Launch) (Z : State) (a0 : Array Value) (hw : ∀ d ∈ tables_1, d.before a0 Z = true) (ws : List Jvm.Cond) (c0 : Int32) (h0 : Heap) (n0 : Nat) (Z0 : n0 ≤ h0.size) (hc0 : c0 = (13 : Int32)) :
    MetFree l (⟨"com/example/lacuna/lacuna/engine/Messages", "shortEscape", "(C)Ljava/lang/String;"⟩ : MethodName) (head1 (Jvm.Cond.code (⟨"com/example/lacuna/lacuna/engine/Messages", "shortEscape", "(C)Ljava/lang/String;"⟩ : MethodName) prog_17_method_3_code 1 (some (.object "java/lang/String")) :: ws) ({ frames := 0, cells := 2, slots := 12, locals := 0 } : Room)) (fun as_ U => as_ = #[(.int c0)] ∧ Z.Warmed39 U.vm ∧ U.heap = h0 ∧ CHv Z consts_1 U.vm h0 ∧ ∀ x_ ∈ ([] : List Addr), Safe Z consts_1 U.vm h0 x_) (fun _ _ _ _ _ => True) (fun _ U_ o_ V_ => ∃ v_ L_, o_ = .returned v_ ∧ own_esc13_Q Z c0 h0 n0 v_ V_.heap L_ ∧ CHr Z consts_1 U_.vm U_.heap V_.vm V_.heap ∧ ReturnedEndW U_ o_ V_ L_ ({ frames := 0, cells := 2, slots := 12, locals := 0 } : Room).cells ({ frames := 0, cells := 2, slots := 12, locals := 0 } : Room).slots) := by
  refine MetFree.of_bodySF (plainFor_of_name own_pn3) hisR ?_
  intro p e s m args below meth c s₁ Bd hml0 hP hK
  obtain ⟨rfl, hZ, hh, HC0, hsf0⟩ := hP
  have hx := Bd.exec
  have hby := Bd.bytes
  have hml : c.maxLocals = 1 := hml0
  have hown : s.vm.findClass "com/example/lacuna/lacuna/engine/Messages" = some m.cls := findClass_of_methodNamed Bd.named
  have hnm := (name_of_methodNamed Bd.named Bd.method).1
  have X0 : Stand p l e ({ frames := 0, cells := 2, slots := 12, locals := 0 } : Room) s m #[(.int c0)] below meth c s₁ [] 0 0 := Stand.of_body Bd
  have e0 : s₁.heap = h0 := by rw [← hh, Bd.state]; rfl
  have N0 := Fr.nil n0
  refine own_begin (own_esc13_ef m c0) ?_
  show Ends p.tables e below (s₁.setTop (mkF m 0 #[.val (.int c0)] [])) _
  have Kr0 : Keep h0 h0 [] := Keep.refl h0 _
  have HR0 : CHr Z consts_1 s.vm h0 s.vm h0 := CHr.refl HC0
  have X0w : Stand p l e ({ frames := 0, cells := 2, slots := 12, locals := 0 } : Room) (s.setVm s.vm) m #[(.int c0)] below meth c s₁ [] 0 0 := X0
  have hS : s.Since s.vm 0 := (State.WarmedH.refl s).since 0
  have hk : 0 ≤ h0.size := Nat.zero_le _
  subst hc0
  refine s_iloadN (pc' := 1) X0w.here hx (hb hby own_d1_0) rfl rfl ?_
  refine s_tswIn (pc' := 42) X0w.here hx (hb hby own_d1_1) (by decide) rfl (by decide) (by decide) ?_
  refine s_ldcCH (pc' := 44) (n := 8) (z := (2 : Int32)) (vs := [(.int (92 : Int32)), (.int (114 : Int32))]) X0w hx hZ hS hk (own_EW hw) HC0 hown (hw _ (List.mem_of_getElem? (i := 48) rfl)) (own_wS hw) e0 (List.mem_of_getElem? (i := 2) rfl) ⟨by decide, by decide⟩ (by decide) rfl (hb hby own_d1_42) (by decide) (by decide) (by decide) (by decide) rfl fun sa sb kb1 T1 hp1 kx1 X1 e1 E1 hS hk' hZ hown hr1 Ex1 Fc1 Fv1 Vb1 hne1 => ?_
  have HR2 := CHr.trans HR0 (hr1)
  have HC3 := hr1.1
  have Z4 : n0 ≤ hp1.size := Nat.le_trans Z0 E1.1
  have K5 : Keep h0 hp1 [] := Kr0.ext E1
  replace hk := hk'
  obtain ⟨fs, hr, hrun, hended, hRW⟩ := X1.leaveW hS (show _ ≤ T1.heap.size from by rw [e1]; exact hk) (v := some (.ref sa)) (fun h => by rw [Bd.returns] at h; cases h)
  have hfin : CHr Z consts_1 s.vm s.heap T1.vm T1.heap := by rw [hh, e1]; exact CHr.trans HR2 (CHv.at X1 hZ (own_EW hw) HC3)
  refine ⟨_, _, retOut X1 hx Bd.returns rfl (Or.inr (Or.inr (Or.inr (Or.inr ⟨rfl, rfl, rfl⟩)))) (hb hby own_d1_44) hr, hrun, hended, _, _, rfl, ?_, hfin, own_rwm hRW (by decide) (by decide)⟩
  show own_esc13_Q Z (13 : Int32) h0 n0 _ T1.heap _
  rw [e1]
  exact ⟨sa, sb, kb1, rfl, N0, K5, Ex1, Fc1, Fv1, Vb1⟩
theorem own_d1_45 : decode prog_17_method_3_code 45 = .ok (.aconst_null, 1) := by decide +kernel
theorem own_d1_46 : decode prog_17_method_3_code 46 = .ok (.areturn, 1) := by decide +kernel
theorem own_escN_ef (m : MethodId) (c0 : Int32) : entryFrame m #[(.int c0)] 1 = mkF m 0 #[.val (.int c0)] [] := by first | (simp [entryFrame, mkF, argsToLocals, Value.category]; done) | rfl
def own_escN_Q (Z : State) (c0 : Int32) (h0 : Heap) (n0 : Nat) (v : Option Value) (h : Heap) (L : List Loc) : Prop := v = some .null ∧ Fr n0 L ∧ Keep h0 h []
set_option maxRecDepth 65536 in
set_option maxHeartbeats 40000000 in
theorem own_escN (l : Launch) (Z : State) (a0 : Array Value) (hw : ∀ d ∈ tables_1, d.before a0 Z = true) (ws : List Jvm.Cond) (c0 : Int32) (h0 : Heap) (n0 : Nat) (Z0 : n0 ≤ h0.size) (h9 : ¬ c0 = (9 : Int32)) (h10 : ¬ c0 = (10 : Int32)) (h13 : ¬ c0 = (13 : Int32)) :
    MetFree l (⟨"com/example/lacuna/lacuna/engine/Messages", "shortEscape", "(C)Ljava/lang/String;"⟩ : MethodName) (head1 (Jvm.Cond.code (⟨"com/example/lacuna/lacuna/engine/Messages", "shortEscape", "(C)Ljava/lang/String;"⟩ : MethodName) prog_17_method_3_code 1 (some (.object "java/lang/String")) :: ws) ({ frames := 0, cells := 0, slots := 0, locals := 0 } : Room)) (fun as_ U => as_ = #[(.int c0)] ∧ Z.Warmed39 U.vm ∧ U.heap = h0 ∧ CHv Z consts_1 U.vm h0 ∧ ∀ x_ ∈ ([] : List Addr), Safe Z consts_1 U.vm h0 x_) (fun _ _ _ _ _ => True) (fun _ U_ o_ V_ => ∃ v_ L_, o_ = .returned v_ ∧ own_escN_Q Z c0 h0 n0 v_ V_.heap L_ ∧ CHr Z consts_1 U_.vm U_.heap V_.vm V_.heap ∧ ReturnedEndW U_ o_ V_ L_ ({ frames := 0, cells := 0, slots := 0, locals := 0 } : Room).cells ({ frames := 0, cells := 0, slots := 0, locals := 0 } : Room).slots) := by
  refine MetFree.of_bodySF (plainFor_of_name own_pn3) hisR ?_
  intro p e s m args below meth c s₁ Bd hml0 hP hK
  obtain ⟨rfl, hZ, hh, HC0, hsf0⟩ := hP
  have hx := Bd.exec
  have hby := Bd.bytes
  have hml : c.maxLocals = 1 := hml0
  have hown : s.vm.findClass "com/example/lacuna/lacuna/engine/Messages" = some m.cls := findClass_of_methodNamed Bd.named
  have hnm := (name_of_methodNamed Bd.named Bd.method).1
  have X0 : Stand p l e ({ frames := 0, cells := 0, slots := 0, locals := 0 } : Room) s m #[(.int c0)] below meth c s₁ [] 0 0 := Stand.of_body Bd
  have e0 : s₁.heap = h0 := by rw [← hh, Bd.state]; rfl
  have N0 := Fr.nil n0
  refine own_begin (own_escN_ef m c0) ?_
  show Ends p.tables e below (s₁.setTop (mkF m 0 #[.val (.int c0)] [])) _
  have Kr0 : Keep h0 h0 [] := Keep.refl h0 _
  have HR0 : CHr Z consts_1 s.vm h0 s.vm h0 := CHr.refl HC0
  have X0w : Stand p l e ({ frames := 0, cells := 0, slots := 0, locals := 0 } : Room) (s.setVm s.vm) m #[(.int c0)] below meth c s₁ [] 0 0 := X0
  have hS : s.Since s.vm 0 := (State.WarmedH.refl s).since 0
  have hk : 0 ≤ h0.size := Nat.zero_le _
  refine s_iloadN (pc' := 1) X0w.here hx (hb hby own_d1_0) rfl rfl ?_
  by_cases hout : c0.toInt < 9 ∨ c0.toInt > 13
  · refine s_tswOut (pc' := 45) X0w.here hx (hb hby own_d1_1) hout (by decide) (by decide) ?_
    refine s_aconstNull (pc' := 46) X0w.here hx (hb hby own_d1_45) rfl ?_
    obtain ⟨fs, hr, hrun, hended, hRW⟩ := X0w.leaveW hS (show _ ≤ s₁.heap.size from by rw [e0]; exact hk) (v := some .null) (fun h => by rw [Bd.returns] at h; cases h)
    have hfin : CHr Z consts_1 s.vm s.heap s₁.vm s₁.heap := by rw [hh, e0]; exact CHr.trans HR0 (CHv.at X0w hZ (own_EW hw) HC0)
    refine ⟨_, _, retOut X0w hx Bd.returns rfl (Or.inr (Or.inr (Or.inr (Or.inr ⟨rfl, rfl, rfl⟩)))) (hb hby own_d1_46) hr, hrun, hended, _, _, rfl, ?_, hfin, own_rwm hRW (by decide) (by decide)⟩
    show own_escN_Q Z c0 h0 n0 _ s₁.heap _
    rw [e0]
    exact ⟨rfl, N0, Kr0⟩
  · have h1112 : c0 = 11 ∨ c0 = 12 := by
      have e9 : (9 : Int32).toInt = 9 := by decide
      have e10 : (10 : Int32).toInt = 10 := by decide
      have e11 : (11 : Int32).toInt = 11 := by decide
      have e12 : (12 : Int32).toInt = 12 := by decide
      have e13 : (13 : Int32).toInt = 13 := by decide
      rw [← Int32.toInt_inj] at h9 h10 h13
      rw [← Int32.toInt_inj, ← Int32.toInt_inj]
      omega
    rcases h1112 with hq_ | hq_
    · subst hq_
      refine s_tswIn (pc' := 45) X0w.here hx (hb hby own_d1_1) (by decide) rfl (by decide) (by decide) ?_
      refine s_aconstNull (pc' := 46) X0w.here hx (hb hby own_d1_45) rfl ?_
      obtain ⟨fs, hr, hrun, hended, hRW⟩ := X0w.leaveW hS (show _ ≤ s₁.heap.size from by rw [e0]; exact hk) (v := some .null) (fun h => by rw [Bd.returns] at h; cases h)
      have hfin : CHr Z consts_1 s.vm s.heap s₁.vm s₁.heap := by rw [hh, e0]; exact CHr.trans HR0 (CHv.at X0w hZ (own_EW hw) HC0)
      refine ⟨_, _, retOut X0w hx Bd.returns rfl (Or.inr (Or.inr (Or.inr (Or.inr ⟨rfl, rfl, rfl⟩)))) (hb hby own_d1_46) hr, hrun, hended, _, _, rfl, ?_, hfin, own_rwm hRW (by decide) (by decide)⟩
      show own_escN_Q Z (11 : Int32) h0 n0 _ s₁.heap _
      rw [e0]
      exact ⟨rfl, N0, Kr0⟩
    · subst hq_
      refine s_tswIn (pc' := 45) X0w.here hx (hb hby own_d1_1) (by decide) rfl (by decide) (by decide) ?_
      refine s_aconstNull (pc' := 46) X0w.here hx (hb hby own_d1_45) rfl ?_
      obtain ⟨fs, hr, hrun, hended, hRW⟩ := X0w.leaveW hS (show _ ≤ s₁.heap.size from by rw [e0]; exact hk) (v := some .null) (fun h => by rw [Bd.returns] at h; cases h)
      have hfin : CHr Z consts_1 s.vm s.heap s₁.vm s₁.heap := by rw [hh, e0]; exact CHr.trans HR0 (CHv.at X0w hZ (own_EW hw) HC0)
      refine ⟨_, _, retOut X0w hx Bd.returns rfl (Or.inr (Or.inr (Or.inr (Or.inr ⟨rfl, rfl, rfl⟩)))) (hb hby own_d1_46) hr, hrun, hended, _, _, rfl, ?_, hfin, own_rwm hRW (by decide) (by decide)⟩
      show own_escN_Q Z (12 : Int32) h0 n0 _ s₁.heap _
      rw [e0]
      exact ⟨rfl, N0, Kr0⟩
theorem own_pd5 : parseMethodDescriptor "(C)Ljava/lang/String;" = some ⟨[.char], some (.object "java/lang/String")⟩ := by decide +kernel
theorem own_pd6 : parseMethodDescriptor "()I" = some ⟨[], some .int⟩ := by decide +kernel
theorem own_pd7 : parseMethodDescriptor "(I)C" = some ⟨[.int], some .char⟩ := by decide +kernel
theorem own_pn4 : plainName "com/example/lacuna/lacuna/engine/MessagesShortEscapePinLaw" = true := by first | (simp [plainName, overriddenIn]; done) | decide +kernel
theorem own_rm0_ef (m : MethodId) (p1 : Int32) (p2 : Int32) (cs : Int32) (vf : Value) : entryFrame m #[(.int p1), (.int p2)] maxLocals = mkF m 0 #[.val (.int p1), .val (.int p2), .unset, .unset, .unset, .unset, .unset] [] := by first | (simp [entryFrame, mkF, argsToLocals, Value.category, maxLocals]; done) | rfl
def own_rm0_Q (Z : State) (p1 : Int32) (p2 : Int32) (cs : Int32) (vf : Value) (h0 : Heap) (n0 : Nat) (v : Option Value) (h : Heap) (L : List Loc) : Prop := v = some (.int 1) ∧ Fr n0 L
set_option maxRecDepth 65536 in
set_option maxHeartbeats 40000000 in
theorem own_rm0 (l : Launch) (Z : State) (a0 : Array Value) (hw : ∀ d ∈ tables_1, d.before a0 Z = true) (ws : List Jvm.Cond) (p1 : Int32) (p2 : Int32) (cs : Int32) (vf : Value) (h0 : Heap) (n0 : Nat) (Z0 : n0 ≤ h0.size) (O0 : Old Z n0 h0) (S_cs : Sta Z Z.heap "java/lang/String" "COMPACT_STRINGS" "Z" (.int cs)) (hcs : ¬ cs = (0 : Int32)) (S_vf : Sta Z Z.heap "jdk/internal/util/Preconditions" "SIOOBE_FORMATTER" "Ljava/util/function/BiFunction;" vf) (r_vf : vf.isRef = true) :
    MetFree l x (head1 (Jvm.Cond.code x code maxLocals ret :: ws) room_1) (fun as_ U => as_ = #[(.int p1), (.int p2)] ∧ Z.Warmed39 U.vm ∧ U.heap = h0 ∧ CHv Z consts_1 U.vm h0 ∧ ∀ x_ ∈ ([] : List Addr), Safe Z consts_1 U.vm h0 x_) (fun _ _ _ _ _ => True) (fun _ U_ o_ V_ => ∃ v_ L_, o_ = .returned v_ ∧ own_rm0_Q Z p1 p2 cs vf h0 n0 v_ V_.heap L_ ∧ CHr Z consts_1 U_.vm U_.heap V_.vm V_.heap ∧ ReturnedEndW U_ o_ V_ L_ room_1.cells room_1.slots) := by
  refine MetFree.of_bodySF (plainFor_of_name own_pn4) hisR ?_
  intro p e s m args below meth c s₁ Bd hml0 hP hK
  obtain ⟨rfl, hZ, hh, HC0, hsf0⟩ := hP
  have hx := Bd.exec
  have hby := Bd.bytes
  have hml : c.maxLocals = 7 := hml0
  have hown : s.vm.findClass "com/example/lacuna/lacuna/engine/MessagesShortEscapePinLaw" = some m.cls := findClass_of_methodNamed Bd.named
  have hnm := (name_of_methodNamed Bd.named Bd.method).1
  have X0 : Stand p l e room_1 s m #[(.int p1), (.int p2)] below meth c s₁ [] 0 0 := Stand.of_body Bd
  have e0 : s₁.heap = h0 := by rw [← hh, Bd.state]; rfl
  have N0 := Fr.nil n0
  refine own_begin (own_rm0_ef m p1 p2 cs vf) ?_
  show Ends p.tables e below (s₁.setTop (mkF m 0 #[.val (.int p1), .val (.int p2), .unset, .unset, .unset, .unset, .unset] [])) _
  have HR0 : CHr Z consts_1 s.vm h0 s.vm h0 := CHr.refl HC0
  have X0w : Stand p l e room_1 (s.setVm s.vm) m #[(.int p1), (.int p2)] below meth c s₁ [] 0 0 := X0
  have hS : s.Since s.vm 0 := (State.WarmedH.refl s).since 0
  have hk : 0 ≤ h0.size := Nat.zero_le _
  refine s_iloadN (pc' := 1) X0w.here hx (hb hby at_0) rfl rfl ?_
  refine s_iconst (pc' := 2) X0w.here hx (v := (3 : Int32)) (hb hby at_1) rfl rfl ?_
  refine s_iand (pc' := 3) X0w.here hx (hb hby at_2) rfl ?_
  refine s_istoreN (pc' := 4) X0w.here hx (l' := #[.val (.int p1), .val (.int p2), .val (.int (p1 &&& (3 : Int32))), .unset, .unset, .unset, .unset]) (hb hby at_3) rfl rfl ?_
  refine own_join (α := Int32) (fun cv0 => s₁.setTop (mkF m 40 #[.val (.int p1), .val (.int p2), .val (.int (p1 &&& (3 : Int32))), .val (.int cv0), .unset, .unset, .unset] [])) (fun cv0 => True) (fun key => ?_) ?_
  · refine s_iloadN (pc' := 5) X0w.here hx (hb hby at_4) rfl rfl ?_
    refine s_iconst (pc' := 6) X0w.here hx (v := (1 : Int32)) (hb hby at_5) rfl rfl ?_
    by_cases k0_ : (p1 &&& (3 : Int32)) = (1 : Int32)
    · refine s_icmpNo (pc' := 9) X0w.here hx (hb hby at_6) (teq k0_).2 rfl ?_
      refine s_bipush (pc' := 11) X0w.here hx (v := (9 : Int32)) (hb hby at_9) rfl rfl ?_
      refine s_istoreN (pc' := 12) X0w.here hx (l' := #[.val (.int p1), .val (.int p2), .val (.int (p1 &&& (3 : Int32))), .val (.int (9 : Int32)), .unset, .unset, .unset]) (hb hby at_11) rfl rfl ?_
      refine s_goto (pc' := 40) X0w.here hx (hb hby at_12) (by decide) (by decide) ?_
      exact key ((9 : Int32)) trivial
    · refine s_icmpYes (pc' := 15) X0w.here hx (hb hby at_6) (feq k0_).2 (by decide) (by decide) ?_
      refine s_iloadN (pc' := 16) X0w.here hx (hb hby at_15) rfl rfl ?_
      refine s_iconst (pc' := 17) X0w.here hx (v := (2 : Int32)) (hb hby at_16) rfl rfl ?_
      by_cases k1_ : (p1 &&& (3 : Int32)) = (2 : Int32)
      · refine s_icmpNo (pc' := 20) X0w.here hx (hb hby at_17) (teq k1_).2 rfl ?_
        refine s_bipush (pc' := 22) X0w.here hx (v := (10 : Int32)) (hb hby at_20) rfl rfl ?_
        refine s_istoreN (pc' := 23) X0w.here hx (l' := #[.val (.int p1), .val (.int p2), .val (.int (p1 &&& (3 : Int32))), .val (.int (10 : Int32)), .unset, .unset, .unset]) (hb hby at_22) rfl rfl ?_
        refine s_goto (pc' := 40) X0w.here hx (hb hby at_23) (by decide) (by decide) ?_
        exact key ((10 : Int32)) trivial
      · refine s_icmpYes (pc' := 26) X0w.here hx (hb hby at_17) (feq k1_).2 (by decide) (by decide) ?_
        refine s_iloadN (pc' := 27) X0w.here hx (hb hby at_26) rfl rfl ?_
        refine s_iconst (pc' := 28) X0w.here hx (v := (3 : Int32)) (hb hby at_27) rfl rfl ?_
        by_cases k2_ : (p1 &&& (3 : Int32)) = (3 : Int32)
        · refine s_icmpNo (pc' := 31) X0w.here hx (hb hby at_28) (teq k2_).2 rfl ?_
          refine s_bipush (pc' := 33) X0w.here hx (v := (13 : Int32)) (hb hby at_31) rfl rfl ?_
          refine s_istoreN (pc' := 34) X0w.here hx (l' := #[.val (.int p1), .val (.int p2), .val (.int (p1 &&& (3 : Int32))), .val (.int (13 : Int32)), .unset, .unset, .unset]) (hb hby at_33) rfl rfl ?_
          refine s_goto (pc' := 40) X0w.here hx (hb hby at_34) (by decide) (by decide) ?_
          exact key ((13 : Int32)) trivial
        · refine s_icmpYes (pc' := 37) X0w.here hx (hb hby at_28) (feq k2_).2 (by decide) (by decide) ?_
          refine s_iloadN (pc' := 38) X0w.here hx (hb hby at_37) rfl rfl ?_
          refine s_i2c (pc' := 39) X0w.here hx (hb hby at_38) rfl ?_
          refine s_istoreN (pc' := 40) X0w.here hx (l' := #[.val (.int p1), .val (.int p2), .val (.int (p1 &&& (3 : Int32))), .val (.int (p2.toUInt32.toUInt16.toUInt32.toInt32)), .unset, .unset, .unset]) (hb hby at_39) rfl rfl ?_
          exact key ((p2.toUInt32.toUInt16.toUInt32.toInt32)) trivial
  · rintro cv0 hT
    try dsimp only at hT
    try dsimp only
    show Ends p.tables e below (s₁.setTop (mkF m 40 #[.val (.int p1), .val (.int p2), .val (.int (p1 &&& (3 : Int32))), .val (.int cv0), .unset, .unset, .unset] [])) _
    by_cases c9_ : cv0 = (9 : Int32)
    · subst c9_
      refine s_iloadN (pc' := 41) X0w.here hx (hb hby at_40) rfl rfl ?_
      refine s_callSH (pc' := 44) (W := 0) X0w hx hZ hS hk (own_EW hw) HC0  hown (hw _ (List.mem_of_getElem? (i := 0) rfl)) (hw _ (List.mem_of_getElem? (i := 1) rfl)) (hw _ (List.mem_of_getElem? (i := 2) rfl)) (hw _ (List.mem_of_getElem? (i := 3) rfl)) (by decide) e0 (own_esc9 l Z a0 hw [] (9 : Int32) h0 n0 Z0 rfl) own_safe0 (by rw [hml]; rfl) [(.int (9 : Int32))] [] rfl (lenOf own_pd5 rfl) rfl (Nat.le_of_eq rfl) (by decide) (by decide) (by decide) (by decide) rfl (hb hby at_41) fun T1 v1 Lc1 X1 hS hZ hown hr1 hQ1 => ?_
      obtain ⟨ea, eb, kb, rfl, Nq1, Kq1, Ex, Fc, Fv, Vb⟩ := hQ1
      have HR2 := CHr.trans HR0 (hr1)
      have HC3 := hr1.1
      have O4 := O0.keep Kq1 all0
      have N1 := Fr.app N0 Nq1
      have hk : T1.heap.size ≤ T1.heap.size := Nat.le_refl _
      have Z5 : n0 ≤ T1.heap.size := Nat.le_trans Z0 Kq1.1
      show Ends p.tables e below (T1.setTop (mkF m 44 #[.val (.int p1), .val (.int p2), .val (.int (p1 &&& (3 : Int32))), .val (.int (9 : Int32)), .unset, .unset, .unset] [(.ref ea)])) _
      refine s_astore (pc' := 46) X1.here hx (l' := #[.val (.int p1), .val (.int p2), .val (.int (p1 &&& (3 : Int32))), .val (.int (9 : Int32)), .val (.ref ea), .unset, .unset]) (hb hby at_44) rfl rfl rfl ?_
      refine s_iloadN (pc' := 47) X1.here hx (hb hby at_46) rfl rfl ?_
      refine s_istore (pc' := 49) X1.here hx (l' := #[.val (.int p1), .val (.int p2), .val (.int (p1 &&& (3 : Int32))), .val (.int (9 : Int32)), .val (.ref ea), .val (.int (9 : Int32)), .unset]) (hb hby at_47) rfl rfl ?_
      refine s_iload (pc' := 51) X1.here hx (hb hby at_49) rfl rfl ?_
      refine s_bipush (pc' := 53) X1.here hx (v := (9 : Int32)) (hb hby at_51) rfl rfl ?_
      have hk6 : (9 : Int32) = (9 : Int32) := by decide
      refine s_icmpNo (pc' := 56) X1.here hx (hb hby at_53) (teq hk6).2 rfl ?_
      refine s_bipush (pc' := 58) X1.here hx (v := (116 : Int32)) (hb hby at_56) rfl rfl ?_
      refine s_istore (pc' := 60) X1.here hx (l' := #[.val (.int p1), .val (.int p2), .val (.int (p1 &&& (3 : Int32))), .val (.int (9 : Int32)), .val (.ref ea), .val (.int (9 : Int32)), .val (.int (116 : Int32))]) (hb hby at_58) rfl rfl ?_
      refine s_goto (pc' := 94) X1.here hx (hb hby at_60) (by decide) (by decide) ?_
      refine s_iload (pc' := 96) X1.here hx (hb hby at_94) rfl rfl ?_
      have hk7 : ¬ ((116 : Int32) = (0 : Int32)) := by decide
      refine s_ifYes (pc' := 110) X1.here hx (hb hby at_96) ((if0 _ _).trans (feq hk7).2) (by decide) (by decide) ?_
      refine s_aload (pc' := 112) X1.here hx (hb hby at_110) rfl rfl rfl ?_
      refine s_ifnullNo (pc' := 115) X1.here hx (hb hby at_112) rfl ?_
      refine s_aload (pc' := 117) X1.here hx (hb hby at_115) rfl rfl rfl ?_
      refine s_callV (pc' := 120) (W := 0) X1 hx hZ  hown (hw _ (List.mem_of_getElem? (i := 12) rfl)) (hw _ (List.mem_of_getElem? (i := 13) rfl)) (hw _ (List.mem_of_getElem? (i := 5) rfl)) (hw _ (List.mem_of_getElem? (i := 16) rfl)) (hw _ (List.mem_of_getElem? (i := 15) rfl)) (hw _ (List.mem_of_getElem? (i := 14) rfl)) (by decide) rfl Ex (own_rm2 l Z a0 hw [] ea cs eb kb (2 : Int32) [(.int (92 : Int32)), (.int (116 : Int32))] T1.heap n0 Z5 O4 S_cs hcs Fc Fv Ex Vb) (by rw [hml]; rfl) [] [] rfl (lenOf own_pd6 rfl) rfl (Nat.le_of_eq rfl) (by decide) (by decide) (by decide) (by decide) rfl (hb hby at_117) fun T8 v8 Lc8 X8 hQ8 => ?_
      obtain ⟨rfl, Nq8, eh8⟩ := hQ8
      have N8 := Fr.app N1 Nq8
      show Ends p.tables e below (T8.setTop (mkF m 120 #[.val (.int p1), .val (.int p2), .val (.int (p1 &&& (3 : Int32))), .val (.int (9 : Int32)), .val (.ref ea), .val (.int (9 : Int32)), .val (.int (116 : Int32))] [(.int (2 : Int32))])) _
      refine s_iconst (pc' := 121) X8.here hx (v := (2 : Int32)) (hb hby at_120) rfl rfl ?_
      have hk9 : (2 : Int32) = (2 : Int32) := rfl
      refine s_icmpNo (pc' := 124) X8.here hx (hb hby at_121) (teq hk9).2 rfl ?_
      refine s_aload (pc' := 126) X8.here hx (hb hby at_124) rfl rfl rfl ?_
      refine s_iconst (pc' := 127) X8.here hx (v := (0 : Int32)) (hb hby at_126) rfl rfl ?_
      refine s_callV (pc' := 130) (W := 0) X8 hx hZ  hown (hw _ (List.mem_of_getElem? (i := 25) rfl)) (hw _ (List.mem_of_getElem? (i := 26) rfl)) (hw _ (List.mem_of_getElem? (i := 5) rfl)) (hw _ (List.mem_of_getElem? (i := 29) rfl)) (hw _ (List.mem_of_getElem? (i := 28) rfl)) (hw _ (List.mem_of_getElem? (i := 27) rfl)) (by decide) eh8 Ex (own_rm4 l Z a0 hw [] ea (0 : Int32) cs eb kb (2 : Int32) [(.int (92 : Int32)), (.int (116 : Int32))] vf (92 : Int32) T1.heap n0 Z5 O4 S_cs hcs S_vf r_vf Fc Fv Ex Vb (by decide) (by decide) rfl) (by rw [hml]; rfl) [(.int (0 : Int32))] [] rfl (lenOf own_pd7 rfl) rfl (Nat.le_of_eq rfl) (by decide) (by decide) (by decide) (by decide) rfl (hb hby at_127) fun T10 v10 Lc10 X10 hQ10 => ?_
      obtain ⟨rfl, Nq10, eh10⟩ := hQ10
      have N10 := Fr.app N8 Nq10
      show Ends p.tables e below (T10.setTop (mkF m 130 #[.val (.int p1), .val (.int p2), .val (.int (p1 &&& (3 : Int32))), .val (.int (9 : Int32)), .val (.ref ea), .val (.int (9 : Int32)), .val (.int (116 : Int32))] [(.int ((92 : Int32) &&& (255 : Int32)))])) _
      refine s_bipush (pc' := 132) X10.here hx (v := (92 : Int32)) (hb hby at_130) rfl rfl ?_
      have hk11 : ((92 : Int32) &&& (255 : Int32)) = (92 : Int32) := by decide
      refine s_icmpNo (pc' := 135) X10.here hx (hb hby at_132) (teq hk11).2 rfl ?_
      refine s_aload (pc' := 137) X10.here hx (hb hby at_135) rfl rfl rfl ?_
      refine s_iconst (pc' := 138) X10.here hx (v := (1 : Int32)) (hb hby at_137) rfl rfl ?_
      refine s_callV (pc' := 141) (W := 0) X10 hx hZ  hown (hw _ (List.mem_of_getElem? (i := 25) rfl)) (hw _ (List.mem_of_getElem? (i := 26) rfl)) (hw _ (List.mem_of_getElem? (i := 5) rfl)) (hw _ (List.mem_of_getElem? (i := 29) rfl)) (hw _ (List.mem_of_getElem? (i := 28) rfl)) (hw _ (List.mem_of_getElem? (i := 27) rfl)) (by decide) eh10 Ex (own_rm4 l Z a0 hw [] ea (1 : Int32) cs eb kb (2 : Int32) [(.int (92 : Int32)), (.int (116 : Int32))] vf (116 : Int32) T1.heap n0 Z5 O4 S_cs hcs S_vf r_vf Fc Fv Ex Vb (by decide) (by decide) rfl) (by rw [hml]; rfl) [(.int (1 : Int32))] [] rfl (lenOf own_pd7 rfl) rfl (Nat.le_of_eq rfl) (by decide) (by decide) (by decide) (by decide) rfl (hb hby at_138) fun T12 v12 Lc12 X12 hQ12 => ?_
      obtain ⟨rfl, Nq12, eh12⟩ := hQ12
      have N12 := Fr.app N10 Nq12
      show Ends p.tables e below (T12.setTop (mkF m 141 #[.val (.int p1), .val (.int p2), .val (.int (p1 &&& (3 : Int32))), .val (.int (9 : Int32)), .val (.ref ea), .val (.int (9 : Int32)), .val (.int (116 : Int32))] [(.int ((116 : Int32) &&& (255 : Int32)))])) _
      refine s_iload (pc' := 143) X12.here hx (hb hby at_141) rfl rfl ?_
      have hk13 : ((116 : Int32) &&& (255 : Int32)) = (116 : Int32) := by decide
      refine s_icmpNo (pc' := 146) X12.here hx (hb hby at_143) (teq hk13).2 rfl ?_
      refine s_iconst (pc' := 147) X12.here hx (v := (1 : Int32)) (hb hby at_146) rfl rfl ?_
      refine s_goto (pc' := 151) X12.here hx (hb hby at_147) (by decide) (by decide) ?_
      obtain ⟨fs, hr, hrun, hended, hRW⟩ := X12.leaveW hS (show _ ≤ T12.heap.size from by rw [eh12]; exact hk) (v := some (.int (1 : Int32))) (fun h => by rw [Bd.returns] at h; cases h)
      have hfin : CHr Z consts_1 s.vm s.heap T12.vm T12.heap := by rw [hh, eh12]; exact CHr.trans HR2 (CHv.at X12 hZ (own_EW hw) HC3)
      refine ⟨_, _, retN X12 hx (t := .boolean) Bd.returns (by simp) (hb hby at_151) hr, hrun, hended, _, _, rfl, ?_, hfin, own_rwm hRW (by decide) (by decide)⟩
      show own_rm0_Q Z p1 p2 cs vf h0 n0 _ T12.heap _
      rw [eh12]
      exact ⟨rfl, N12⟩
    · by_cases c10_ : cv0 = (10 : Int32)
      · subst c10_
        refine s_iloadN (pc' := 41) X0w.here hx (hb hby at_40) rfl rfl ?_
        refine s_callSH (pc' := 44) (W := 0) X0w hx hZ hS hk (own_EW hw) HC0  hown (hw _ (List.mem_of_getElem? (i := 0) rfl)) (hw _ (List.mem_of_getElem? (i := 1) rfl)) (hw _ (List.mem_of_getElem? (i := 2) rfl)) (hw _ (List.mem_of_getElem? (i := 3) rfl)) (by decide) e0 (own_esc10 l Z a0 hw [] (10 : Int32) h0 n0 Z0 rfl) own_safe0 (by rw [hml]; rfl) [(.int (10 : Int32))] [] rfl (lenOf own_pd5 rfl) rfl (Nat.le_of_eq rfl) (by decide) (by decide) (by decide) (by decide) rfl (hb hby at_41) fun T14 v14 Lc14 X14 hS hZ hown hr14 hQ14 => ?_
        obtain ⟨ea, eb, kb, rfl, Nq14, Kq14, Ex, Fc, Fv, Vb⟩ := hQ14
        have HR15 := CHr.trans HR0 (hr14)
        have HC16 := hr14.1
        have O17 := O0.keep Kq14 all0
        have N14 := Fr.app N0 Nq14
        have hk : T14.heap.size ≤ T14.heap.size := Nat.le_refl _
        have Z18 : n0 ≤ T14.heap.size := Nat.le_trans Z0 Kq14.1
        show Ends p.tables e below (T14.setTop (mkF m 44 #[.val (.int p1), .val (.int p2), .val (.int (p1 &&& (3 : Int32))), .val (.int (10 : Int32)), .unset, .unset, .unset] [(.ref ea)])) _
        refine s_astore (pc' := 46) X14.here hx (l' := #[.val (.int p1), .val (.int p2), .val (.int (p1 &&& (3 : Int32))), .val (.int (10 : Int32)), .val (.ref ea), .unset, .unset]) (hb hby at_44) rfl rfl rfl ?_
        refine s_iloadN (pc' := 47) X14.here hx (hb hby at_46) rfl rfl ?_
        refine s_istore (pc' := 49) X14.here hx (l' := #[.val (.int p1), .val (.int p2), .val (.int (p1 &&& (3 : Int32))), .val (.int (10 : Int32)), .val (.ref ea), .val (.int (10 : Int32)), .unset]) (hb hby at_47) rfl rfl ?_
        refine s_iload (pc' := 51) X14.here hx (hb hby at_49) rfl rfl ?_
        refine s_bipush (pc' := 53) X14.here hx (v := (9 : Int32)) (hb hby at_51) rfl rfl ?_
        have hk19 : ¬ ((10 : Int32) = (9 : Int32)) := by decide
        refine s_icmpYes (pc' := 63) X14.here hx (hb hby at_53) (feq hk19).2 (by decide) (by decide) ?_
        refine s_iload (pc' := 65) X14.here hx (hb hby at_63) rfl rfl ?_
        refine s_bipush (pc' := 67) X14.here hx (v := (10 : Int32)) (hb hby at_65) rfl rfl ?_
        have hk20 : (10 : Int32) = (10 : Int32) := by decide
        refine s_icmpNo (pc' := 70) X14.here hx (hb hby at_67) (teq hk20).2 rfl ?_
        refine s_bipush (pc' := 72) X14.here hx (v := (110 : Int32)) (hb hby at_70) rfl rfl ?_
        refine s_istore (pc' := 74) X14.here hx (l' := #[.val (.int p1), .val (.int p2), .val (.int (p1 &&& (3 : Int32))), .val (.int (10 : Int32)), .val (.ref ea), .val (.int (10 : Int32)), .val (.int (110 : Int32))]) (hb hby at_72) rfl rfl ?_
        refine s_goto (pc' := 94) X14.here hx (hb hby at_74) (by decide) (by decide) ?_
        refine s_iload (pc' := 96) X14.here hx (hb hby at_94) rfl rfl ?_
        have hk21 : ¬ ((110 : Int32) = (0 : Int32)) := by decide
        refine s_ifYes (pc' := 110) X14.here hx (hb hby at_96) ((if0 _ _).trans (feq hk21).2) (by decide) (by decide) ?_
        refine s_aload (pc' := 112) X14.here hx (hb hby at_110) rfl rfl rfl ?_
        refine s_ifnullNo (pc' := 115) X14.here hx (hb hby at_112) rfl ?_
        refine s_aload (pc' := 117) X14.here hx (hb hby at_115) rfl rfl rfl ?_
        refine s_callV (pc' := 120) (W := 0) X14 hx hZ  hown (hw _ (List.mem_of_getElem? (i := 12) rfl)) (hw _ (List.mem_of_getElem? (i := 13) rfl)) (hw _ (List.mem_of_getElem? (i := 5) rfl)) (hw _ (List.mem_of_getElem? (i := 16) rfl)) (hw _ (List.mem_of_getElem? (i := 15) rfl)) (hw _ (List.mem_of_getElem? (i := 14) rfl)) (by decide) rfl Ex (own_rm2 l Z a0 hw [] ea cs eb kb (2 : Int32) [(.int (92 : Int32)), (.int (110 : Int32))] T14.heap n0 Z18 O17 S_cs hcs Fc Fv Ex Vb) (by rw [hml]; rfl) [] [] rfl (lenOf own_pd6 rfl) rfl (Nat.le_of_eq rfl) (by decide) (by decide) (by decide) (by decide) rfl (hb hby at_117) fun T22 v22 Lc22 X22 hQ22 => ?_
        obtain ⟨rfl, Nq22, eh22⟩ := hQ22
        have N22 := Fr.app N14 Nq22
        show Ends p.tables e below (T22.setTop (mkF m 120 #[.val (.int p1), .val (.int p2), .val (.int (p1 &&& (3 : Int32))), .val (.int (10 : Int32)), .val (.ref ea), .val (.int (10 : Int32)), .val (.int (110 : Int32))] [(.int (2 : Int32))])) _
        refine s_iconst (pc' := 121) X22.here hx (v := (2 : Int32)) (hb hby at_120) rfl rfl ?_
        have hk23 : (2 : Int32) = (2 : Int32) := rfl
        refine s_icmpNo (pc' := 124) X22.here hx (hb hby at_121) (teq hk23).2 rfl ?_
        refine s_aload (pc' := 126) X22.here hx (hb hby at_124) rfl rfl rfl ?_
        refine s_iconst (pc' := 127) X22.here hx (v := (0 : Int32)) (hb hby at_126) rfl rfl ?_
        refine s_callV (pc' := 130) (W := 0) X22 hx hZ  hown (hw _ (List.mem_of_getElem? (i := 25) rfl)) (hw _ (List.mem_of_getElem? (i := 26) rfl)) (hw _ (List.mem_of_getElem? (i := 5) rfl)) (hw _ (List.mem_of_getElem? (i := 29) rfl)) (hw _ (List.mem_of_getElem? (i := 28) rfl)) (hw _ (List.mem_of_getElem? (i := 27) rfl)) (by decide) eh22 Ex (own_rm4 l Z a0 hw [] ea (0 : Int32) cs eb kb (2 : Int32) [(.int (92 : Int32)), (.int (110 : Int32))] vf (92 : Int32) T14.heap n0 Z18 O17 S_cs hcs S_vf r_vf Fc Fv Ex Vb (by decide) (by decide) rfl) (by rw [hml]; rfl) [(.int (0 : Int32))] [] rfl (lenOf own_pd7 rfl) rfl (Nat.le_of_eq rfl) (by decide) (by decide) (by decide) (by decide) rfl (hb hby at_127) fun T24 v24 Lc24 X24 hQ24 => ?_
        obtain ⟨rfl, Nq24, eh24⟩ := hQ24
        have N24 := Fr.app N22 Nq24
        show Ends p.tables e below (T24.setTop (mkF m 130 #[.val (.int p1), .val (.int p2), .val (.int (p1 &&& (3 : Int32))), .val (.int (10 : Int32)), .val (.ref ea), .val (.int (10 : Int32)), .val (.int (110 : Int32))] [(.int ((92 : Int32) &&& (255 : Int32)))])) _
        refine s_bipush (pc' := 132) X24.here hx (v := (92 : Int32)) (hb hby at_130) rfl rfl ?_
        have hk25 : ((92 : Int32) &&& (255 : Int32)) = (92 : Int32) := by decide
        refine s_icmpNo (pc' := 135) X24.here hx (hb hby at_132) (teq hk25).2 rfl ?_
        refine s_aload (pc' := 137) X24.here hx (hb hby at_135) rfl rfl rfl ?_
        refine s_iconst (pc' := 138) X24.here hx (v := (1 : Int32)) (hb hby at_137) rfl rfl ?_
        refine s_callV (pc' := 141) (W := 0) X24 hx hZ  hown (hw _ (List.mem_of_getElem? (i := 25) rfl)) (hw _ (List.mem_of_getElem? (i := 26) rfl)) (hw _ (List.mem_of_getElem? (i := 5) rfl)) (hw _ (List.mem_of_getElem? (i := 29) rfl)) (hw _ (List.mem_of_getElem? (i := 28) rfl)) (hw _ (List.mem_of_getElem? (i := 27) rfl)) (by decide) eh24 Ex (own_rm4 l Z a0 hw [] ea (1 : Int32) cs eb kb (2 : Int32) [(.int (92 : Int32)), (.int (110 : Int32))] vf (110 : Int32) T14.heap n0 Z18 O17 S_cs hcs S_vf r_vf Fc Fv Ex Vb (by decide) (by decide) rfl) (by rw [hml]; rfl) [(.int (1 : Int32))] [] rfl (lenOf own_pd7 rfl) rfl (Nat.le_of_eq rfl) (by decide) (by decide) (by decide) (by decide) rfl (hb hby at_138) fun T26 v26 Lc26 X26 hQ26 => ?_
        obtain ⟨rfl, Nq26, eh26⟩ := hQ26
        have N26 := Fr.app N24 Nq26
        show Ends p.tables e below (T26.setTop (mkF m 141 #[.val (.int p1), .val (.int p2), .val (.int (p1 &&& (3 : Int32))), .val (.int (10 : Int32)), .val (.ref ea), .val (.int (10 : Int32)), .val (.int (110 : Int32))] [(.int ((110 : Int32) &&& (255 : Int32)))])) _
        refine s_iload (pc' := 143) X26.here hx (hb hby at_141) rfl rfl ?_
        have hk27 : ((110 : Int32) &&& (255 : Int32)) = (110 : Int32) := by decide
        refine s_icmpNo (pc' := 146) X26.here hx (hb hby at_143) (teq hk27).2 rfl ?_
        refine s_iconst (pc' := 147) X26.here hx (v := (1 : Int32)) (hb hby at_146) rfl rfl ?_
        refine s_goto (pc' := 151) X26.here hx (hb hby at_147) (by decide) (by decide) ?_
        obtain ⟨fs, hr, hrun, hended, hRW⟩ := X26.leaveW hS (show _ ≤ T26.heap.size from by rw [eh26]; exact hk) (v := some (.int (1 : Int32))) (fun h => by rw [Bd.returns] at h; cases h)
        have hfin : CHr Z consts_1 s.vm s.heap T26.vm T26.heap := by rw [hh, eh26]; exact CHr.trans HR15 (CHv.at X26 hZ (own_EW hw) HC16)
        refine ⟨_, _, retN X26 hx (t := .boolean) Bd.returns (by simp) (hb hby at_151) hr, hrun, hended, _, _, rfl, ?_, hfin, own_rwm hRW (by decide) (by decide)⟩
        show own_rm0_Q Z p1 p2 cs vf h0 n0 _ T26.heap _
        rw [eh26]
        exact ⟨rfl, N26⟩
      · by_cases c13_ : cv0 = (13 : Int32)
        · subst c13_
          refine s_iloadN (pc' := 41) X0w.here hx (hb hby at_40) rfl rfl ?_
          refine s_callSH (pc' := 44) (W := 0) X0w hx hZ hS hk (own_EW hw) HC0  hown (hw _ (List.mem_of_getElem? (i := 0) rfl)) (hw _ (List.mem_of_getElem? (i := 1) rfl)) (hw _ (List.mem_of_getElem? (i := 2) rfl)) (hw _ (List.mem_of_getElem? (i := 3) rfl)) (by decide) e0 (own_esc13 l Z a0 hw [] (13 : Int32) h0 n0 Z0 rfl) own_safe0 (by rw [hml]; rfl) [(.int (13 : Int32))] [] rfl (lenOf own_pd5 rfl) rfl (Nat.le_of_eq rfl) (by decide) (by decide) (by decide) (by decide) rfl (hb hby at_41) fun T28 v28 Lc28 X28 hS hZ hown hr28 hQ28 => ?_
          obtain ⟨ea, eb, kb, rfl, Nq28, Kq28, Ex, Fc, Fv, Vb⟩ := hQ28
          have HR29 := CHr.trans HR0 (hr28)
          have HC30 := hr28.1
          have O31 := O0.keep Kq28 all0
          have N28 := Fr.app N0 Nq28
          have hk : T28.heap.size ≤ T28.heap.size := Nat.le_refl _
          have Z32 : n0 ≤ T28.heap.size := Nat.le_trans Z0 Kq28.1
          show Ends p.tables e below (T28.setTop (mkF m 44 #[.val (.int p1), .val (.int p2), .val (.int (p1 &&& (3 : Int32))), .val (.int (13 : Int32)), .unset, .unset, .unset] [(.ref ea)])) _
          refine s_astore (pc' := 46) X28.here hx (l' := #[.val (.int p1), .val (.int p2), .val (.int (p1 &&& (3 : Int32))), .val (.int (13 : Int32)), .val (.ref ea), .unset, .unset]) (hb hby at_44) rfl rfl rfl ?_
          refine s_iloadN (pc' := 47) X28.here hx (hb hby at_46) rfl rfl ?_
          refine s_istore (pc' := 49) X28.here hx (l' := #[.val (.int p1), .val (.int p2), .val (.int (p1 &&& (3 : Int32))), .val (.int (13 : Int32)), .val (.ref ea), .val (.int (13 : Int32)), .unset]) (hb hby at_47) rfl rfl ?_
          refine s_iload (pc' := 51) X28.here hx (hb hby at_49) rfl rfl ?_
          refine s_bipush (pc' := 53) X28.here hx (v := (9 : Int32)) (hb hby at_51) rfl rfl ?_
          have hk33 : ¬ ((13 : Int32) = (9 : Int32)) := by decide
          refine s_icmpYes (pc' := 63) X28.here hx (hb hby at_53) (feq hk33).2 (by decide) (by decide) ?_
          refine s_iload (pc' := 65) X28.here hx (hb hby at_63) rfl rfl ?_
          refine s_bipush (pc' := 67) X28.here hx (v := (10 : Int32)) (hb hby at_65) rfl rfl ?_
          have hk34 : ¬ ((13 : Int32) = (10 : Int32)) := by decide
          refine s_icmpYes (pc' := 77) X28.here hx (hb hby at_67) (feq hk34).2 (by decide) (by decide) ?_
          refine s_iload (pc' := 79) X28.here hx (hb hby at_77) rfl rfl ?_
          refine s_bipush (pc' := 81) X28.here hx (v := (13 : Int32)) (hb hby at_79) rfl rfl ?_
          have hk35 : (13 : Int32) = (13 : Int32) := by decide
          refine s_icmpNo (pc' := 84) X28.here hx (hb hby at_81) (teq hk35).2 rfl ?_
          refine s_bipush (pc' := 86) X28.here hx (v := (114 : Int32)) (hb hby at_84) rfl rfl ?_
          refine s_istore (pc' := 88) X28.here hx (l' := #[.val (.int p1), .val (.int p2), .val (.int (p1 &&& (3 : Int32))), .val (.int (13 : Int32)), .val (.ref ea), .val (.int (13 : Int32)), .val (.int (114 : Int32))]) (hb hby at_86) rfl rfl ?_
          refine s_goto (pc' := 94) X28.here hx (hb hby at_88) (by decide) (by decide) ?_
          refine s_iload (pc' := 96) X28.here hx (hb hby at_94) rfl rfl ?_
          have hk36 : ¬ ((114 : Int32) = (0 : Int32)) := by decide
          refine s_ifYes (pc' := 110) X28.here hx (hb hby at_96) ((if0 _ _).trans (feq hk36).2) (by decide) (by decide) ?_
          refine s_aload (pc' := 112) X28.here hx (hb hby at_110) rfl rfl rfl ?_
          refine s_ifnullNo (pc' := 115) X28.here hx (hb hby at_112) rfl ?_
          refine s_aload (pc' := 117) X28.here hx (hb hby at_115) rfl rfl rfl ?_
          refine s_callV (pc' := 120) (W := 0) X28 hx hZ  hown (hw _ (List.mem_of_getElem? (i := 12) rfl)) (hw _ (List.mem_of_getElem? (i := 13) rfl)) (hw _ (List.mem_of_getElem? (i := 5) rfl)) (hw _ (List.mem_of_getElem? (i := 16) rfl)) (hw _ (List.mem_of_getElem? (i := 15) rfl)) (hw _ (List.mem_of_getElem? (i := 14) rfl)) (by decide) rfl Ex (own_rm2 l Z a0 hw [] ea cs eb kb (2 : Int32) [(.int (92 : Int32)), (.int (114 : Int32))] T28.heap n0 Z32 O31 S_cs hcs Fc Fv Ex Vb) (by rw [hml]; rfl) [] [] rfl (lenOf own_pd6 rfl) rfl (Nat.le_of_eq rfl) (by decide) (by decide) (by decide) (by decide) rfl (hb hby at_117) fun T37 v37 Lc37 X37 hQ37 => ?_
          obtain ⟨rfl, Nq37, eh37⟩ := hQ37
          have N37 := Fr.app N28 Nq37
          show Ends p.tables e below (T37.setTop (mkF m 120 #[.val (.int p1), .val (.int p2), .val (.int (p1 &&& (3 : Int32))), .val (.int (13 : Int32)), .val (.ref ea), .val (.int (13 : Int32)), .val (.int (114 : Int32))] [(.int (2 : Int32))])) _
          refine s_iconst (pc' := 121) X37.here hx (v := (2 : Int32)) (hb hby at_120) rfl rfl ?_
          have hk38 : (2 : Int32) = (2 : Int32) := rfl
          refine s_icmpNo (pc' := 124) X37.here hx (hb hby at_121) (teq hk38).2 rfl ?_
          refine s_aload (pc' := 126) X37.here hx (hb hby at_124) rfl rfl rfl ?_
          refine s_iconst (pc' := 127) X37.here hx (v := (0 : Int32)) (hb hby at_126) rfl rfl ?_
          refine s_callV (pc' := 130) (W := 0) X37 hx hZ  hown (hw _ (List.mem_of_getElem? (i := 25) rfl)) (hw _ (List.mem_of_getElem? (i := 26) rfl)) (hw _ (List.mem_of_getElem? (i := 5) rfl)) (hw _ (List.mem_of_getElem? (i := 29) rfl)) (hw _ (List.mem_of_getElem? (i := 28) rfl)) (hw _ (List.mem_of_getElem? (i := 27) rfl)) (by decide) eh37 Ex (own_rm4 l Z a0 hw [] ea (0 : Int32) cs eb kb (2 : Int32) [(.int (92 : Int32)), (.int (114 : Int32))] vf (92 : Int32) T28.heap n0 Z32 O31 S_cs hcs S_vf r_vf Fc Fv Ex Vb (by decide) (by decide) rfl) (by rw [hml]; rfl) [(.int (0 : Int32))] [] rfl (lenOf own_pd7 rfl) rfl (Nat.le_of_eq rfl) (by decide) (by decide) (by decide) (by decide) rfl (hb hby at_127) fun T39 v39 Lc39 X39 hQ39 => ?_
          obtain ⟨rfl, Nq39, eh39⟩ := hQ39
          have N39 := Fr.app N37 Nq39
          show Ends p.tables e below (T39.setTop (mkF m 130 #[.val (.int p1), .val (.int p2), .val (.int (p1 &&& (3 : Int32))), .val (.int (13 : Int32)), .val (.ref ea), .val (.int (13 : Int32)), .val (.int (114 : Int32))] [(.int ((92 : Int32) &&& (255 : Int32)))])) _
          refine s_bipush (pc' := 132) X39.here hx (v := (92 : Int32)) (hb hby at_130) rfl rfl ?_
          have hk40 : ((92 : Int32) &&& (255 : Int32)) = (92 : Int32) := by decide
          refine s_icmpNo (pc' := 135) X39.here hx (hb hby at_132) (teq hk40).2 rfl ?_
          refine s_aload (pc' := 137) X39.here hx (hb hby at_135) rfl rfl rfl ?_
          refine s_iconst (pc' := 138) X39.here hx (v := (1 : Int32)) (hb hby at_137) rfl rfl ?_
          refine s_callV (pc' := 141) (W := 0) X39 hx hZ  hown (hw _ (List.mem_of_getElem? (i := 25) rfl)) (hw _ (List.mem_of_getElem? (i := 26) rfl)) (hw _ (List.mem_of_getElem? (i := 5) rfl)) (hw _ (List.mem_of_getElem? (i := 29) rfl)) (hw _ (List.mem_of_getElem? (i := 28) rfl)) (hw _ (List.mem_of_getElem? (i := 27) rfl)) (by decide) eh39 Ex (own_rm4 l Z a0 hw [] ea (1 : Int32) cs eb kb (2 : Int32) [(.int (92 : Int32)), (.int (114 : Int32))] vf (114 : Int32) T28.heap n0 Z32 O31 S_cs hcs S_vf r_vf Fc Fv Ex Vb (by decide) (by decide) rfl) (by rw [hml]; rfl) [(.int (1 : Int32))] [] rfl (lenOf own_pd7 rfl) rfl (Nat.le_of_eq rfl) (by decide) (by decide) (by decide) (by decide) rfl (hb hby at_138) fun T41 v41 Lc41 X41 hQ41 => ?_
          obtain ⟨rfl, Nq41, eh41⟩ := hQ41
          have N41 := Fr.app N39 Nq41
          show Ends p.tables e below (T41.setTop (mkF m 141 #[.val (.int p1), .val (.int p2), .val (.int (p1 &&& (3 : Int32))), .val (.int (13 : Int32)), .val (.ref ea), .val (.int (13 : Int32)), .val (.int (114 : Int32))] [(.int ((114 : Int32) &&& (255 : Int32)))])) _
          refine s_iload (pc' := 143) X41.here hx (hb hby at_141) rfl rfl ?_
          have hk42 : ((114 : Int32) &&& (255 : Int32)) = (114 : Int32) := by decide
          refine s_icmpNo (pc' := 146) X41.here hx (hb hby at_143) (teq hk42).2 rfl ?_
          refine s_iconst (pc' := 147) X41.here hx (v := (1 : Int32)) (hb hby at_146) rfl rfl ?_
          refine s_goto (pc' := 151) X41.here hx (hb hby at_147) (by decide) (by decide) ?_
          obtain ⟨fs, hr, hrun, hended, hRW⟩ := X41.leaveW hS (show _ ≤ T41.heap.size from by rw [eh41]; exact hk) (v := some (.int (1 : Int32))) (fun h => by rw [Bd.returns] at h; cases h)
          have hfin : CHr Z consts_1 s.vm s.heap T41.vm T41.heap := by rw [hh, eh41]; exact CHr.trans HR29 (CHv.at X41 hZ (own_EW hw) HC30)
          refine ⟨_, _, retN X41 hx (t := .boolean) Bd.returns (by simp) (hb hby at_151) hr, hrun, hended, _, _, rfl, ?_, hfin, own_rwm hRW (by decide) (by decide)⟩
          show own_rm0_Q Z p1 p2 cs vf h0 n0 _ T41.heap _
          rw [eh41]
          exact ⟨rfl, N41⟩
        · refine s_iloadN (pc' := 41) X0w.here hx (hb hby at_40) rfl rfl ?_
          refine s_callSH (pc' := 44) (W := 0) X0w hx hZ hS hk (own_EW hw) HC0  hown (hw _ (List.mem_of_getElem? (i := 0) rfl)) (hw _ (List.mem_of_getElem? (i := 1) rfl)) (hw _ (List.mem_of_getElem? (i := 2) rfl)) (hw _ (List.mem_of_getElem? (i := 3) rfl)) (by decide) e0 (own_escN l Z a0 hw [] cv0 h0 n0 Z0 c9_ c10_ c13_) own_safe0 (by rw [hml]; rfl) [(.int cv0)] [] rfl (lenOf own_pd5 rfl) rfl (Nat.le_of_eq rfl) (by decide) (by decide) (by decide) (by decide) rfl (hb hby at_41) fun T43 v43 Lc43 X43 hS hZ hown hr43 hQ43 => ?_
          obtain ⟨rfl, Nq43, Kq43⟩ := hQ43
          have HR44 := CHr.trans HR0 (hr43)
          have HC45 := hr43.1
          have O46 := O0.keep Kq43 all0
          have N43 := Fr.app N0 Nq43
          have hk : T43.heap.size ≤ T43.heap.size := Nat.le_refl _
          have Z47 : n0 ≤ T43.heap.size := Nat.le_trans Z0 Kq43.1
          show Ends p.tables e below (T43.setTop (mkF m 44 #[.val (.int p1), .val (.int p2), .val (.int (p1 &&& (3 : Int32))), .val (.int cv0), .unset, .unset, .unset] [.null])) _
          refine s_astore (pc' := 46) X43.here hx (l' := #[.val (.int p1), .val (.int p2), .val (.int (p1 &&& (3 : Int32))), .val (.int cv0), .val .null, .unset, .unset]) (hb hby at_44) rfl rfl rfl ?_
          refine s_iloadN (pc' := 47) X43.here hx (hb hby at_46) rfl rfl ?_
          refine s_istore (pc' := 49) X43.here hx (l' := #[.val (.int p1), .val (.int p2), .val (.int (p1 &&& (3 : Int32))), .val (.int cv0), .val .null, .val (.int cv0), .unset]) (hb hby at_47) rfl rfl ?_
          refine s_iload (pc' := 51) X43.here hx (hb hby at_49) rfl rfl ?_
          refine s_bipush (pc' := 53) X43.here hx (v := (9 : Int32)) (hb hby at_51) rfl rfl ?_
          have hk48 : ¬ (cv0 = (9 : Int32)) := c9_
          refine s_icmpYes (pc' := 63) X43.here hx (hb hby at_53) (feq hk48).2 (by decide) (by decide) ?_
          refine s_iload (pc' := 65) X43.here hx (hb hby at_63) rfl rfl ?_
          refine s_bipush (pc' := 67) X43.here hx (v := (10 : Int32)) (hb hby at_65) rfl rfl ?_
          have hk49 : ¬ (cv0 = (10 : Int32)) := c10_
          refine s_icmpYes (pc' := 77) X43.here hx (hb hby at_67) (feq hk49).2 (by decide) (by decide) ?_
          refine s_iload (pc' := 79) X43.here hx (hb hby at_77) rfl rfl ?_
          refine s_bipush (pc' := 81) X43.here hx (v := (13 : Int32)) (hb hby at_79) rfl rfl ?_
          have hk50 : ¬ (cv0 = (13 : Int32)) := c13_
          refine s_icmpYes (pc' := 91) X43.here hx (hb hby at_81) (feq hk50).2 (by decide) (by decide) ?_
          refine s_iconst (pc' := 92) X43.here hx (v := (0 : Int32)) (hb hby at_91) rfl rfl ?_
          refine s_istore (pc' := 94) X43.here hx (l' := #[.val (.int p1), .val (.int p2), .val (.int (p1 &&& (3 : Int32))), .val (.int cv0), .val .null, .val (.int cv0), .val (.int (0 : Int32))]) (hb hby at_92) rfl rfl ?_
          refine s_iload (pc' := 96) X43.here hx (hb hby at_94) rfl rfl ?_
          have hk51 : (0 : Int32) = (0 : Int32) := by decide
          refine s_ifNo (pc' := 99) X43.here hx (hb hby at_96) ((if0 _ _).trans (teq hk51).2) rfl ?_
          refine s_aload (pc' := 101) X43.here hx (hb hby at_99) rfl rfl rfl ?_
          refine s_ifnonnullNo (pc' := 104) X43.here hx (hb hby at_101) rfl ?_
          refine s_iconst (pc' := 105) X43.here hx (v := (1 : Int32)) (hb hby at_104) rfl rfl ?_
          refine s_goto (pc' := 109) X43.here hx (hb hby at_105) (by decide) (by decide) ?_
          obtain ⟨fs, hr, hrun, hended, hRW⟩ := X43.leaveW hS (show _ ≤ T43.heap.size from hk) (v := some (.int (1 : Int32))) (fun h => by rw [Bd.returns] at h; cases h)
          have hfin : CHr Z consts_1 s.vm s.heap T43.vm T43.heap := by rw [hh]; exact CHr.trans HR44 (CHv.at X43 hZ (own_EW hw) HC45)
          refine ⟨_, _, retN X43 hx (t := .boolean) Bd.returns (by simp) (hb hby at_109) hr, hrun, hended, _, _, rfl, ?_, hfin, own_rwm hRW (by decide) (by decide)⟩
          show own_rm0_Q Z p1 p2 cs vf h0 n0 _ T43.heap _
          exact ⟨rfl, N43⟩
set_option maxRecDepth 65536 in
set_option maxHeartbeats 40000000 in
theorem comes_1 {Post : Tables → Env → Array Value → State → Outcome → State → Prop} (hpost : ∀ tb e args s v u, (limb_1_1.after args s (.returned v) u = true ∧ limb_1_2.after args s (.returned v) u = true ∧ True) → ReturnedEndW s (.returned v) u (Jvm.fieldLocs frame_1_writes args s ++ Jvm.arrayLocs frame_1_arrays args s ++ Jvm.staticLocs frame_1_statics s) 8 3136 → Post tb e args s (.returned v) u) :
    ArmFor flags0 classFile x code maxLocals ret World_1 tables_1 room_1 Calls_1 rest_1 Pre_1 Post := by
  intro l hfl _ _ p e ha hc hk s m args below hf hA hF happ hP
  obtain ⟨hcalls, hrest, hpre⟩ := hP
  obtain ⟨-, -, -, hnamed, -, -, -, hat⟩ := (Spec.applies_iff hf).mp happ
  obtain ⟨hg, hn⟩ := and_e (Cond.before_iff.mp (show (Jvm.Cond.and given_1 narrow_1).before args s = true from hpre))
  obtain ⟨gg2, gg3⟩ := and_e hg
  obtain ⟨gg4, gg5⟩ := and_e gg3
  obtain ⟨w0, w1, rfl⟩ : ∃ w0 w1 : Value, args = #[w0, w1] := by
    have hs : args.size = 2 := by simpa [Cond.value, given_1] using gg2
    obtain ⟨L⟩ := args
    match L, hs with
    | [w0, w1], _ => exact ⟨w0, w1, rfl⟩
  have hw := fun d (hd : d ∈ tables_1) => atoms_spec (ws := Jvm.Cond.code x code maxLocals ret :: tables_1) hat d (List.mem_cons_of_mem _ hd)
  have hfit : Fit s := fun {y c} hc i hi => by
    obtain ⟨ha, rfl⟩ := Array.getElem?_eq_some_iff.mp hc
    have q := List.all_eq_true.mp ((Array.all_eq_true_iff_forall_mem.mp hF) _ (Array.getElem_mem ha)) i (List.mem_range.mpr hi)
    simpa [Array.getElem?_eq_getElem hi] using q
  obtain ⟨hsets, hown0⟩ := atoms_of _ (rest_1_c_eq ▸ (show rest_1_c.before _ s = true from hrest))
  have hr0 := Cond.before_iff.mp hown0
  obtain ⟨i0, ei0⟩ := is_v gg4
  obtain rfl : w0 = (.int i0) := Option.some.inj ei0
  obtain ⟨i1, ei1⟩ := is_v gg5
  obtain rfl : w1 = (.int i1) := Option.some.inj ei1
  obtain ⟨cs, evcs⟩ := is_v (Cond.before_iff.mp (hsets _ (List.mem_of_getElem? (i := 1) rfl)))
  have S_cs := Sta.start evcs (Or.inl (hsets _ (List.mem_of_getElem? (i := 0) rfl)))
  have hcs : ¬ cs = (0 : Int32) := fun q_ => by
    have z_ := (Cond.before_iff.mp (hsets _ (List.mem_of_getElem? (i := 2) rfl)))
    subst q_
    simp [Cond.value, evcs, Term.int_eval] at z_
  obtain ⟨vf, evvf, r_vf⟩ := isR_v (Cond.before_iff.mp (hsets _ (List.mem_of_getElem? (i := 8) rfl)))
  have S_vf := Sta.start evvf (Or.inl (hsets _ (List.mem_of_getElem? (i := 7) rfl)))
  have hcv : CHv s consts_1 s.vm s.heap := CHv.start (own_EW hw) (fun p_ hp_ => hcalls.1 p_ hp_) (hsets _ (List.mem_of_getElem? (i := 2) rfl)) (hw _ (List.mem_of_getElem? (i := 7) rfl)) (hw _ (List.mem_of_getElem? (i := 6) rfl))
  obtain ⟨n, o, h1, h2, h3, _, L, rfl, ⟨rfl, N⟩, _, hq⟩ := own_rm0 l s _ hw tables_1 i0 i1 cs vf s.heap s.heap.size (Nat.le_refl _) (Old.start s) S_cs hcs S_vf r_vf p e ha hc hk s m _ below hf ((Spec.applies_iff_loose hf).mp happ).1 ⟨rfl, State.Warmed39.refl s, rfl, hcv, fun _ q_ => nomatch q_⟩ trivial
  refine ⟨n, _, h1, h2, h3, hpost _ _ _ _ _ _ ⟨Cond.after_iff.mpr rfl, Cond.after_iff.mpr (eq_i res_at (Term.int_eval (1)) rfl), trivial⟩ ⟨hq.1, hq.2.1, hq.2.2.1, (hq.2.2.2.sift fun y hy => Or.inr (N y hy)).mono (by decide) (by decide)⟩⟩
theorem main_1_1 : Claimed_1_1 := comes_1 fun _ _ _ _ _ _ h hF => ⟨h.1, hF⟩
theorem main_1_2 : Claimed_1_2 := comes_1 fun _ _ _ _ _ _ h hF => ⟨h.2.1, hF⟩
end Jvm.Pilot.@@N@@
namespace Jvm.Pilot.@@N@@
open Jvm Jvm.ClassFile Sem Op Lib Jvm.Free Jvm.Stand Jvm.Pilot.@@N@@.Jvm.D
/-! MADE BY PROGRAM (witnessworld.py) out of the Statement's table words and the real class files: 17 classes; the members and pool entries that the words name. The judged class is class 1, her method 1. -/
namespace start1
open Jvm.ClassFile
def u (s : String) : CpInfo := .utf8 (stringToUtf16 s)
/-- a pool by its gaps: so many unusable entries, then the entry; so many at the end -/
def gap : Nat → List CpInfo → List CpInfo
  | 0, r => r
  | n + 1, r => .unusable :: gap n r
def poolList (es : List (Nat × CpInfo)) (last : Nat) : List CpInfo := es.foldr (fun e r => gap e.1 (e.2 :: r)) (gap last [])
def pool (es : List (Nat × CpInfo)) (last : Nat) : Array CpInfo := ⟨poolList es last⟩
def fileOf (pool : Array CpInfo) (this : Nat) (attrs : Array Attribute := #[]) (ms : Array MethodInfo := #[]) (fl : Nat := 33) (sup : Nat := 0) (ifs : Array Nat := #[]) (fds : Array FieldInfo := #[]) : ClassFile where
  minorVersion := 0
  majorVersion := 65
  constantPool := pool
  accessFlags := fl
  thisClass := this
  superClass := sup
  interfaces := ifs
  fields := fds
  methods := ms
  attributes := attrs
def plain (name : String) (sup : Option ClassId) : Class where
  name := name
  kind := .ordinary
  loader := none
  accessFlags := 33
  super := sup
  interfaces := #[]
  cf := none
  fields := #[]
  methods := #[]
  instanceTypes := #[]
  staticTypes := #[]
  resolved := #[]
  callSites := []
  init := .initialized
  statics := none
  mirror := none

def pool0 : Array CpInfo := pool [(5, u "<init>"), (0, u "()V"), (1, .class_ 10), (1, u "java/lang/Object")] 113

def k0m0 : Method := { name := "<init>", desc := "()V", sig := { parameters := [], returnType := none }, accessFlags := 1, code := none }
/-- java/lang/Object -/
def k0 : Class := { plain "java/lang/Object" none with
  accessFlags := 33
  interfaces := #[]
  cf := some (fileOf pool0 8 #[] #[{ accessFlags := 1, nameIndex := 5, descriptorIndex := 6, attributes := #[] }] 33 0 #[] #[])
  fields := #[]
  methods := #[k0m0]
  instanceTypes := #[]
  staticTypes := #[]
  resolved := Array.replicate 124 none
  statics := none }

def pool1 : Array CpInfo := pool [(2, .class_ 4), (1, u "java/lang/Object"), (0, u "<init>"), (0, u "()V"), (0, .methodref 8 9), (0, .class_ 10), (0, .nameAndType 11 12), (0, u "com/example/lacuna/lacuna/engine/Messages"), (0, u "shortEscape"), (0, u "(C)Ljava/lang/String;"), (0, .methodref 14 15), (0, .class_ 16), (0, .nameAndType 17 18), (0, u "java/lang/String"), (0, u "length"), (0, u "()I"), (0, .methodref 14 20), (0, .nameAndType 21 22), (0, u "charAt"), (0, u "(I)C"), (0, .class_ 24), (0, u "com/example/lacuna/lacuna/engine/MessagesShortEscapePinLaw"), (2, u "law"), (0, u "(II)Z")] 3

def k1m0 : Method := { name := "<init>", desc := "()V", sig := { parameters := [], returnType := none }, accessFlags := 2, code := none }
def k1c1 : Code := { maxStack := 2, maxLocals := 7, code := code, exceptionTable := #[], attributes := #[] }
def k1m1 : Method := { name := "law", desc := "(II)Z", sig := { parameters := [.int, .int], returnType := some .boolean }, accessFlags := 9, code := some k1c1 }
/-- com/example/lacuna/lacuna/engine/MessagesShortEscapePinLaw -/
def k1 : Class := { plain "com/example/lacuna/lacuna/engine/MessagesShortEscapePinLaw" (some 0) with
  accessFlags := 49
  interfaces := #[]
  cf := some (fileOf pool1 23 #[] #[{ accessFlags := 2, nameIndex := 5, descriptorIndex := 6, attributes := #[] }, { accessFlags := 9, nameIndex := 27, descriptorIndex := 28, attributes := #[] }] 49 2 #[] #[])
  fields := #[]
  methods := #[k1m0, k1m1]
  instanceTypes := #[]
  staticTypes := #[]
  resolved := Array.replicate 32 none
  statics := none }

def pool2 : Array CpInfo := pool [(2, .class_ 4), (1, u "java/lang/Object"), (0, u "<init>"), (0, u "()V"), (16, .class_ 25), (1, u "com/example/lacuna/lacuna/engine/Messages"), (0, u "shortEscape"), (0, u "(C)Ljava/lang/String;"), (27, .string 56), (0, u "\\t"), (0, .string 58), (0, u "\\n"), (0, .string 60), (0, u "\\r")] 13

def k2m0 : Method := { name := "<init>", desc := "()V", sig := { parameters := [], returnType := none }, accessFlags := 2, code := none }
def k2c1 : Code := { maxStack := 1, maxLocals := 1, code := prog_17_method_3_code, exceptionTable := #[], attributes := #[] }
def k2m1 : Method := { name := "shortEscape", desc := "(C)Ljava/lang/String;", sig := { parameters := [.char], returnType := some (.object "java/lang/String") }, accessFlags := 9, code := some k2c1 }
/-- com/example/lacuna/lacuna/engine/Messages -/
def k2 : Class := { plain "com/example/lacuna/lacuna/engine/Messages" (some 0) with
  accessFlags := 49
  interfaces := #[]
  cf := some (fileOf pool2 23 #[] #[{ accessFlags := 2, nameIndex := 5, descriptorIndex := 6, attributes := #[] }, { accessFlags := 9, nameIndex := 26, descriptorIndex := 27, attributes := #[] }] 49 2 #[] #[])
  fields := #[]
  methods := #[k2m0, k2m1]
  instanceTypes := #[]
  staticTypes := #[]
  resolved := Array.replicate 74 none
  statics := none }

def pool3 : Array CpInfo := pool [(1, .class_ 2), (0, u "java/io/Serializable"), (0, .class_ 4), (0, u "java/lang/Object")] 2

/-- java/io/Serializable -/
def k3 : Class := { plain "java/io/Serializable" (some 0) with
  accessFlags := 1537
  interfaces := #[]
  cf := some (fileOf pool3 1 #[] #[] 1537 3 #[] #[])
  fields := #[]
  methods := #[]
  instanceTypes := #[]
  staticTypes := #[]
  resolved := Array.replicate 7 none
  statics := none }

def pool4 : Array CpInfo := pool [(1, .class_ 2), (0, u "java/lang/Comparable"), (0, .class_ 4), (0, u "java/lang/Object")] 7

/-- java/lang/Comparable -/
def k4 : Class := { plain "java/lang/Comparable" (some 0) with
  accessFlags := 1537
  interfaces := #[]
  cf := some (fileOf pool4 1 #[] #[] 1537 3 #[] #[])
  fields := #[]
  methods := #[]
  instanceTypes := #[]
  staticTypes := #[]
  resolved := Array.replicate 12 none
  statics := none }

def pool5 : Array CpInfo := pool [(2, .class_ 4), (1, u "java/lang/CharSequence"), (42, .class_ 48), (0, u "java/lang/CharSequence$1CodePointIterator"), (10, .class_ 60), (0, u "java/lang/CharSequence$1CharIterator"), (5, .class_ 67), (0, u "java/lang/Object")] 63

/-- java/lang/CharSequence -/
def k5 : Class := { plain "java/lang/CharSequence" (some 0) with
  accessFlags := 1537
  interfaces := #[]
  cf := some (fileOf pool5 2 #[.nestMembers #[47, 59]] #[] 1537 66 #[] #[])
  fields := #[]
  methods := #[]
  instanceTypes := #[]
  staticTypes := #[]
  resolved := Array.replicate 131 none
  statics := none }

def pool6 : Array CpInfo := pool [(1, .class_ 2), (0, u "java/lang/constant/Constable"), (0, .class_ 4), (0, u "java/lang/Object")] 6

/-- java/lang/constant/Constable -/
def k6 : Class := { plain "java/lang/constant/Constable" (some 0) with
  accessFlags := 1537
  interfaces := #[]
  cf := some (fileOf pool6 1 #[] #[] 1537 3 #[] #[])
  fields := #[]
  methods := #[]
  instanceTypes := #[]
  staticTypes := #[]
  resolved := Array.replicate 11 none
  statics := none }

def pool7 : Array CpInfo := pool [(1, .class_ 2), (0, u "java/lang/constant/ConstantDesc"), (0, .class_ 4), (0, u "java/lang/Object")] 32

/-- java/lang/constant/ConstantDesc -/
def k7 : Class := { plain "java/lang/constant/ConstantDesc" (some 0) with
  accessFlags := 1537
  interfaces := #[]
  cf := some (fileOf pool7 1 #[] #[] 1537 3 #[] #[])
  fields := #[]
  methods := #[]
  instanceTypes := #[]
  staticTypes := #[]
  resolved := Array.replicate 37 none
  statics := none }

def pool8 : Array CpInfo := pool [(2, .class_ 4), (1, u "java/lang/Object"), (0, u "<init>"), (0, u "()V"), (2, .fieldref 10 11), (0, .class_ 12), (0, .nameAndType 13 14), (0, u "java/lang/String"), (0, u "value"), (0, u "[B"), (0, .fieldref 10 16), (0, .nameAndType 17 18), (0, u "coder"), (0, u "B"), (2, u "hash"), (0, u "I"), (2, u "hashIsZero"), (0, u "Z"), (11, .fieldref 10 39), (0, .nameAndType 40 26), (0, u "COMPACT_STRINGS"), (66, .class_ 109), (1, u "java/lang/StringLatin1"), (32, u "()Z"), (191, u "()I"), (0, .methodref 10 336), (0, .nameAndType 17 337), (0, u "()B"), (25, u "([BI)C"), (27, u "(II)V"), (35, u "(I)C"), (64, .methodref 10 493), (0, .nameAndType 494 142), (0, u "isLatin1"), (0, .methodref 107 496), (0, .nameAndType 497 363), (0, u "charAt"), (3, u "checkIndex"), (5, u "length"), (67, .class_ 576), (0, u "java/lang/CharSequence"), (22, u "CASE_INSENSITIVE_ORDER"), (0, u "Ljava/util/Comparator;"), (452, .fieldref 1054 1055), (0, .class_ 1056), (0, .nameAndType 1057 1058), (0, u "jdk/internal/util/Preconditions"), (0, u "SIOOBE_FORMATTER"), (0, u "Ljava/util/function/BiFunction;"), (0, .methodref 1054 1060), (0, .nameAndType 501 1061), (0, u "(IILjava/util/function/BiFunction;)I"), (39, u "serialPersistentFields"), (0, u "[Ljava/io/ObjectStreamField;"), (0, .class_ 1104), (0, u "java/lang/String$CaseInsensitiveComparator"), (1, .class_ 1107), (0, u "java/io/Serializable"), (0, .class_ 1109), (0, u "java/lang/Comparable"), (0, .class_ 1111), (0, u "java/lang/constant/Constable"), (0, .class_ 1113), (0, u "java/lang/constant/ConstantDesc"), (2, u "serialVersionUID"), (0, u "J"), (3, u "REPL"), (0, u "C"), (2, u "LATIN1"), (1, u "UTF16")] 323

def k8m0 : Method := { name := "<init>", desc := "()V", sig := { parameters := [], returnType := none }, accessFlags := 1, code := none }
def k8c1 : Code := { maxStack := 2, maxLocals := 1, code := jdk_42_method_54_code, exceptionTable := #[], attributes := #[] }
def k8m1 : Method := { name := "length", desc := "()I", sig := { parameters := [], returnType := some .int }, accessFlags := 1, code := some k8c1 }
def k8c2 : Code := { maxStack := 2, maxLocals := 2, code := jdk_42_method_56_code, exceptionTable := #[], attributes := #[] }
def k8m2 : Method := { name := "charAt", desc := "(I)C", sig := { parameters := [.int], returnType := some .char }, accessFlags := 1, code := some k8c2 }
def k8c3 : Code := { maxStack := 1, maxLocals := 1, code := jdk_42_method_152_code, exceptionTable := #[], attributes := #[] }
def k8m3 : Method := { name := "coder", desc := "()B", sig := { parameters := [], returnType := some .byte }, accessFlags := 0, code := some k8c3 }
def k8c4 : Code := { maxStack := 1, maxLocals := 1, code := jdk_42_method_154_code, exceptionTable := #[], attributes := #[] }
def k8m4 : Method := { name := "isLatin1", desc := "()Z", sig := { parameters := [], returnType := some .boolean }, accessFlags := 0, code := some k8c4 }
def k8c5 : Code := { maxStack := 3, maxLocals := 2, code := jdk_42_method_155_code, exceptionTable := #[], attributes := #[] }
def k8m5 : Method := { name := "checkIndex", desc := "(II)V", sig := { parameters := [.int, .int], returnType := none }, accessFlags := 8, code := some k8c5 }
/-- java/lang/String -/
def k8 : Class := { plain "java/lang/String" (some 0) with
  accessFlags := 49
  interfaces := #[3, 4, 5, 6, 7]
  cf := some (fileOf pool8 10 #[.nestMembers #[1103]] #[{ accessFlags := 1, nameIndex := 5, descriptorIndex := 6, attributes := #[] }, { accessFlags := 1, nameIndex := 507, descriptorIndex := 334, attributes := #[] }, { accessFlags := 1, nameIndex := 497, descriptorIndex := 427, attributes := #[] }, { accessFlags := 0, nameIndex := 17, descriptorIndex := 337, attributes := #[] }, { accessFlags := 0, nameIndex := 494, descriptorIndex := 142, attributes := #[] }, { accessFlags := 8, nameIndex := 501, descriptorIndex := 391, attributes := #[] }] 49 2 #[1106, 1108, 575, 1110, 1112] #[{ accessFlags := 18, nameIndex := 13, descriptorIndex := 14, attributes := #[] }, { accessFlags := 18, nameIndex := 17, descriptorIndex := 18, attributes := #[] }, { accessFlags := 2, nameIndex := 21, descriptorIndex := 22, attributes := #[] }, { accessFlags := 2, nameIndex := 25, descriptorIndex := 26, attributes := #[] }, { accessFlags := 26, nameIndex := 1116, descriptorIndex := 1117, attributes := #[] }, { accessFlags := 24, nameIndex := 40, descriptorIndex := 26, attributes := #[] }, { accessFlags := 26, nameIndex := 1101, descriptorIndex := 1102, attributes := #[] }, { accessFlags := 26, nameIndex := 1121, descriptorIndex := 1122, attributes := #[] }, { accessFlags := 25, nameIndex := 599, descriptorIndex := 600, attributes := #[] }, { accessFlags := 24, nameIndex := 1125, descriptorIndex := 18, attributes := #[] }, { accessFlags := 24, nameIndex := 1127, descriptorIndex := 18, attributes := #[] }])
  fields := #[{ name := "value", type := (.array .byte), accessFlags := 18, slot := 0, constantValue := 0 }, { name := "coder", type := .byte, accessFlags := 18, slot := 1, constantValue := 0 }, { name := "hash", type := .int, accessFlags := 2, slot := 2, constantValue := 0 }, { name := "hashIsZero", type := .boolean, accessFlags := 2, slot := 3, constantValue := 0 }, { name := "serialVersionUID", type := .long, accessFlags := 26, slot := 0, constantValue := 0 }, { name := "COMPACT_STRINGS", type := .boolean, accessFlags := 24, slot := 1, constantValue := 0 }, { name := "serialPersistentFields", type := (.array (.object "java/io/ObjectStreamField")), accessFlags := 26, slot := 2, constantValue := 0 }, { name := "REPL", type := .char, accessFlags := 26, slot := 3, constantValue := 0 }, { name := "CASE_INSENSITIVE_ORDER", type := (.object "java/util/Comparator"), accessFlags := 25, slot := 4, constantValue := 0 }, { name := "LATIN1", type := .byte, accessFlags := 24, slot := 5, constantValue := 0 }, { name := "UTF16", type := .byte, accessFlags := 24, slot := 6, constantValue := 0 }]
  methods := #[k8m0, k8m1, k8m2, k8m3, k8m4, k8m5]
  instanceTypes := #[(.array .byte), .byte, .int, .boolean]
  staticTypes := #[.long, .boolean, (.array (.object "java/io/ObjectStreamField")), .char, (.object "java/util/Comparator"), .byte, .byte]
  resolved := Array.replicate 1451 none
  statics := some 0 }

def pool9 : Array CpInfo := pool [(1, .class_ 2), (0, u "java/lang/String"), (1, .class_ 6), (1, u "java/lang/Object"), (0, u "<init>"), (0, u "()V"), (0, .methodref 1 10), (0, .nameAndType 11 12), (0, u "checkIndex"), (0, u "(II)V"), (1, .class_ 16), (1, u "java/lang/StringLatin1"), (36, u "([BI)C"), (67, u "$assertionsDisabled"), (0, u "Z"), (98, .class_ 223), (1, u "java/lang/StringLatin1$LinesSpliterator"), (28, u "charAt"), (137, .class_ 391), (0, u "java/lang/StringLatin1$CharsSpliterator")] 3

def k9m0 : Method := { name := "<init>", desc := "()V", sig := { parameters := [], returnType := none }, accessFlags := 0, code := none }
def k9c1 : Code := { maxStack := 2, maxLocals := 2, code := jdk_43_method_2_code, exceptionTable := #[], attributes := #[] }
def k9m1 : Method := { name := "charAt", desc := "([BI)C", sig := { parameters := [(.array .byte), .int], returnType := some .char }, accessFlags := 9, code := some k9c1 }
/-- java/lang/StringLatin1 -/
def k9 : Class := { plain "java/lang/StringLatin1" (some 0) with
  accessFlags := 48
  interfaces := #[]
  cf := some (fileOf pool9 14 #[.nestMembers #[390, 221]] #[{ accessFlags := 0, nameIndex := 7, descriptorIndex := 8, attributes := #[] }, { accessFlags := 9, nameIndex := 252, descriptorIndex := 53, attributes := #[] }] 48 4 #[] #[{ accessFlags := 4120, nameIndex := 121, descriptorIndex := 122, attributes := #[] }])
  fields := #[{ name := "$assertionsDisabled", type := .boolean, accessFlags := 4120, slot := 0, constantValue := 0 }]
  methods := #[k9m0, k9m1]
  instanceTypes := #[]
  staticTypes := #[.boolean]
  resolved := Array.replicate 395 none
  statics := none }

def pool10 : Array CpInfo := pool [(2, .class_ 4), (1, u "java/lang/Object"), (0, u "<init>"), (0, u "()V"), (17, .class_ 26), (1, u "jdk/internal/util/Preconditions"), (6, u "checkIndex"), (21, .class_ 56), (0, u "jdk/internal/util/Preconditions$4"), (57, .class_ 115), (0, u "jdk/internal/util/Preconditions$1"), (7, u "SIOOBE_FORMATTER"), (0, u "Ljava/util/function/BiFunction;"), (0, .class_ 126), (0, u "jdk/internal/util/Preconditions$2"), (3, u "AIOOBE_FORMATTER"), (0, .class_ 132), (0, u "jdk/internal/util/Preconditions$3"), (3, u "IOOBE_FORMATTER"), (41, u "(IILjava/util/function/BiFunction;)I")] 15

def k10m0 : Method := { name := "<init>", desc := "()V", sig := { parameters := [], returnType := none }, accessFlags := 1, code := none }
def k10c1 : Code := { maxStack := 3, maxLocals := 3, code := jdk_41_method_11_code, exceptionTable := #[], attributes := #[] }
def k10m1 : Method := { name := "checkIndex", desc := "(IILjava/util/function/BiFunction;)I", sig := { parameters := [.int, .int, (.object "java/util/function/BiFunction")], returnType := some .int }, accessFlags := 9, code := some k10c1 }
/-- jdk/internal/util/Preconditions -/
def k10 : Class := { plain "jdk/internal/util/Preconditions" (some 0) with
  accessFlags := 33
  interfaces := #[]
  cf := some (fileOf pool10 24 #[.nestMembers #[55, 131, 125, 114]] #[{ accessFlags := 1, nameIndex := 5, descriptorIndex := 6, attributes := #[] }, { accessFlags := 9, nameIndex := 33, descriptorIndex := 178, attributes := #[] }] 33 2 #[] #[{ accessFlags := 25, nameIndex := 123, descriptorIndex := 124, attributes := #[] }, { accessFlags := 25, nameIndex := 130, descriptorIndex := 124, attributes := #[] }, { accessFlags := 25, nameIndex := 136, descriptorIndex := 124, attributes := #[] }])
  fields := #[{ name := "SIOOBE_FORMATTER", type := (.object "java/util/function/BiFunction"), accessFlags := 25, slot := 0, constantValue := 0 }, { name := "AIOOBE_FORMATTER", type := (.object "java/util/function/BiFunction"), accessFlags := 25, slot := 1, constantValue := 0 }, { name := "IOOBE_FORMATTER", type := (.object "java/util/function/BiFunction"), accessFlags := 25, slot := 2, constantValue := 0 }]
  methods := #[k10m0, k10m1]
  instanceTypes := #[]
  staticTypes := #[(.object "java/util/function/BiFunction"), (.object "java/util/function/BiFunction"), (.object "java/util/function/BiFunction")]
  resolved := Array.replicate 194 none
  statics := some 1 }

def pool11 : Array CpInfo := pool [(9, u "<init>"), (6, .class_ 18), (1, u "java/lang/Object"), (0, u "()V"), (1, .class_ 23), (1, u "jdk/internal/util/ArraysSupport"), (0, u "LOG2_ARRAY_LONG_INDEX_SCALE"), (0, u "I"), (2, u "U"), (0, u "Ljdk/internal/misc/Unsafe;"), (8, u "BIG_ENDIAN"), (0, u "Z"), (8, u "LOG2_BYTE_BIT_SIZE"), (4, u "LOG2_ARRAY_INT_INDEX_SCALE"), (54, u "JLA"), (0, u "Ljdk/internal/access/JavaLangAccess;"), (11, u "LOG2_ARRAY_BOOLEAN_INDEX_SCALE"), (9, u "LOG2_ARRAY_BYTE_INDEX_SCALE"), (5, u "LOG2_ARRAY_CHAR_INDEX_SCALE"), (5, u "LOG2_ARRAY_SHORT_INDEX_SCALE"), (18, u "LOG2_ARRAY_FLOAT_INDEX_SCALE"), (24, u "LOG2_ARRAY_DOUBLE_INDEX_SCALE"), (89, u "T_BOOLEAN"), (2, u "T_CHAR"), (1, u "T_FLOAT"), (1, u "T_DOUBLE"), (1, u "T_BYTE"), (1, u "T_SHORT"), (1, u "T_INT"), (1, u "T_LONG"), (1, u "SOFT_MAX_ARRAY_LENGTH")] 83

def k11m0 : Method := { name := "<init>", desc := "()V", sig := { parameters := [], returnType := none }, accessFlags := 2, code := none }
/-- jdk/internal/util/ArraysSupport -/
def k11 : Class := { plain "jdk/internal/util/ArraysSupport" (some 0) with
  accessFlags := 33
  interfaces := #[]
  cf := some (fileOf pool11 21 #[] #[{ accessFlags := 2, nameIndex := 9, descriptorIndex := 19, attributes := #[] }] 33 16 #[] #[{ accessFlags := 24, nameIndex := 28, descriptorIndex := 29, attributes := #[] }, { accessFlags := 26, nameIndex := 38, descriptorIndex := 39, attributes := #[] }, { accessFlags := 25, nameIndex := 121, descriptorIndex := 25, attributes := #[] }, { accessFlags := 25, nameIndex := 131, descriptorIndex := 25, attributes := #[] }, { accessFlags := 25, nameIndex := 137, descriptorIndex := 25, attributes := #[] }, { accessFlags := 25, nameIndex := 143, descriptorIndex := 25, attributes := #[] }, { accessFlags := 25, nameIndex := 53, descriptorIndex := 25, attributes := #[] }, { accessFlags := 25, nameIndex := 24, descriptorIndex := 25, attributes := #[] }, { accessFlags := 25, nameIndex := 162, descriptorIndex := 25, attributes := #[] }, { accessFlags := 25, nameIndex := 187, descriptorIndex := 25, attributes := #[] }, { accessFlags := 26, nameIndex := 48, descriptorIndex := 25, attributes := #[] }, { accessFlags := 25, nameIndex := 277, descriptorIndex := 25, attributes := #[] }, { accessFlags := 25, nameIndex := 280, descriptorIndex := 25, attributes := #[] }, { accessFlags := 25, nameIndex := 282, descriptorIndex := 25, attributes := #[] }, { accessFlags := 25, nameIndex := 284, descriptorIndex := 25, attributes := #[] }, { accessFlags := 25, nameIndex := 286, descriptorIndex := 25, attributes := #[] }, { accessFlags := 25, nameIndex := 288, descriptorIndex := 25, attributes := #[] }, { accessFlags := 25, nameIndex := 290, descriptorIndex := 25, attributes := #[] }, { accessFlags := 25, nameIndex := 292, descriptorIndex := 25, attributes := #[] }, { accessFlags := 26, nameIndex := 108, descriptorIndex := 109, attributes := #[] }, { accessFlags := 25, nameIndex := 294, descriptorIndex := 25, attributes := #[] }])
  fields := #[{ name := "U", type := (.object "jdk/internal/misc/Unsafe"), accessFlags := 24, slot := 0, constantValue := 0 }, { name := "BIG_ENDIAN", type := .boolean, accessFlags := 26, slot := 1, constantValue := 0 }, { name := "LOG2_ARRAY_BOOLEAN_INDEX_SCALE", type := .int, accessFlags := 25, slot := 2, constantValue := 0 }, { name := "LOG2_ARRAY_BYTE_INDEX_SCALE", type := .int, accessFlags := 25, slot := 3, constantValue := 0 }, { name := "LOG2_ARRAY_CHAR_INDEX_SCALE", type := .int, accessFlags := 25, slot := 4, constantValue := 0 }, { name := "LOG2_ARRAY_SHORT_INDEX_SCALE", type := .int, accessFlags := 25, slot := 5, constantValue := 0 }, { name := "LOG2_ARRAY_INT_INDEX_SCALE", type := .int, accessFlags := 25, slot := 6, constantValue := 0 }, { name := "LOG2_ARRAY_LONG_INDEX_SCALE", type := .int, accessFlags := 25, slot := 7, constantValue := 0 }, { name := "LOG2_ARRAY_FLOAT_INDEX_SCALE", type := .int, accessFlags := 25, slot := 8, constantValue := 0 }, { name := "LOG2_ARRAY_DOUBLE_INDEX_SCALE", type := .int, accessFlags := 25, slot := 9, constantValue := 0 }, { name := "LOG2_BYTE_BIT_SIZE", type := .int, accessFlags := 26, slot := 10, constantValue := 0 }, { name := "T_BOOLEAN", type := .int, accessFlags := 25, slot := 11, constantValue := 0 }, { name := "T_CHAR", type := .int, accessFlags := 25, slot := 12, constantValue := 0 }, { name := "T_FLOAT", type := .int, accessFlags := 25, slot := 13, constantValue := 0 }, { name := "T_DOUBLE", type := .int, accessFlags := 25, slot := 14, constantValue := 0 }, { name := "T_BYTE", type := .int, accessFlags := 25, slot := 15, constantValue := 0 }, { name := "T_SHORT", type := .int, accessFlags := 25, slot := 16, constantValue := 0 }, { name := "T_INT", type := .int, accessFlags := 25, slot := 17, constantValue := 0 }, { name := "T_LONG", type := .int, accessFlags := 25, slot := 18, constantValue := 0 }, { name := "JLA", type := (.object "jdk/internal/access/JavaLangAccess"), accessFlags := 26, slot := 19, constantValue := 0 }, { name := "SOFT_MAX_ARRAY_LENGTH", type := .int, accessFlags := 25, slot := 20, constantValue := 0 }]
  methods := #[k11m0]
  instanceTypes := #[]
  staticTypes := #[(.object "jdk/internal/misc/Unsafe"), .boolean, .int, .int, .int, .int, .int, .int, .int, .int, .int, .int, .int, .int, .int, .int, .int, .int, .int, (.object "jdk/internal/access/JavaLangAccess"), .int]
  resolved := Array.replicate 378 none
  statics := none }

def pool12 : Array CpInfo := pool [(1, u "java/lang/Cloneable"), (0, .class_ 1), (0, u "java/lang/Object"), (0, .class_ 3)] 3

/-- java/lang/Cloneable -/
def k12 : Class := { plain "java/lang/Cloneable" (some 0) with
  accessFlags := 1537
  interfaces := #[]
  cf := some (fileOf pool12 2 #[] #[] 1537 4 #[] #[])
  fields := #[]
  methods := #[]
  instanceTypes := #[]
  staticTypes := #[]
  resolved := Array.replicate 8 none
  statics := none }

/-- the primitive byte -/
def k13 : Class := { plain "byte" none with kind := .primitive 'B', accessFlags := 0x411 }
/-- [B -/
def k14 : Class := { plain "[B" (some 0) with kind := .array 13 .byte, interfaces := #[12, 3], accessFlags := 1041 }

/-- the primitive int -/
def k15 : Class := { plain "int" none with kind := .primitive 'I', accessFlags := 0x411 }
/-- [I -/
def k16 : Class := { plain "[I" (some 0) with kind := .array 15 .int, interfaces := #[12, 3], accessFlags := 1041 }

def heap : Heap := #[{ cls := 8, slots := #[.long 0, .int 1, .null, .int 0, .null, .int 0, .int 0], vm := .statics 8 },
  { cls := 10, slots := #[.null, .null, .null], vm := .statics 10 }]
def classes : Array Class := #[k0, k1, k2, k3, k4, k5, k6, k7, k8, k9, k10, k11, k12, k13, k14, k15, k16]
def interned : List (Array UInt16 × Addr) := []
def slotsUsed : Nat := 10
def theMethod : MethodId := ⟨1, 1⟩
def args0 : Array Value := #[.int 5, .int 7]
def aboutOver (below : List Frame) : State where
  vm := { classes := classes, interned := interned.toArray }
  heap := heap
  slotsUsed := slotsUsed
  threads := #[{ frames := .invoking theMethod args0 :: below }]
def below0 : List Frame := [.native { method := ⟨0, 0⟩, args := #[] }]
def about1 : State := aboutOver below0
def p0 : Program := .bare "" "" ""
def e0 : Env := launch0.env 0 0 0
theorem w_frames : about1.frames = Frame.invoking theMethod args0 :: below0 := rfl
set_option maxRecDepth 65536 in
theorem w_args : argsFit about1.vm theMethod args0 = true := by decide +kernel
set_option maxRecDepth 65536 in
theorem w_heap : heapFits about1 = true := by decide +kernel
set_option maxRecDepth 65536 in
theorem w_runnable : about1.curStatus? = some .runnable := by decide +kernel
set_option maxRecDepth 65536 in
theorem w_alone : about1.alone = true := by decide +kernel
set_option maxRecDepth 65536 in
theorem w_named : about1.methodNamed? x = some theMethod := by decide +kernel
set_option maxRecDepth 65536 in
theorem w_hears : about1.hears theMethod below0 = true := by decide +kernel
set_option maxRecDepth 65536 in
theorem w_ripe : about1.ripe theMethod args0 below0 = true := by decide +kernel
theorem w_running : about1.status = .running := rfl
set_option maxRecDepth 65536 in
theorem w_room : about1.hasRoom e0.platform room_1 = true :=
  launch0.hasRoom_least _ room_1 (by decide +kernel) (by decide +kernel) (by decide +kernel) (by decide +kernel) (by decide +kernel) (by decide +kernel)
theorem allAtoms_all (ts : List Jvm.Cond) (a : Array Jvm.Value) (st : Jvm.State) : (allAtoms ts).before a st = ts.all (fun c => c.before a st) := by
  induction ts with
  | nil => rfl
  | cons c t ih =>
    show (Jvm.Cond.and c (allAtoms t)).before a st = _
    rw [Jvm.Cond.before_and, ih, List.all_cons]
def words1 : List Jvm.Cond := Jvm.Cond.code x code maxLocals ret :: tables_1
/-- a 'code' word, met by the world's own term for the bytes: nothing is compared byte by byte -/
theorem code_word {y : MethodName} {bytes : ByteArray} {mx : Nat} {rt : Option FieldType} {a : Array Value} {s : State} {m : MethodId} {meth : Method} {c : Code} (h1 : s.methodNamed? y = some m) (h2 : s.vm.method? m = some meth) (h3 : meth.code = some c) (h4 : c.code = bytes)
    (h5 : (c.maxLocals == mx && c.exceptionTable.isEmpty && decide (c.maxStack ≤ mostOperands) && decide (meth.sig.returnType = rt) && !meth.locks && decide (parseMethodDescriptor y.desc = some meth.sig)) = true) : (Jvm.Cond.code y bytes mx rt).before a s = true := by
  simp only [Bool.and_eq_true, beq_iff_eq, Bool.not_eq_true', decide_eq_true_eq] at h5
  obtain ⟨⟨⟨⟨⟨g1, g2⟩, g3⟩, g4⟩, g5⟩, g6⟩ := h5
  simp [Cond.before, Cond.holds, Cond.value, h1, h2, h3, h4, g1, g2, g3, g4, g5, g6]
def isCode : Jvm.Cond → Bool
  | .code _ _ _ _ => true
  | _ => false
theorem all_split {L : List Jvm.Cond} {P : Jvm.Cond → Bool} (h1 : L.all (fun c => isCode c || P c) = true) (h2 : ∀ c ∈ L.filter isCode, P c = true) : L.all P = true := by
  refine List.all_eq_true.mpr fun c hc => ?_
  have h := List.all_eq_true.mp h1 c hc
  rcases Bool.eq_false_or_eq_true (isCode c) with hi | hi
  · exact h2 c (List.mem_filter.mpr ⟨hc, hi⟩)
  · simpa [hi] using h
set_option maxRecDepth 65536 in
theorem w_c0 : (Jvm.Cond.code x code maxLocals ret).before args0 about1 = true := code_word (m := ⟨1, 1⟩) (meth := k1m1) (c := k1c1) (by decide +kernel) rfl rfl rfl (by decide +kernel)
set_option maxRecDepth 65536 in
theorem w_c1 : (Jvm.Cond.code ({ cls := "com/example/lacuna/lacuna/engine/Messages", name := "shortEscape", desc := "(C)Ljava/lang/String;" } : Jvm.MethodName) prog_17_method_3_code (1 : Nat) (Option.some (Jvm.ClassFile.FieldType.object "java/lang/String"))).before args0 about1 = true := code_word (m := ⟨2, 1⟩) (meth := k2m1) (c := k2c1) (by decide +kernel) rfl rfl rfl (by decide +kernel)
set_option maxRecDepth 65536 in
theorem w_c2 : (Jvm.Cond.code ({ cls := "java/lang/String", name := "length", desc := "()I" } : Jvm.MethodName) jdk_42_method_54_code (1 : Nat) (Option.some Jvm.ClassFile.FieldType.int)).before args0 about1 = true := code_word (m := ⟨8, 1⟩) (meth := k8m1) (c := k8c1) (by decide +kernel) rfl rfl rfl (by decide +kernel)
set_option maxRecDepth 65536 in
theorem w_c3 : (Jvm.Cond.code ({ cls := "java/lang/String", name := "coder", desc := "()B" } : Jvm.MethodName) jdk_42_method_152_code (1 : Nat) (Option.some Jvm.ClassFile.FieldType.byte)).before args0 about1 = true := code_word (m := ⟨8, 3⟩) (meth := k8m3) (c := k8c3) (by decide +kernel) rfl rfl rfl (by decide +kernel)
set_option maxRecDepth 65536 in
theorem w_c4 : (Jvm.Cond.code ({ cls := "java/lang/String", name := "charAt", desc := "(I)C" } : Jvm.MethodName) jdk_42_method_56_code (2 : Nat) (Option.some Jvm.ClassFile.FieldType.char)).before args0 about1 = true := code_word (m := ⟨8, 2⟩) (meth := k8m2) (c := k8c2) (by decide +kernel) rfl rfl rfl (by decide +kernel)
set_option maxRecDepth 65536 in
theorem w_c5 : (Jvm.Cond.code ({ cls := "java/lang/String", name := "isLatin1", desc := "()Z" } : Jvm.MethodName) jdk_42_method_154_code (1 : Nat) (Option.some Jvm.ClassFile.FieldType.boolean)).before args0 about1 = true := code_word (m := ⟨8, 4⟩) (meth := k8m4) (c := k8c4) (by decide +kernel) rfl rfl rfl (by decide +kernel)
set_option maxRecDepth 65536 in
theorem w_c6 : (Jvm.Cond.code ({ cls := "java/lang/StringLatin1", name := "charAt", desc := "([BI)C" } : Jvm.MethodName) jdk_43_method_2_code (2 : Nat) (Option.some Jvm.ClassFile.FieldType.char)).before args0 about1 = true := code_word (m := ⟨9, 1⟩) (meth := k9m1) (c := k9c1) (by decide +kernel) rfl rfl rfl (by decide +kernel)
set_option maxRecDepth 65536 in
theorem w_c7 : (Jvm.Cond.code ({ cls := "java/lang/String", name := "checkIndex", desc := "(II)V" } : Jvm.MethodName) jdk_42_method_155_code (2 : Nat) (Option.none : Option Jvm.ClassFile.FieldType)).before args0 about1 = true := code_word (m := ⟨8, 5⟩) (meth := k8m5) (c := k8c5) (by decide +kernel) rfl rfl rfl (by decide +kernel)
set_option maxRecDepth 65536 in
theorem w_c8 : (Jvm.Cond.code ({ cls := "jdk/internal/util/Preconditions", name := "checkIndex", desc := "(IILjava/util/function/BiFunction;)I" } : Jvm.MethodName) jdk_41_method_11_code (3 : Nat) (Option.some Jvm.ClassFile.FieldType.int)).before args0 about1 = true := code_word (m := ⟨10, 1⟩) (meth := k10m1) (c := k10c1) (by decide +kernel) rfl rfl rfl (by decide +kernel)
def codes1 : List Jvm.Cond := [Jvm.Cond.code x code maxLocals ret, Jvm.Cond.code ({ cls := "com/example/lacuna/lacuna/engine/Messages", name := "shortEscape", desc := "(C)Ljava/lang/String;" } : Jvm.MethodName) prog_17_method_3_code (1 : Nat) (Option.some (Jvm.ClassFile.FieldType.object "java/lang/String")), Jvm.Cond.code ({ cls := "java/lang/String", name := "length", desc := "()I" } : Jvm.MethodName) jdk_42_method_54_code (1 : Nat) (Option.some Jvm.ClassFile.FieldType.int), Jvm.Cond.code ({ cls := "java/lang/String", name := "coder", desc := "()B" } : Jvm.MethodName) jdk_42_method_152_code (1 : Nat) (Option.some Jvm.ClassFile.FieldType.byte), Jvm.Cond.code ({ cls := "java/lang/String", name := "charAt", desc := "(I)C" } : Jvm.MethodName) jdk_42_method_56_code (2 : Nat) (Option.some Jvm.ClassFile.FieldType.char), Jvm.Cond.code ({ cls := "java/lang/String", name := "isLatin1", desc := "()Z" } : Jvm.MethodName) jdk_42_method_154_code (1 : Nat) (Option.some Jvm.ClassFile.FieldType.boolean), Jvm.Cond.code ({ cls := "java/lang/StringLatin1", name := "charAt", desc := "([BI)C" } : Jvm.MethodName) jdk_43_method_2_code (2 : Nat) (Option.some Jvm.ClassFile.FieldType.char), Jvm.Cond.code ({ cls := "java/lang/String", name := "checkIndex", desc := "(II)V" } : Jvm.MethodName) jdk_42_method_155_code (2 : Nat) (Option.none : Option Jvm.ClassFile.FieldType), Jvm.Cond.code ({ cls := "jdk/internal/util/Preconditions", name := "checkIndex", desc := "(IILjava/util/function/BiFunction;)I" } : Jvm.MethodName) jdk_41_method_11_code (3 : Nat) (Option.some Jvm.ClassFile.FieldType.int)]
set_option maxRecDepth 65536 in
theorem codes_eq : words1.filter isCode = codes1 := rfl
theorem w_codes : ∀ c ∈ words1.filter isCode, c.before args0 about1 = true := by
  rw [codes_eq]
  intro c hc
  simp only [codes1, List.mem_cons, List.not_mem_nil, or_false] at hc
  rcases hc with rfl | rfl | rfl | rfl | rfl | rfl | rfl | rfl | rfl
  · exact w_c0
  · exact w_c1
  · exact w_c2
  · exact w_c3
  · exact w_c4
  · exact w_c5
  · exact w_c6
  · exact w_c7
  · exact w_c8
set_option maxRecDepth 65536 in
theorem w_t1 : (words1.take 24).all (fun c => isCode c || c.before args0 about1) = true := by decide +kernel
set_option maxRecDepth 65536 in
theorem w_t2 : ((words1.drop 24).take 24).all (fun c => isCode c || c.before args0 about1) = true := by decide +kernel
set_option maxRecDepth 65536 in
theorem w_t3 : ((words1.drop 24).drop 24).all (fun c => isCode c || c.before args0 about1) = true := by decide +kernel
theorem w_tables : (allAtoms (Jvm.Cond.code x code maxLocals ret :: tables_1)).before args0 about1 = true := by
  rw [allAtoms_all]
  show words1.all (fun c => c.before args0 about1) = true
  refine all_split ?_ w_codes
  rw [← List.take_append_drop 24 words1, List.all_append, w_t1, ← List.take_append_drop 24 (words1.drop 24), List.all_append, w_t2, w_t3]
  rfl
set_option maxRecDepth 65536 in
theorem w_rest : rest_1_c.before args0 about1 = true := by decide +kernel
set_option maxRecDepth 65536 in
theorem w_case : (Jvm.Cond.and given_1 narrow_1).before args0 about1 = true := by decide +kernel
set_option maxRecDepth 65536 in
theorem w_consts : constsHeld consts_1 about1 := Jvm.Lit.constsHeldB_iff.mp (by decide +kernel)
theorem w_applies : (headSpec (Jvm.Cond.code x code maxLocals ret :: tables_1) room_1).applies x e0.platform about1 = true :=
  (Spec.applies_iff w_frames).mpr ⟨w_running, w_runnable, w_alone, w_named, w_hears, w_ripe, w_room, w_tables⟩
theorem atStart : AtStart classFile x code maxLocals ret World_1 tables_1 room_1 Calls_1 rest_1 Pre_1 launch0 p0 e0 about1 theMethod args0 below0 :=
  ⟨lists_1, trivial, launch0.admits_env _ _ _, launch0.least_env, fairChoices_fair.cas, fairChoices_fair.clock, w_frames, w_args, w_heap, w_applies, ⟨w_consts, trivial⟩, w_rest, w_case⟩
end start1
theorem witness_1 : WitnessClaimed_1 := ⟨start1.p0, start1.e0, start1.about1, start1.theMethod, start1.args0, start1.below0, start1.atStart⟩
end Jvm.Pilot.@@N@@
