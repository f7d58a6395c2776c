import JvmDerived
import JvmDerived.Pilot.@@N@@Statement
import JvmDerived.Pilot.@@N@@Code
set_option linter.unusedVariables false
set_option linter.unusedSimpArgs false

namespace Jvm.Pilot.@@N@@
open Jvm Jvm.ClassFile Sem Op Lib Jvm.Free Jvm.Stand Jvm.LawKit Jvm.RoadKit Bundle Jvm.Pilot.@@N@@.Jvm.D
/-- from S the run comes to an end of which P holds -/
abbrev Ends (tb : Tables) (e : Env) (below : List Frame) (S : State) (P : State → Outcome → Prop) : Prop := ∃ t o, Steps tb e below S t ∧ P t o
theorem own_via {tb : Tables} {e : Env} {below : List Frame} {S S' : State} {P : State → Outcome → Prop} (h : ∀ t, Steps tb e below S' t → Steps tb e below S t) (k : Ends tb e below S' P) : Ends tb e below S P := by
  obtain ⟨t, o, a, b⟩ := k
  exact ⟨t, o, h t a, b⟩
theorem own_begin {tb : Tables} {e : Env} {below : List Frame} {T : State} {g g' : JFrame} {P : State → Outcome → Prop} (q : g = g') (k : Ends tb e below (T.setTop g') P) : ∃ t o, Steps tb e below (T.setTop g) t ∧ P t o := by
  subst q
  exact k
/-- several roads come to one place -/
theorem own_join {tb : Tables} {e : Env} {below : List Frame} {S0 : State} {P : State → Outcome → Prop} {α : Type} (S : α → State) (H : α → Prop) (k1 : (∀ w, H w → Ends tb e below (S w) P) → Ends tb e below S0 P) (k2 : ∀ w, H w → Ends tb e below (S w) P) : Ends tb e below S0 P := k1 k2
theorem own_rwm {s t : State} {o : Outcome} {L : List Loc} {k n k' n' : Nat} (h : ReturnedEndW s o t L k n) (h1 : k ≤ k') (h2 : n ≤ n') : ReturnedEndW s o t L k' n' := ⟨h.1, h.2.1, h.2.2.1, h.2.2.2.mono h1 h2⟩
theorem own_narR {v : Value} {C : String} (h : v.isRef = true) : narrow (.object C) v = v := by cases v <;> first | rfl | (simp [Value.isRef] at h)
theorem own_fitR {v : Value} {C : String} (h : v.isRef = true) : fits (.object C) v = true := by cases v <;> first | rfl | (simp [Value.isRef] at h)
theorem own_catR {v : Value} (h : v.isRef = true) : v.category = 1 := by cases v <;> first | rfl | (simp [Value.isRef] at h)
theorem own_selPriv {s : State} {args : Array Value} {y z : MethodName} (hz : z.cls = y.cls) (hsel : (Jvm.Cond.selects z.cls z z).before args s = true) (hpriv : s.PrivateAt y) (hinst : (Jvm.Cond.instanceMethod y).before args s = true) (hy : y.cls ≠ "java/lang/invoke/MethodHandle" ∧ y.cls ≠ "java/lang/invoke/VarHandle") : (Jvm.Cond.selects y.cls y y).before args s = true := by
  obtain ⟨c2, r2, m2, -, -, q3, -, kP, hkP, hkPi⟩ := Cond.selects_spec hsel
  exact selects_self_of_private (hz ▸ findClass_of_methodNamed q3) hkP hkPi hpriv hinst hy
section OwnSteps
variable {tb : Tables} [Ours tb] {e : Env} {below : List Frame} {T : State} {m : MethodId} {c : Code} {P : State → Outcome → Prop} {pc pc' : Nat} {ls l' : Array Slot} {st : List Value}
theorem s_iload (h : At T m c below) (hx : tb.exec = Jvm.exec) {k : Nat} {v : Int32} (hd : decode c.code pc = .ok (.iload k, 2)) (hl : ls[k]? = some (.val (.int v))) (hp : pc + 2 = pc') (hr : Ends tb e below (T.setTop (mkF m pc' ls (.int v :: st))) P) : Ends tb e below (T.setTop (mkF m pc ls st)) P := by
  subst hp
  exact own_via (fun t_ k_ => XS.iload h hx rfl hd hl k_) hr
theorem s_istore (h : At T m c below) (hx : tb.exec = Jvm.exec) {k : Nat} {v : Int32} (hd : decode c.code pc = .ok (.istore k, 2)) (hl : storeLocals ls k (.int v) = some l') (hp : pc + 2 = pc') (hr : Ends tb e below (T.setTop (mkF m pc' l' st)) P) : Ends tb e below (T.setTop (mkF m pc ls (.int v :: st))) P := by
  subst hp
  exact own_via (fun t_ k_ => XS.istore h hx rfl hd rfl hl k_) hr
theorem s_iloadN (h : At T m c below) (hx : tb.exec = Jvm.exec) {k : Fin 4} {v : Int32} (hd : decode c.code pc = .ok (.iload_n k, 1)) (hl : ls[k.val]? = some (.val (.int v))) (hp : pc + 1 = pc') (hr : Ends tb e below (T.setTop (mkF m pc' ls (.int v :: st))) P) : Ends tb e below (T.setTop (mkF m pc ls st)) P := by
  subst hp
  exact own_via (fun t_ k_ => XS.iloadN h hx rfl hd hl k_) hr
theorem s_istoreN (h : At T m c below) (hx : tb.exec = Jvm.exec) {k : Fin 4} {v : Int32} (hd : decode c.code pc = .ok (.istore_n k, 1)) (hl : storeLocals ls k.val (.int v) = some l') (hp : pc + 1 = pc') (hr : Ends tb e below (T.setTop (mkF m pc' l' st)) P) : Ends tb e below (T.setTop (mkF m pc ls (.int v :: st))) P := by
  subst hp
  exact own_via (fun t_ k_ => XS.istoreN h hx rfl hd rfl hl k_) hr
theorem s_lload (h : At T m c below) (hx : tb.exec = Jvm.exec) {k : Nat} {v : Int64} (hd : decode c.code pc = .ok (.lload k, 2)) (hl : ls[k]? = some (.val (.long v))) (hp : pc + 2 = pc') (hr : Ends tb e below (T.setTop (mkF m pc' ls (.long v :: st))) P) : Ends tb e below (T.setTop (mkF m pc ls st)) P := by
  subst hp
  exact own_via (fun t_ k_ => XS.lload h hx rfl hd hl k_) hr
theorem s_lstore (h : At T m c below) (hx : tb.exec = Jvm.exec) {k : Nat} {v : Int64} (hd : decode c.code pc = .ok (.lstore k, 2)) (hl : storeLocals ls k (.long v) = some l') (hp : pc + 2 = pc') (hr : Ends tb e below (T.setTop (mkF m pc' l' st)) P) : Ends tb e below (T.setTop (mkF m pc ls (.long v :: st))) P := by
  subst hp
  exact own_via (fun t_ k_ => XS.lstore h hx rfl hd rfl hl k_) hr
theorem s_lloadN (h : At T m c below) (hx : tb.exec = Jvm.exec) {k : Fin 4} {v : Int64} (hd : decode c.code pc = .ok (.lload_n k, 1)) (hl : ls[k.val]? = some (.val (.long v))) (hp : pc + 1 = pc') (hr : Ends tb e below (T.setTop (mkF m pc' ls (.long v :: st))) P) : Ends tb e below (T.setTop (mkF m pc ls st)) P := by
  subst hp
  exact own_via (fun t_ k_ => XS.lloadN h hx rfl hd hl k_) hr
theorem s_lstoreN (h : At T m c below) (hx : tb.exec = Jvm.exec) {k : Fin 4} {v : Int64} (hd : decode c.code pc = .ok (.lstore_n k, 1)) (hl : storeLocals ls k.val (.long v) = some l') (hp : pc + 1 = pc') (hr : Ends tb e below (T.setTop (mkF m pc' l' st)) P) : Ends tb e below (T.setTop (mkF m pc ls (.long v :: st))) P := by
  subst hp
  exact own_via (fun t_ k_ => XS.lstoreN h hx rfl hd rfl hl k_) hr
theorem s_dload (h : At T m c below) (hx : tb.exec = Jvm.exec) {k : Nat} {v : UInt64} (hd : decode c.code pc = .ok (.dload k, 2)) (hl : ls[k]? = some (.val (.double v))) (hp : pc + 2 = pc') (hr : Ends tb e below (T.setTop (mkF m pc' ls (.double v :: st))) P) : Ends tb e below (T.setTop (mkF m pc ls st)) P := by
  subst hp
  exact own_via (fun t_ k_ => XS.dload h hx rfl hd hl k_) hr
theorem s_dstore (h : At T m c below) (hx : tb.exec = Jvm.exec) {k : Nat} {v : UInt64} (hd : decode c.code pc = .ok (.dstore k, 2)) (hl : storeLocals ls k (.double v) = some l') (hp : pc + 2 = pc') (hr : Ends tb e below (T.setTop (mkF m pc' l' st)) P) : Ends tb e below (T.setTop (mkF m pc ls (.double v :: st))) P := by
  subst hp
  exact own_via (fun t_ k_ => XS.dstore h hx rfl hd rfl hl k_) hr
theorem s_dloadN (h : At T m c below) (hx : tb.exec = Jvm.exec) {k : Fin 4} {v : UInt64} (hd : decode c.code pc = .ok (.dload_n k, 1)) (hl : ls[k.val]? = some (.val (.double v))) (hp : pc + 1 = pc') (hr : Ends tb e below (T.setTop (mkF m pc' ls (.double v :: st))) P) : Ends tb e below (T.setTop (mkF m pc ls st)) P := by
  subst hp
  exact own_via (fun t_ k_ => XS.dloadN h hx rfl hd hl k_) hr
theorem s_dstoreN (h : At T m c below) (hx : tb.exec = Jvm.exec) {k : Fin 4} {v : UInt64} (hd : decode c.code pc = .ok (.dstore_n k, 1)) (hl : storeLocals ls k.val (.double v) = some l') (hp : pc + 1 = pc') (hr : Ends tb e below (T.setTop (mkF m pc' l' st)) P) : Ends tb e below (T.setTop (mkF m pc ls (.double v :: st))) P := by
  subst hp
  exact own_via (fun t_ k_ => XS.dstoreN h hx rfl hd rfl hl k_) hr
theorem s_aload (h : At T m c below) (hx : tb.exec = Jvm.exec) {k : Nat} {v : Value} (hd : decode c.code pc = .ok (.aload k, 2)) (hl : ls[k]? = some (.val v)) (hv : v.isRef = true) (hp : pc + 2 = pc') (hr : Ends tb e below (T.setTop (mkF m pc' ls (v :: st))) P) : Ends tb e below (T.setTop (mkF m pc ls st)) P := by
  subst hp
  exact own_via (fun t_ k_ => XS.aload h hx rfl hd hl hv k_) hr
theorem s_astore (h : At T m c below) (hx : tb.exec = Jvm.exec) {k : Nat} {v : Value} (hd : decode c.code pc = .ok (.astore k, 2)) (hv : v.isRef = true) (hl : storeLocals ls k v = some l') (hp : pc + 2 = pc') (hr : Ends tb e below (T.setTop (mkF m pc' l' st)) P) : Ends tb e below (T.setTop (mkF m pc ls (v :: st))) P := by
  subst hp
  exact own_via (fun t_ k_ => XS.astore h hx rfl hd rfl hv hl k_) hr
theorem s_aloadN (h : At T m c below) (hx : tb.exec = Jvm.exec) {k : Fin 4} {v : Value} (hd : decode c.code pc = .ok (.aload_n k, 1)) (hl : ls[k.val]? = some (.val v)) (hv : v.isRef = true) (hp : pc + 1 = pc') (hr : Ends tb e below (T.setTop (mkF m pc' ls (v :: st))) P) : Ends tb e below (T.setTop (mkF m pc ls st)) P := by
  subst hp
  exact own_via (fun t_ k_ => XS.aloadN h hx rfl hd hl hv k_) hr
theorem s_astoreN (h : At T m c below) (hx : tb.exec = Jvm.exec) {k : Fin 4} {v : Value} (hd : decode c.code pc = .ok (.astore_n k, 1)) (hv : v.isRef = true) (hl : storeLocals ls k.val v = some l') (hp : pc + 1 = pc') (hr : Ends tb e below (T.setTop (mkF m pc' l' st)) P) : Ends tb e below (T.setTop (mkF m pc ls (v :: st))) P := by
  subst hp
  exact own_via (fun t_ k_ => XS.astoreN h hx rfl hd rfl hv hl k_) hr
theorem s_iconst (h : At T m c below) (hx : tb.exec = Jvm.exec) {i : Int} {v : Int32} (hd : decode c.code pc = .ok (.iconst i, 1)) (hv : Int32.ofInt i = v) (hp : pc + 1 = pc') (hr : Ends tb e below (T.setTop (mkF m pc' ls (.int v :: st))) P) : Ends tb e below (T.setTop (mkF m pc ls st)) P := by
  subst hp hv
  exact own_via (fun t_ k_ => XS.iconst h hx rfl hd k_) hr
theorem s_bipush (h : At T m c below) (hx : tb.exec = Jvm.exec) {i : Int} {v : Int32} (hd : decode c.code pc = .ok (.bipush i, 2)) (hv : (Int8.ofInt i).toInt32 = v) (hp : pc + 2 = pc') (hr : Ends tb e below (T.setTop (mkF m pc' ls (.int v :: st))) P) : Ends tb e below (T.setTop (mkF m pc ls st)) P := by
  subst hp hv
  exact own_via (fun t_ k_ => XS.bipush h hx rfl hd k_) hr
theorem s_sipush (h : At T m c below) (hx : tb.exec = Jvm.exec) {i : Int} {v : Int32} (hd : decode c.code pc = .ok (.sipush i, 3)) (hv : (Int16.ofInt i).toInt32 = v) (hp : pc + 3 = pc') (hr : Ends tb e below (T.setTop (mkF m pc' ls (.int v :: st))) P) : Ends tb e below (T.setTop (mkF m pc ls st)) P := by
  subst hp hv
  exact own_via (fun t_ k_ => XS.sipush h hx rfl hd k_) hr
theorem s_lconst (h : At T m c below) (hx : tb.exec = Jvm.exec) {i : Fin 2} {v : Int64} (hd : decode c.code pc = .ok (.lconst i, 1)) (hv : Int64.ofNat i = v) (hp : pc + 1 = pc') (hr : Ends tb e below (T.setTop (mkF m pc' ls (.long v :: st))) P) : Ends tb e below (T.setTop (mkF m pc ls st)) P := by
  subst hp hv
  exact own_via (fun t_ k_ => XS.lconst h hx rfl hd k_) hr
theorem s_aconstNull (h : At T m c below) (hx : tb.exec = Jvm.exec)  (hd : decode c.code pc = .ok (.aconst_null, 1))  (hp : pc + 1 = pc') (hr : Ends tb e below (T.setTop (mkF m pc' ls (.null :: st))) P) : Ends tb e below (T.setTop (mkF m pc ls st)) P := by
  subst hp
  exact own_via (fun t_ k_ => XS.aconstNull h hx rfl hd k_) hr
theorem s_iadd (h : At T m c below) (hx : tb.exec = Jvm.exec) {x y : Int32} (hd : decode c.code pc = .ok (.iadd, 1))  (hp : pc + 1 = pc') (hr : Ends tb e below (T.setTop (mkF m pc' ls (.int (x + y) :: st))) P) : Ends tb e below (T.setTop (mkF m pc ls (.int y :: .int x :: st))) P := by
  subst hp
  exact own_via (fun t_ k_ => XS.iadd h hx rfl hd rfl k_) hr
theorem s_isub (h : At T m c below) (hx : tb.exec = Jvm.exec) {x y : Int32} (hd : decode c.code pc = .ok (.isub, 1))  (hp : pc + 1 = pc') (hr : Ends tb e below (T.setTop (mkF m pc' ls (.int (x - y) :: st))) P) : Ends tb e below (T.setTop (mkF m pc ls (.int y :: .int x :: st))) P := by
  subst hp
  exact own_via (fun t_ k_ => XS.isub h hx rfl hd rfl k_) hr
theorem s_imul (h : At T m c below) (hx : tb.exec = Jvm.exec) {x y : Int32} (hd : decode c.code pc = .ok (.imul, 1))  (hp : pc + 1 = pc') (hr : Ends tb e below (T.setTop (mkF m pc' ls (.int (x * y) :: st))) P) : Ends tb e below (T.setTop (mkF m pc ls (.int y :: .int x :: st))) P := by
  subst hp
  exact own_via (fun t_ k_ => XS.imul h hx rfl hd rfl k_) hr
theorem s_iand (h : At T m c below) (hx : tb.exec = Jvm.exec) {x y : Int32} (hd : decode c.code pc = .ok (.iand, 1))  (hp : pc + 1 = pc') (hr : Ends tb e below (T.setTop (mkF m pc' ls (.int (x &&& y) :: st))) P) : Ends tb e below (T.setTop (mkF m pc ls (.int y :: .int x :: st))) P := by
  subst hp
  exact own_via (fun t_ k_ => XS.iand h hx rfl hd rfl k_) hr
theorem s_ior (h : At T m c below) (hx : tb.exec = Jvm.exec) {x y : Int32} (hd : decode c.code pc = .ok (.ior, 1))  (hp : pc + 1 = pc') (hr : Ends tb e below (T.setTop (mkF m pc' ls (.int (x ||| y) :: st))) P) : Ends tb e below (T.setTop (mkF m pc ls (.int y :: .int x :: st))) P := by
  subst hp
  exact own_via (fun t_ k_ => XS.ior h hx rfl hd rfl k_) hr
theorem s_ixor (h : At T m c below) (hx : tb.exec = Jvm.exec) {x y : Int32} (hd : decode c.code pc = .ok (.ixor, 1))  (hp : pc + 1 = pc') (hr : Ends tb e below (T.setTop (mkF m pc' ls (.int (x ^^^ y) :: st))) P) : Ends tb e below (T.setTop (mkF m pc ls (.int y :: .int x :: st))) P := by
  subst hp
  exact own_via (fun t_ k_ => XS.ixor h hx rfl hd rfl k_) hr
theorem s_ishl (h : At T m c below) (hx : tb.exec = Jvm.exec) {x y : Int32} (hd : decode c.code pc = .ok (.ishl, 1))  (hp : pc + 1 = pc') (hr : Ends tb e below (T.setTop (mkF m pc' ls (.int (x <<< (y &&& 31)) :: st))) P) : Ends tb e below (T.setTop (mkF m pc ls (.int y :: .int x :: st))) P := by
  subst hp
  exact own_via (fun t_ k_ => XS.ishl h hx rfl hd rfl k_) hr
theorem s_ishr (h : At T m c below) (hx : tb.exec = Jvm.exec) {x y : Int32} (hd : decode c.code pc = .ok (.ishr, 1))  (hp : pc + 1 = pc') (hr : Ends tb e below (T.setTop (mkF m pc' ls (.int (x >>> (y &&& 31)) :: st))) P) : Ends tb e below (T.setTop (mkF m pc ls (.int y :: .int x :: st))) P := by
  subst hp
  exact own_via (fun t_ k_ => XS.ishr h hx rfl hd rfl k_) hr
theorem s_iushr (h : At T m c below) (hx : tb.exec = Jvm.exec) {x y : Int32} (hd : decode c.code pc = .ok (.iushr, 1))  (hp : pc + 1 = pc') (hr : Ends tb e below (T.setTop (mkF m pc' ls (.int ((x.toUInt32 >>> (y &&& 31).toUInt32).toInt32) :: st))) P) : Ends tb e below (T.setTop (mkF m pc ls (.int y :: .int x :: st))) P := by
  subst hp
  exact own_via (fun t_ k_ => XS.iushr h hx rfl hd rfl k_) hr
theorem s_ladd (h : At T m c below) (hx : tb.exec = Jvm.exec) {x y : Int64} (hd : decode c.code pc = .ok (.ladd, 1))  (hp : pc + 1 = pc') (hr : Ends tb e below (T.setTop (mkF m pc' ls (.long (x + y) :: st))) P) : Ends tb e below (T.setTop (mkF m pc ls (.long y :: .long x :: st))) P := by
  subst hp
  exact own_via (fun t_ k_ => XS.ladd h hx rfl hd rfl k_) hr
theorem s_lsub (h : At T m c below) (hx : tb.exec = Jvm.exec) {x y : Int64} (hd : decode c.code pc = .ok (.lsub, 1))  (hp : pc + 1 = pc') (hr : Ends tb e below (T.setTop (mkF m pc' ls (.long (x - y) :: st))) P) : Ends tb e below (T.setTop (mkF m pc ls (.long y :: .long x :: st))) P := by
  subst hp
  exact own_via (fun t_ k_ => XS.lsub h hx rfl hd rfl k_) hr
theorem s_lmul (h : At T m c below) (hx : tb.exec = Jvm.exec) {x y : Int64} (hd : decode c.code pc = .ok (.lmul, 1))  (hp : pc + 1 = pc') (hr : Ends tb e below (T.setTop (mkF m pc' ls (.long (x * y) :: st))) P) : Ends tb e below (T.setTop (mkF m pc ls (.long y :: .long x :: st))) P := by
  subst hp
  exact own_via (fun t_ k_ => XS.lmul h hx rfl hd rfl k_) hr
theorem s_land (h : At T m c below) (hx : tb.exec = Jvm.exec) {x y : Int64} (hd : decode c.code pc = .ok (.land, 1))  (hp : pc + 1 = pc') (hr : Ends tb e below (T.setTop (mkF m pc' ls (.long (x &&& y) :: st))) P) : Ends tb e below (T.setTop (mkF m pc ls (.long y :: .long x :: st))) P := by
  subst hp
  exact own_via (fun t_ k_ => XS.land h hx rfl hd rfl k_) hr
theorem s_lor (h : At T m c below) (hx : tb.exec = Jvm.exec) {x y : Int64} (hd : decode c.code pc = .ok (.lor, 1))  (hp : pc + 1 = pc') (hr : Ends tb e below (T.setTop (mkF m pc' ls (.long (x ||| y) :: st))) P) : Ends tb e below (T.setTop (mkF m pc ls (.long y :: .long x :: st))) P := by
  subst hp
  exact own_via (fun t_ k_ => XS.lor h hx rfl hd rfl k_) hr
theorem s_lxor (h : At T m c below) (hx : tb.exec = Jvm.exec) {x y : Int64} (hd : decode c.code pc = .ok (.lxor, 1))  (hp : pc + 1 = pc') (hr : Ends tb e below (T.setTop (mkF m pc' ls (.long (x ^^^ y) :: st))) P) : Ends tb e below (T.setTop (mkF m pc ls (.long y :: .long x :: st))) P := by
  subst hp
  exact own_via (fun t_ k_ => XS.lxor h hx rfl hd rfl k_) hr
theorem s_lshl (h : At T m c below) (hx : tb.exec = Jvm.exec) {x : Int64} {y : Int32} (hd : decode c.code pc = .ok (.lshl, 1))  (hp : pc + 1 = pc') (hr : Ends tb e below (T.setTop (mkF m pc' ls (.long (x <<< (y &&& 0x3f).toInt64) :: st))) P) : Ends tb e below (T.setTop (mkF m pc ls (.int y :: .long x :: st))) P := by
  subst hp
  exact own_via (fun t_ k_ => XS.lshl h hx rfl hd rfl k_) hr
theorem s_lshr (h : At T m c below) (hx : tb.exec = Jvm.exec) {x : Int64} {y : Int32} (hd : decode c.code pc = .ok (.lshr, 1))  (hp : pc + 1 = pc') (hr : Ends tb e below (T.setTop (mkF m pc' ls (.long (x >>> (y &&& 0x3f).toInt64) :: st))) P) : Ends tb e below (T.setTop (mkF m pc ls (.int y :: .long x :: st))) P := by
  subst hp
  exact own_via (fun t_ k_ => XS.lshr h hx rfl hd rfl k_) hr
theorem s_lushr (h : At T m c below) (hx : tb.exec = Jvm.exec) {x : Int64} {y : Int32} (hd : decode c.code pc = .ok (.lushr, 1))  (hp : pc + 1 = pc') (hr : Ends tb e below (T.setTop (mkF m pc' ls (.long ((x.toUInt64 >>> (y &&& 0x3f).toInt64.toUInt64).toInt64) :: st))) P) : Ends tb e below (T.setTop (mkF m pc ls (.int y :: .long x :: st))) P := by
  subst hp
  exact own_via (fun t_ k_ => XS.lushr h hx rfl hd rfl k_) hr
theorem s_idiv (h : At T m c below) (hx : tb.exec = Jvm.exec) {x y : Int32} (hd : decode c.code pc = .ok (.idiv, 1)) (hy : y ≠ 0) (hp : pc + 1 = pc') (hr : Ends tb e below (T.setTop (mkF m pc' ls (.int (x / y) :: st))) P) : Ends tb e below (T.setTop (mkF m pc ls (.int y :: .int x :: st))) P := by
  subst hp
  exact own_via (fun t_ k_ => XS.idiv h hx rfl hd rfl hy k_) hr
theorem s_ldiv (h : At T m c below) (hx : tb.exec = Jvm.exec) {x y : Int64} (hd : decode c.code pc = .ok (.ldiv, 1)) (hy : y ≠ 0) (hp : pc + 1 = pc') (hr : Ends tb e below (T.setTop (mkF m pc' ls (.long (x / y) :: st))) P) : Ends tb e below (T.setTop (mkF m pc ls (.long y :: .long x :: st))) P := by
  subst hp
  exact own_via (fun t_ k_ => XS.ldiv h hx rfl hd rfl hy k_) hr
theorem s_lrem (h : At T m c below) (hx : tb.exec = Jvm.exec) {x y : Int64} (hd : decode c.code pc = .ok (.lrem, 1)) (hy : y ≠ 0) (hp : pc + 1 = pc') (hr : Ends tb e below (T.setTop (mkF m pc' ls (.long (x % y) :: st))) P) : Ends tb e below (T.setTop (mkF m pc ls (.long y :: .long x :: st))) P := by
  subst hp
  exact own_via (fun t_ k_ => XS.lrem h hx rfl hd rfl hy (by rw [lrem_mod]; exact k_)) hr
theorem s_ineg (h : At T m c below) (hx : tb.exec = Jvm.exec) {x : Int32} (hd : decode c.code pc = .ok (.ineg, 1))  (hp : pc + 1 = pc') (hr : Ends tb e below (T.setTop (mkF m pc' ls (.int (-x) :: st))) P) : Ends tb e below (T.setTop (mkF m pc ls (.int x :: st))) P := by
  subst hp
  exact own_via (fun t_ k_ => XS.ineg h hx rfl hd rfl k_) hr
theorem s_lneg (h : At T m c below) (hx : tb.exec = Jvm.exec) {x : Int64} (hd : decode c.code pc = .ok (.lneg, 1))  (hp : pc + 1 = pc') (hr : Ends tb e below (T.setTop (mkF m pc' ls (.long (-x) :: st))) P) : Ends tb e below (T.setTop (mkF m pc ls (.long x :: st))) P := by
  subst hp
  exact own_via (fun t_ k_ => XS.lneg h hx rfl hd rfl k_) hr
theorem s_i2l (h : At T m c below) (hx : tb.exec = Jvm.exec) {x : Int32} (hd : decode c.code pc = .ok (.i2l, 1))  (hp : pc + 1 = pc') (hr : Ends tb e below (T.setTop (mkF m pc' ls (.long (x.toInt64) :: st))) P) : Ends tb e below (T.setTop (mkF m pc ls (.int x :: st))) P := by
  subst hp
  exact own_via (fun t_ k_ => XS.i2l h hx rfl hd rfl k_) hr
theorem s_l2i (h : At T m c below) (hx : tb.exec = Jvm.exec) {x : Int64} (hd : decode c.code pc = .ok (.l2i, 1))  (hp : pc + 1 = pc') (hr : Ends tb e below (T.setTop (mkF m pc' ls (.int (x.toInt32) :: st))) P) : Ends tb e below (T.setTop (mkF m pc ls (.long x :: st))) P := by
  subst hp
  exact own_via (fun t_ k_ => XS.l2i h hx rfl hd rfl k_) hr
theorem s_i2b (h : At T m c below) (hx : tb.exec = Jvm.exec) {x : Int32} (hd : decode c.code pc = .ok (.i2b, 1))  (hp : pc + 1 = pc') (hr : Ends tb e below (T.setTop (mkF m pc' ls (.int (x.toInt8.toInt32) :: st))) P) : Ends tb e below (T.setTop (mkF m pc ls (.int x :: st))) P := by
  subst hp
  exact own_via (fun t_ k_ => XS.i2b h hx rfl hd rfl k_) hr
theorem s_i2s (h : At T m c below) (hx : tb.exec = Jvm.exec) {x : Int32} (hd : decode c.code pc = .ok (.i2s, 1))  (hp : pc + 1 = pc') (hr : Ends tb e below (T.setTop (mkF m pc' ls (.int (x.toInt16.toInt32) :: st))) P) : Ends tb e below (T.setTop (mkF m pc ls (.int x :: st))) P := by
  subst hp
  exact own_via (fun t_ k_ => XS.i2s h hx rfl hd rfl k_) hr
theorem s_i2c (h : At T m c below) (hx : tb.exec = Jvm.exec) {x : Int32} (hd : decode c.code pc = .ok (.i2c, 1))  (hp : pc + 1 = pc') (hr : Ends tb e below (T.setTop (mkF m pc' ls (.int (x.toUInt32.toUInt16.toUInt32.toInt32) :: st))) P) : Ends tb e below (T.setTop (mkF m pc ls (.int x :: st))) P := by
  subst hp
  exact own_via (fun t_ k_ => XS.i2c h hx rfl hd rfl k_) hr
theorem s_lcmp (h : At T m c below) (hx : tb.exec = Jvm.exec) {x y : Int64} (hd : decode c.code pc = .ok (.lcmp, 1))  (hp : pc + 1 = pc') (hr : Ends tb e below (T.setTop (mkF m pc' ls (.int (lcmpW x y) :: st))) P) : Ends tb e below (T.setTop (mkF m pc ls (.long y :: .long x :: st))) P := by
  subst hp
  exact own_via (fun t_ k_ => XS.lcmp h hx rfl hd rfl k_) hr
theorem s_l2d (h : At T m c below) (hx : tb.exec = Jvm.exec) {x : Int64} (hd : decode c.code pc = .ok (.l2d, 1))  (hp : pc + 1 = pc') (hr : Ends tb e below (T.setTop (mkF m pc' ls (.double (FP.l2d x) :: st))) P) : Ends tb e below (T.setTop (mkF m pc ls (.long x :: st))) P := by
  subst hp
  exact own_via (fun t_ k_ => XS.l2dS h hx rfl hd rfl rfl k_) hr
theorem s_dneg (h : At T m c below) (hx : tb.exec = Jvm.exec) {x : UInt64} (hd : decode c.code pc = .ok (.dneg, 1))  (hp : pc + 1 = pc') (hr : Ends tb e below (T.setTop (mkF m pc' ls (.double (FP.dneg x) :: st))) P) : Ends tb e below (T.setTop (mkF m pc ls (.double x :: st))) P := by
  subst hp
  exact own_via (fun t_ k_ => XS.dnegS h hx rfl hd rfl rfl k_) hr
theorem s_dcmp (h : At T m c below) (hx : tb.exec = Jvm.exec) {o : CmpOp} {x y : UInt64} (hd : decode c.code pc = .ok (.dcmp o, 1))  (hp : pc + 1 = pc') (hr : Ends tb e below (T.setTop (mkF m pc' ls (.int (cmpValue (FP.dcmp x y) o) :: st))) P) : Ends tb e below (T.setTop (mkF m pc ls (.double y :: .double x :: st))) P := by
  subst hp
  exact own_via (fun t_ k_ => XS.dcmpS h hx rfl hd rfl rfl k_) hr
theorem s_iinc (h : At T m c below) (hx : tb.exec = Jvm.exec) {k : Nat} {i : Int} {x v : Int32} (hd : decode c.code pc = .ok (.iinc k i, 3)) (hv : Int32.ofInt i = v) (hl : ls[k]? = some (.val (.int x))) (hl' : storeLocals ls k (.int (x + v)) = some l') (hp : pc + 3 = pc') (hr : Ends tb e below (T.setTop (mkF m pc' l' st)) P) : Ends tb e below (T.setTop (mkF m pc ls st)) P := by
  subst hp hv
  exact own_via (fun t_ k_ => XS.iinc h hx rfl hd hl hl' k_) hr
theorem s_dup (h : At T m c below) (hx : tb.exec = Jvm.exec) {x : Value} (hd : decode c.code pc = .ok (.dup, 1)) (hc : x.category = 1) (hp : pc + 1 = pc') (hr : Ends tb e below (T.setTop (mkF m pc' ls (x :: x :: st))) P) : Ends tb e below (T.setTop (mkF m pc ls (x :: st))) P := by
  subst hp
  exact own_via (fun t_ k_ => XS.dup h hx rfl hd rfl hc k_) hr
theorem s_dupX1 (h : At T m c below) (hx : tb.exec = Jvm.exec) {x y : Value} (hd : decode c.code pc = .ok (.dup_x1, 1)) (hc : x.category = 1) (hc' : y.category = 1) (hp : pc + 1 = pc') (hr : Ends tb e below (T.setTop (mkF m pc' ls (x :: y :: x :: st))) P) : Ends tb e below (T.setTop (mkF m pc ls (x :: y :: st))) P := by
  subst hp
  exact own_via (fun t_ k_ => XS.dupX1 h hx rfl hd rfl hc hc' k_) hr
theorem s_dup2 (h : At T m c below) (hx : tb.exec = Jvm.exec) {x y : Value} (hd : decode c.code pc = .ok (.dup2, 1)) (hc : x.category = 1) (hc' : y.category = 1) (hp : pc + 1 = pc') (hr : Ends tb e below (T.setTop (mkF m pc' ls (x :: y :: x :: y :: st))) P) : Ends tb e below (T.setTop (mkF m pc ls (x :: y :: st))) P := by
  subst hp
  exact own_via (fun t_ k_ => XT.dup2 h hx rfl hd rfl hc hc' k_) hr
theorem s_dup2L (h : At T m c below) (hx : tb.exec = Jvm.exec) {x : Int64} (hd : decode c.code pc = .ok (.dup2, 1))  (hp : pc + 1 = pc') (hr : Ends tb e below (T.setTop (mkF m pc' ls (.long x :: .long x :: st))) P) : Ends tb e below (T.setTop (mkF m pc ls (.long x :: st))) P := by
  subst hp
  exact own_via (fun t_ k_ => XT.dup2L h hx rfl hd rfl k_) hr
theorem s_pop (h : At T m c below) (hx : tb.exec = Jvm.exec) {x : Value} (hd : decode c.code pc = .ok (.pop, 1)) (hc : x.category = 1) (hp : pc + 1 = pc') (hr : Ends tb e below (T.setTop (mkF m pc' ls st)) P) : Ends tb e below (T.setTop (mkF m pc ls (x :: st))) P := by
  subst hp
  exact own_via (fun t_ k_ => XS.pop h hx rfl hd rfl hc k_) hr
theorem own_pop2L {target : State} {g : JFrame} (h : At T m c below) (hx : tb.exec = Jvm.exec) (hg : g.method = m) {x : Int64} {rest : List Value} (hd : decode c.code g.pc = .ok (.pop2, 1)) (hs : g.stack = .long x :: rest)
    (hr : Steps tb e below (T.setTop { g with pc := g.pc + 1, stack := rest }) target) : Steps tb e below (T.setTop g) target := by
  subst hg
  jvm_step h [h.top, hx, hd, hs, Value.category]
  exact hr
theorem s_pop2L (h : At T m c below) (hx : tb.exec = Jvm.exec) {x : Int64} (hd : decode c.code pc = .ok (.pop2, 1))  (hp : pc + 1 = pc') (hr : Ends tb e below (T.setTop (mkF m pc' ls st)) P) : Ends tb e below (T.setTop (mkF m pc ls (.long x :: st))) P := by
  subst hp
  exact own_via (fun t_ k_ => own_pop2L h hx rfl hd rfl k_) hr
theorem s_goto (h : At T m c below) (hx : tb.exec = Jvm.exec)  {o : Int} (hd : decode c.code pc = .ok (.goto o, 3))  (ho : 0 ≤ (pc : Int) + o) (hp : ((pc : Int) + o).toNat = pc') (hr : Ends tb e below (T.setTop (mkF m pc' ls st)) P) : Ends tb e below (T.setTop (mkF m pc ls st)) P := own_via (fun t_ k_ => XS.goto h hx rfl rfl hd ho hp k_) hr
theorem s_ifYes (h : At T m c below) (hx : tb.exec = Jvm.exec) {cd : ClassFile.Cond} {x : Int32} {o : Int} (hd : decode c.code pc = .ok (.ifCond cd o, 3)) (hc : ifCond.holds cd x = true) (ho : 0 ≤ (pc : Int) + o) (hp : ((pc : Int) + o).toNat = pc') (hr : Ends tb e below (T.setTop (mkF m pc' ls st)) P) : Ends tb e below (T.setTop (mkF m pc ls (.int x :: st))) P := own_via (fun t_ k_ => XS.ifYes h hx rfl rfl hd rfl hc ho hp k_) hr
theorem s_ifNo (h : At T m c below) (hx : tb.exec = Jvm.exec) {cd : ClassFile.Cond} {x : Int32} {o : Int} (hd : decode c.code pc = .ok (.ifCond cd o, 3)) (hc : ifCond.holds cd x = false) (hp : pc + 3 = pc') (hr : Ends tb e below (T.setTop (mkF m pc' ls st)) P) : Ends tb e below (T.setTop (mkF m pc ls (.int x :: st))) P := by
  subst hp
  exact own_via (fun t_ k_ => XS.ifNo h hx rfl hd rfl hc k_) hr
theorem s_icmpYes (h : At T m c below) (hx : tb.exec = Jvm.exec) {cd : ClassFile.Cond} {x y : Int32} {o : Int} (hd : decode c.code pc = .ok (.if_icmp cd o, 3)) (hc : if_icmp.holds cd x y = true) (ho : 0 ≤ (pc : Int) + o) (hp : ((pc : Int) + o).toNat = pc') (hr : Ends tb e below (T.setTop (mkF m pc' ls st)) P) : Ends tb e below (T.setTop (mkF m pc ls (.int y :: .int x :: st))) P := own_via (fun t_ k_ => XS.icmpYes h hx rfl rfl hd rfl hc ho hp k_) hr
theorem s_icmpNo (h : At T m c below) (hx : tb.exec = Jvm.exec) {cd : ClassFile.Cond} {x y : Int32} {o : Int} (hd : decode c.code pc = .ok (.if_icmp cd o, 3)) (hc : if_icmp.holds cd x y = false) (hp : pc + 3 = pc') (hr : Ends tb e below (T.setTop (mkF m pc' ls st)) P) : Ends tb e below (T.setTop (mkF m pc ls (.int y :: .int x :: st))) P := by
  subst hp
  exact own_via (fun t_ k_ => XS.icmpNo h hx rfl hd rfl hc k_) hr
theorem s_ifnullYes (h : At T m c below) (hx : tb.exec = Jvm.exec)  {o : Int} (hd : decode c.code pc = .ok (.ifnull o, 3))  (ho : 0 ≤ (pc : Int) + o) (hp : ((pc : Int) + o).toNat = pc') (hr : Ends tb e below (T.setTop (mkF m pc' ls st)) P) : Ends tb e below (T.setTop (mkF m pc ls (.null :: st))) P := own_via (fun t_ k_ => XS.ifnullYes h hx rfl rfl hd rfl ho hp k_) hr
theorem s_ifnullNo (h : At T m c below) (hx : tb.exec = Jvm.exec) {b : Addr} {o : Int} (hd : decode c.code pc = .ok (.ifnull o, 3))  (hp : pc + 3 = pc') (hr : Ends tb e below (T.setTop (mkF m pc' ls st)) P) : Ends tb e below (T.setTop (mkF m pc ls (.ref b :: st))) P := by
  subst hp
  exact own_via (fun t_ k_ => XS.ifnullNo h hx rfl hd rfl k_) hr
theorem s_ifnonnullYes (h : At T m c below) (hx : tb.exec = Jvm.exec) {b : Addr} {o : Int} (hd : decode c.code pc = .ok (.ifnonnull o, 3))  (ho : 0 ≤ (pc : Int) + o) (hp : ((pc : Int) + o).toNat = pc') (hr : Ends tb e below (T.setTop (mkF m pc' ls st)) P) : Ends tb e below (T.setTop (mkF m pc ls (.ref b :: st))) P := own_via (fun t_ k_ => XS.ifnonnullYes h hx rfl rfl hd rfl ho hp k_) hr
theorem s_ifnonnullNo (h : At T m c below) (hx : tb.exec = Jvm.exec)  {o : Int} (hd : decode c.code pc = .ok (.ifnonnull o, 3))  (hp : pc + 3 = pc') (hr : Ends tb e below (T.setTop (mkF m pc' ls st)) P) : Ends tb e below (T.setTop (mkF m pc ls (.null :: st))) P := by
  subst hp
  exact own_via (fun t_ k_ => XS.ifnonnullNo h hx rfl hd rfl k_) hr
end OwnSteps
section OwnLaws
variable {p : Program} {l : Launch} {e : Env} {R : Room} {s : State} {m : MethodId} {args : Array Value} {below : List Frame} {meth : Method} {c : Code} {T : State} {locs : List Loc} {cells slots : Nat} {Z : State} {a0 : Array Value} {h : Heap} {P : State → Outcome → Prop} {pc pc' : Nat} {ls : Array Slot} {st : List Value}
theorem s_getF (X : Stand p l e R s m args below meth c T locs cells slots) (hx : p.tables.exec = Jvm.exec) (hZ : Z.Warmed39 s.vm) {own R0 O n d host : String} {index : Nat} (hown : s.vm.findClass own = some m.cls) (w : (Jvm.Cond.fieldLink own index R0 n d).before a0 Z = true ∨ (Jvm.Cond.fieldLinkNest own index R0 n d host).before a0 Z = true) (via : Via Z R0 O n d) (eT : T.heap = h) {a : Addr} {v : Value} (F : Fld Z h a O n d v) (hd : decode c.code pc = .ok (.getfield index, 3)) (hp : pc + 3 = pc') (k : ∀ T', Stand p l e R s m args below meth c T' locs cells slots → T'.heap = h → Ends p.tables e below (T'.setTop (mkF m pc' ls (v :: st))) P) : Ends p.tables e below (T.setTop (mkF m pc ls (.ref a :: st))) P := by
  subst hp
  obtain ⟨T', X', e', s'⟩ := getF X hx hZ hown w via eT F (g := mkF m pc ls (.ref a :: st)) rfl rfl hd
  exact own_via s' (k T' X' e')
theorem s_getS (X : Stand p l e R s m args below meth c T locs cells slots) (hx : p.tables.exec = Jvm.exec) (hZ : Z.Warmed39 s.vm) {own R0 O n d host : String} {index : Nat} (hown : s.vm.findClass own = some m.cls) (w : (Jvm.Cond.fieldLink own index R0 n d).before a0 Z = true ∨ (Jvm.Cond.fieldLinkNest own index R0 n d host).before a0 Z = true) (via : Via Z R0 O n d) (eT : T.heap = h) {v : Value} (F : Sta Z h O n d v) (hd : decode c.code pc = .ok (.getstatic index, 3)) (hp : pc + 3 = pc') (k : ∀ T', Stand p l e R s m args below meth c T' locs cells slots → T'.heap = h → Ends p.tables e below (T'.setTop (mkF m pc' ls (v :: st))) P) : Ends p.tables e below (T.setTop (mkF m pc ls st)) P := by
  subst hp
  obtain ⟨T', X', e', s'⟩ := getS2 X hx hZ hown w via eT F (g := mkF m pc ls st) rfl hd
  exact own_via s' (k T' X' e')
theorem s_putF (X : Stand p l e R s m args below meth c T locs cells slots) (hx : p.tables.exec = Jvm.exec) (hZ : Z.Warmed39 s.vm) {own R0 O n d host : String} {index : Nat} (hown : s.vm.findClass own = some m.cls) (w : (Jvm.Cond.fieldLink own index R0 n d).before a0 Z = true ∨ (Jvm.Cond.fieldLinkNest own index R0 n d host).before a0 Z = true) (via : Via Z R0 O n d) (eT : T.heap = h) {C : String} {kk : Nat} {ty : FieldType} {a : Addr} {v old : Value} (F : Fld Z h a O n d old) (E : Exa Z h a C) (L : (Jvm.Cond.lays C O n d).before a0 Z = true ∨ ((Jvm.Cond.laysFinal C O n d).before a0 Z = true ∧ own = O ∧ meth.name = "<init>")) (wi : (Jvm.Cond.instantiable C kk).before a0 Z = true) (hty : parseFieldDescriptor d = some ty) (hn : narrow ty v = v) (hf : fits ty v = true) (hd : decode c.code pc = .ok (.putfield index, 3)) (hp : pc + 3 = pc') (k : ∀ T' h', Stand p l e R s m args below meth c T' (locs ++ [⟨a, Jvm.RoadKit.slotOf Z O n d⟩]) cells slots → T'.heap = h' → Wr h h' a (Jvm.RoadKit.slotOf Z O n d) v → Ends p.tables e below (T'.setTop (mkF m pc' ls st)) P) : Ends p.tables e below (T.setTop (mkF m pc ls (v :: .ref a :: st))) P := by
  subst hp
  obtain ⟨T', h', X', e', W, s'⟩ := putF X hx hZ hown w via eT F E L wi hty hn hf (g := mkF m pc ls (v :: .ref a :: st)) rfl rfl hd
  exact own_via s' (k T' h' X' e' W)
theorem s_putFN (X : Stand p l e R s m args below meth c T locs cells slots) (hx : p.tables.exec = Jvm.exec) (hZ : Z.Warmed39 s.vm) {own R0 O n d : String} {index : Nat} (hown : s.vm.findClass own = some m.cls) (w : (Jvm.Cond.fieldLink own index R0 n d).before a0 Z = true) (via : Via Z R0 O n d) (eT : T.heap = h) {C : String} {kk : Nat} {ty : FieldType} {a : Addr} {v v' old : Value} (F : Fld Z h a O n d old) (E : Exa Z h a C) (L : (Jvm.Cond.lays C O n d).before a0 Z = true ∨ ((Jvm.Cond.laysFinal C O n d).before a0 Z = true ∧ own = O ∧ meth.name = "<init>")) (wi : (Jvm.Cond.instantiable C kk).before a0 Z = true) (hty : parseFieldDescriptor d = some ty) (hn : narrow ty v = v') (hf : fits ty v' = true) (hd : decode c.code pc = .ok (.putfield index, 3)) (hp : pc + 3 = pc') (k : ∀ T' h', Stand p l e R s m args below meth c T' (locs ++ [⟨a, Jvm.RoadKit.slotOf Z O n d⟩]) cells slots → T'.heap = h' → Wr h h' a (Jvm.RoadKit.slotOf Z O n d) v' → Ends p.tables e below (T'.setTop (mkF m pc' ls st)) P) : Ends p.tables e below (T.setTop (mkF m pc ls (v :: .ref a :: st))) P := by
  subst hp
  obtain ⟨T', h', X', e', W, s'⟩ := putFN X hx hZ hown w via eT F E L wi hty hn hf (g := mkF m pc ls (v :: .ref a :: st)) rfl rfl hd
  exact own_via s' (k T' h' X' e' W)
theorem s_newO (X : Stand p l e R s m args below meth c T locs cells slots) (hx : p.tables.exec = Jvm.exec) (hZ : Z.Warmed39 s.vm) {own C : String} {index n : Nat} (hown : s.vm.findClass own = some m.cls) (w : (Jvm.Cond.classLink own index C).before a0 Z = true) (wi : (Jvm.Cond.instantiable C n).before a0 Z = true) (wz : (Jvm.Cond.initialized C).before a0 Z = true) (eT : T.heap = h) (hd : decode c.code pc = .ok (.new index, 3)) (hc : cells + 1 ≤ R.cells) (hl : slots + n ≤ R.slots) (hp : pc + 3 = pc') (k : ∀ T' h', Stand p l e R s m args below meth c T' locs (cells + 1) (slots + n) → T'.heap = h' → Ext h h' → ∀ b, b = h.size → Exa Z h' b C → (∀ {O nm d : String} {ty : FieldType}, Laid Z a0 C O nm d → parseFieldDescriptor d = some ty → Fld Z h' b O nm d (defaultValue ty)) → Ends p.tables e below (T'.setTop (mkF m pc' ls (.ref b :: st))) P) : Ends p.tables e below (T.setTop (mkF m pc ls st)) P := by
  subst hp
  obtain ⟨T', h', X', e', E, A, D, -, s'⟩ := newO X hx hZ hown w wi wz eT (g := mkF m pc ls st) rfl hd hc hl
  exact own_via s' (k T' h' X' e' E _ rfl A D)
theorem s_newP (X : Stand p l e R s m args below meth c T locs cells slots) (hx : p.tables.exec = Jvm.exec) (hZ : Z.Warmed39 s.vm) {aty : ArrayType} (w : (Jvm.Cond.arrayClass (newarray.typeOf aty)).before a0 Z = true) (eT : T.heap = h) (hd : decode c.code pc = .ok (.newarray aty, 2)) {n : Int32} (hn : ¬ n < 0) {cap : Nat} (hcap : n.toNatClampNeg ≤ cap) (hb : cap * 8 ≤ 536870912) (hc : cells + 1 ≤ R.cells) (hl : slots + cap ≤ R.slots) (hp : pc + 2 = pc') (k : ∀ T' h', Stand p l e R s m args below meth c T' locs (cells + 1) (slots + cap) → T'.heap = h' → ∀ cA, Ext h h' → ∀ b, b = h.size → Arr Z h' b (newA cA (newarray.typeOf aty) n) (newarray.typeOf aty) → Ends p.tables e below (T'.setTop (mkF m pc' ls (.ref b :: st))) P) : Ends p.tables e below (T.setTop (mkF m pc ls (.int n :: st))) P := by
  subst hp
  obtain ⟨T', h', cA, X', e', E, A, s'⟩ := newP X hx hZ w eT (g := mkF m pc ls (.int n :: st)) rfl hd rfl hn hcap hb hc hl
  exact own_via s' (k T' h' X' e' cA E _ rfl A)
theorem s_newPE (X : Stand p l e R s m args below meth c T locs cells slots) (hx : p.tables.exec = Jvm.exec) (hZ : Z.Warmed39 s.vm) {aty : ArrayType} (w : (Jvm.Cond.arrayClass (newarray.typeOf aty)).before a0 Z = true) (eT : T.heap = h) (hd : decode c.code pc = .ok (.newarray aty, 2)) {n : Int32} (hn : ¬ n < 0) {cap : Nat} (hcap : n.toNatClampNeg ≤ cap) (hb : cap * 8 ≤ 536870912) (hc : cells + 1 ≤ R.cells) (hl : slots + cap ≤ R.slots) {ad : String} (had : "[" ++ (newarray.typeOf aty).toString = ad) (hp : pc + 2 = pc') (k : ∀ T' h', Stand p l e R s m args below meth c T' locs (cells + 1) (slots + cap) → T'.heap = h' → ∀ cA, Ext h h' → ∀ b, b = h.size → Arr Z h' b (newA cA (newarray.typeOf aty) n) (newarray.typeOf aty) → Exa Z h' b ad → Ends p.tables e below (T'.setTop (mkF m pc' ls (.ref b :: st))) P) : Ends p.tables e below (T.setTop (mkF m pc ls (.int n :: st))) P := by
  subst hp
  obtain ⟨T', h', cA, X', e', E, A, Ex, s'⟩ := newPE X hx hZ w eT (g := mkF m pc ls (.int n :: st)) rfl hd rfl hn hcap hb hc hl had
  exact own_via s' (k T' h' X' e' cA E _ rfl A Ex)
theorem s_newR (X : Stand p l e R s m args below meth c T locs cells slots) (hx : p.tables.exec = Jvm.exec) (hZ : Z.Warmed39 s.vm) {own C : String} {index : Nat} (hown : s.vm.findClass own = some m.cls) (w1 : (Jvm.Cond.classLink own index C).before a0 Z = true) (w2 : (Jvm.Cond.arrayOver (.object C)).before a0 Z = true) (eT : T.heap = h) (hd : decode c.code pc = .ok (.anewarray index, 3)) {n : Int32} (hn : ¬ n < 0) {cap : Nat} (hcap : n.toNatClampNeg ≤ cap) (hb : cap * 8 ≤ 536870912) (hc : cells + 1 ≤ R.cells) (hl : slots + cap ≤ R.slots) (hp : pc + 3 = pc') (k : ∀ T' h', Stand p l e R s m args below meth c T' locs (cells + 1) (slots + cap) → T'.heap = h' → ∀ cA, Ext h h' → ∀ b, b = h.size → Arr Z h' b (newA cA (.object C) n) (.object C) → Ends p.tables e below (T'.setTop (mkF m pc' ls (.ref b :: st))) P) : Ends p.tables e below (T.setTop (mkF m pc ls (.int n :: st))) P := by
  subst hp
  obtain ⟨T', h', cA, X', e', E, A, -, s'⟩ := newR X hx hZ hown w1 w2 eT (g := mkF m pc ls (.int n :: st)) rfl hd rfl hn hcap hb hc hl
  exact own_via s' (k T' h' X' e' cA E _ rfl A)
theorem s_stI (X : Stand p l e R s m args below meth c T locs cells slots) (hx : p.tables.exec = Jvm.exec) (hZ : Z.Warmed39 s.vm) (eT : T.heap = h) {a : Addr} {cl : Cell} (A : Arr Z h a cl .int) {j : Int32} {x : Int32} (hj : ¬ (j < 0 ∨ cl.slots.size ≤ j.toNatClampNeg)) (hd : decode c.code pc = .ok (.iastore, 1)) (hp : pc + 1 = pc') (k : ∀ T' h', Stand p l e R s m args below meth c T' (locs ++ [⟨a, j.toNatClampNeg⟩]) cells slots → T'.heap = h' → Wr h h' a j.toNatClampNeg (.int x) → Ends p.tables e below (T'.setTop (mkF m pc' ls st)) P) : Ends p.tables e below (T.setTop (mkF m pc ls (.int x :: .int j :: .ref a :: st))) P := by
  subst hp
  obtain ⟨T', h', X', e', W, s'⟩ := stI X hx hZ eT A (j := j) hj (g := mkF m pc ls (.int x :: .int j :: .ref a :: st)) rfl rfl hd
  exact own_via s' (k T' h' X' e' W)
theorem s_stJ (X : Stand p l e R s m args below meth c T locs cells slots) (hx : p.tables.exec = Jvm.exec) (hZ : Z.Warmed39 s.vm) (eT : T.heap = h) {a : Addr} {cl : Cell} (A : Arr Z h a cl .long) {j : Int32} {x : Int64} (hj : ¬ (j < 0 ∨ cl.slots.size ≤ j.toNatClampNeg)) (hd : decode c.code pc = .ok (.lastore, 1)) (hp : pc + 1 = pc') (k : ∀ T' h', Stand p l e R s m args below meth c T' (locs ++ [⟨a, j.toNatClampNeg⟩]) cells slots → T'.heap = h' → Wr h h' a j.toNatClampNeg (.long x) → Ends p.tables e below (T'.setTop (mkF m pc' ls st)) P) : Ends p.tables e below (T.setTop (mkF m pc ls (.long x :: .int j :: .ref a :: st))) P := by
  subst hp
  obtain ⟨T', h', X', e', W, s'⟩ := stJ X hx hZ eT A (j := j) hj (g := mkF m pc ls (.long x :: .int j :: .ref a :: st)) rfl rfl hd
  exact own_via s' (k T' h' X' e' W)
theorem s_stC (X : Stand p l e R s m args below meth c T locs cells slots) (hx : p.tables.exec = Jvm.exec) (hZ : Z.Warmed39 s.vm) (eT : T.heap = h) {a : Addr} {cl : Cell} (A : Arr Z h a cl .char) {j : Int32} {x : Int32} (hj : ¬ (j < 0 ∨ cl.slots.size ≤ j.toNatClampNeg)) (hd : decode c.code pc = .ok (.castore, 1)) (hp : pc + 1 = pc') (k : ∀ T' h', Stand p l e R s m args below meth c T' (locs ++ [⟨a, j.toNatClampNeg⟩]) cells slots → T'.heap = h' → Wr h h' a j.toNatClampNeg (.int (nar .char x)) → Ends p.tables e below (T'.setTop (mkF m pc' ls st)) P) : Ends p.tables e below (T.setTop (mkF m pc ls (.int x :: .int j :: .ref a :: st))) P := by
  subst hp
  obtain ⟨T', h', X', e', W, s'⟩ := stC X hx hZ eT A (j := j) hj (g := mkF m pc ls (.int x :: .int j :: .ref a :: st)) rfl rfl hd
  exact own_via s' (k T' h' X' e' W)
theorem s_stB (X : Stand p l e R s m args below meth c T locs cells slots) (hx : p.tables.exec = Jvm.exec) (hZ : Z.Warmed39 s.vm) (eT : T.heap = h) {a : Addr} {cl : Cell} (A : Arr Z h a cl .byte) {j : Int32} {x : Int32} (hj : ¬ (j < 0 ∨ cl.slots.size ≤ j.toNatClampNeg)) (hd : decode c.code pc = .ok (.bastore, 1)) (hp : pc + 1 = pc') (k : ∀ T' h', Stand p l e R s m args below meth c T' (locs ++ [⟨a, j.toNatClampNeg⟩]) cells slots → T'.heap = h' → Wr h h' a j.toNatClampNeg (.int (nar .byte x)) → Ends p.tables e below (T'.setTop (mkF m pc' ls st)) P) : Ends p.tables e below (T.setTop (mkF m pc ls (.int x :: .int j :: .ref a :: st))) P := by
  subst hp
  obtain ⟨T', h', X', e', W, s'⟩ := stB X hx hZ eT A (j := j) hj (g := mkF m pc ls (.int x :: .int j :: .ref a :: st)) rfl rfl hd
  exact own_via s' (k T' h' X' e' W)
theorem s_stN (X : Stand p l e R s m args below meth c T locs cells slots) (hx : p.tables.exec = Jvm.exec) (hZ : Z.Warmed39 s.vm) (eT : T.heap = h) {a : Addr} {cl : Cell} {ty : FieldType} (A : Arr Z h a cl ty) (hr : ty.isReference = true) {j : Int32} (hj : ¬ (j < 0 ∨ cl.slots.size ≤ j.toNatClampNeg)) (hd : decode c.code pc = .ok (.aastore, 1)) (hp : pc + 1 = pc') (k : ∀ T' h', Stand p l e R s m args below meth c T' (locs ++ [⟨a, j.toNatClampNeg⟩]) cells slots → T'.heap = h' → Wr h h' a j.toNatClampNeg .null → Ends p.tables e below (T'.setTop (mkF m pc' ls st)) P) : Ends p.tables e below (T.setTop (mkF m pc ls (.null :: .int j :: .ref a :: st))) P := by
  subst hp
  obtain ⟨T', h', X', e', W, s'⟩ := stR X hx hZ eT A (j := j) hj hr (Or.inl rfl) (g := mkF m pc ls (.null :: .int j :: .ref a :: st)) rfl rfl hd
  exact own_via s' (k T' h' X' e' W)
theorem s_iaload (X : Stand p l e R s m args below meth c T locs cells slots) (hx : p.tables.exec = Jvm.exec) (hZ : Z.Warmed39 s.vm) (eT : T.heap = h) {a : Addr} {k : ClassId} {z : Int32} {vs : List Value} {dv v : Value} {j : Int32} (F : Arv Z h a k .int z vs dv) (hj : ¬ j < 0 ∧ j < z) (hv : vs.getD j.toNatClampNeg dv = v) (hd : decode c.code pc = .ok (.iaload, 1)) (hp : pc + 1 = pc') (hr : Ends p.tables e below (T.setTop (mkF m pc' ls (v :: st))) P) : Ends p.tables e below (T.setTop (mkF m pc ls (.int j :: .ref a :: st))) P := by
  subst hp
  obtain ⟨cl, A, -, S, M, H, -⟩ := F
  have hin := inb_of S hj
  exact own_via (X.iaload hx (j := j) (v := v) (by rw [eT]; exact A.1) (State.isArrayOf_alike hZ.alike A.2.1) A.2.2 hin (H.at hin hv) (g := mkF m pc ls (.int j :: .ref a :: st)) rfl rfl hd) hr
theorem s_laload (X : Stand p l e R s m args below meth c T locs cells slots) (hx : p.tables.exec = Jvm.exec) (hZ : Z.Warmed39 s.vm) (eT : T.heap = h) {a : Addr} {k : ClassId} {z : Int32} {vs : List Value} {dv v : Value} {j : Int32} (F : Arv Z h a k .long z vs dv) (hj : ¬ j < 0 ∧ j < z) (hv : vs.getD j.toNatClampNeg dv = v) (hd : decode c.code pc = .ok (.laload, 1)) (hp : pc + 1 = pc') (hr : Ends p.tables e below (T.setTop (mkF m pc' ls (v :: st))) P) : Ends p.tables e below (T.setTop (mkF m pc ls (.int j :: .ref a :: st))) P := by
  subst hp
  obtain ⟨cl, A, -, S, M, H, -⟩ := F
  have hin := inb_of S hj
  exact own_via (X.laload hx (j := j) (v := v) (by rw [eT]; exact A.1) (State.isArrayOf_alike hZ.alike A.2.1) A.2.2 hin (H.at hin hv) (g := mkF m pc ls (.int j :: .ref a :: st)) rfl rfl hd) hr
theorem s_caload (X : Stand p l e R s m args below meth c T locs cells slots) (hx : p.tables.exec = Jvm.exec) (hZ : Z.Warmed39 s.vm) (eT : T.heap = h) {a : Addr} {k : ClassId} {z : Int32} {vs : List Value} {dv v : Value} {j : Int32} (F : Arv Z h a k .char z vs dv) (hj : ¬ j < 0 ∧ j < z) (hv : vs.getD j.toNatClampNeg dv = v) (hd : decode c.code pc = .ok (.caload, 1)) (hp : pc + 1 = pc') (hr : Ends p.tables e below (T.setTop (mkF m pc' ls (v :: st))) P) : Ends p.tables e below (T.setTop (mkF m pc ls (.int j :: .ref a :: st))) P := by
  subst hp
  obtain ⟨cl, A, -, S, M, H, -⟩ := F
  have hin := inb_of S hj
  exact own_via (X.caload hx (j := j) (v := v) (by rw [eT]; exact A.1) (State.isArrayOf_alike hZ.alike A.2.1) A.2.2 hin (H.at hin hv) (g := mkF m pc ls (.int j :: .ref a :: st)) rfl rfl hd) hr
theorem s_baload (X : Stand p l e R s m args below meth c T locs cells slots) (hx : p.tables.exec = Jvm.exec) (hZ : Z.Warmed39 s.vm) (eT : T.heap = h) {a : Addr} {k : ClassId} {z : Int32} {vs : List Value} {dv v : Value} {j : Int32} (F : Arv Z h a k .byte z vs dv) (hj : ¬ j < 0 ∧ j < z) (hv : vs.getD j.toNatClampNeg dv = v) (hd : decode c.code pc = .ok (.baload, 1)) (hp : pc + 1 = pc') (hr : Ends p.tables e below (T.setTop (mkF m pc' ls (v :: st))) P) : Ends p.tables e below (T.setTop (mkF m pc ls (.int j :: .ref a :: st))) P := by
  subst hp
  obtain ⟨cl, A, -, S, M, H, -⟩ := F
  have hin := inb_of S hj
  exact own_via (X.baloadBytes hx (j := j) (v := v) (by rw [eT]; exact A.1) (State.isArrayOf_alike hZ.alike A.2.1) A.2.2 hin (H.at hin hv) (g := mkF m pc ls (.int j :: .ref a :: st)) rfl rfl hd) hr
theorem s_arraylength (X : Stand p l e R s m args below meth c T locs cells slots) (hx : p.tables.exec = Jvm.exec) (hZ : Z.Warmed39 s.vm) (eT : T.heap = h) {a : Addr} {k : ClassId} {ty : FieldType} {z : Int32} {vs : List Value} {dv : Value} (F : Arv Z h a k ty z vs dv) (hd : decode c.code pc = .ok (.arraylength, 1)) (hp : pc + 1 = pc') (hr : Ends p.tables e below (T.setTop (mkF m pc' ls (.int z :: st))) P) : Ends p.tables e below (T.setTop (mkF m pc ls (.ref a :: st))) P := by
  subst hp
  obtain ⟨cl, A, -, S, M, H, -⟩ := F
  refine own_via (X.arraylength hx (by rw [eT]; exact A.1) (State.isArrayOf_alike hZ.alike A.2.1) (g := mkF m pc ls (.ref a :: st)) rfl rfl hd) ?_
  rw [len_of S M]
  exact hr
theorem own_set {a : Addr} {k : ClassId} {ty : FieldType} {z : Int32} {vs : List Value} {dv v : Value} {j : Int32} {cl : Cell} {h' : Heap} (F : ∃ c : Cell, c = cl ∧ Arr Z h a c ty ∧ c.cls = k ∧ c.slots.size = z.toNatClampNeg ∧ ¬ z < 0 ∧ Has c vs dv ∧ ∀ i, i < c.slots.size → fits ty (vs.getD i dv) = true) (hv : fits ty v = true) (W : Wr h h' a j.toNatClampNeg v) (i : Nat) (hj : j.toNatClampNeg = i) (hi : i < vs.length) : Arv Z h' a k ty z (vs.set i v) dv := by
  obtain ⟨c, rfl, A, q1, S, M, H, G⟩ := F
  exact Arv.set A q1 S M H G hv W i hj hi
theorem s_putI (X : Stand p l e R s m args below meth c T locs cells slots) (hx : p.tables.exec = Jvm.exec) (hZ : Z.Warmed39 s.vm) (eT : T.heap = h) {a : Addr} {k : ClassId} {z : Int32} {vs : List Value} {dv : Value} {j : Int32} {x : Int32} (F : Arv Z h a k .int z vs dv) (hj : ¬ j < 0 ∧ j < z) (i : Nat) (hi : j.toNatClampNeg = i) (hl : i < vs.length) (hd : decode c.code pc = .ok (.iastore, 1)) (hp : pc + 1 = pc') (kk : ∀ T' h', Stand p l e R s m args below meth c T' (locs ++ [⟨a, j.toNatClampNeg⟩]) cells slots → T'.heap = h' → Wr h h' a j.toNatClampNeg (.int x) → Arv Z h' a k .int z (vs.set i (.int x)) dv → Ends p.tables e below (T'.setTop (mkF m pc' ls st)) P) : Ends p.tables e below (T.setTop (mkF m pc ls (.int x :: .int j :: .ref a :: st))) P := by
  obtain ⟨cl, A, q1, S, M, H, G⟩ := F
  exact s_stI X hx hZ eT A (inb_of S hj) hd hp fun T' h' X' e' W => kk T' h' X' e' W (Arv.set A q1 S M H G rfl W i hi hl)
theorem s_putJ (X : Stand p l e R s m args below meth c T locs cells slots) (hx : p.tables.exec = Jvm.exec) (hZ : Z.Warmed39 s.vm) (eT : T.heap = h) {a : Addr} {k : ClassId} {z : Int32} {vs : List Value} {dv : Value} {j : Int32} {x : Int64} (F : Arv Z h a k .long z vs dv) (hj : ¬ j < 0 ∧ j < z) (i : Nat) (hi : j.toNatClampNeg = i) (hl : i < vs.length) (hd : decode c.code pc = .ok (.lastore, 1)) (hp : pc + 1 = pc') (kk : ∀ T' h', Stand p l e R s m args below meth c T' (locs ++ [⟨a, j.toNatClampNeg⟩]) cells slots → T'.heap = h' → Wr h h' a j.toNatClampNeg (.long x) → Arv Z h' a k .long z (vs.set i (.long x)) dv → Ends p.tables e below (T'.setTop (mkF m pc' ls st)) P) : Ends p.tables e below (T.setTop (mkF m pc ls (.long x :: .int j :: .ref a :: st))) P := by
  obtain ⟨cl, A, q1, S, M, H, G⟩ := F
  exact s_stJ X hx hZ eT A (inb_of S hj) hd hp fun T' h' X' e' W => kk T' h' X' e' W (Arv.set A q1 S M H G rfl W i hi hl)
theorem s_putC (X : Stand p l e R s m args below meth c T locs cells slots) (hx : p.tables.exec = Jvm.exec) (hZ : Z.Warmed39 s.vm) (eT : T.heap = h) {a : Addr} {k : ClassId} {z : Int32} {vs : List Value} {dv : Value} {j : Int32} {x : Int32} (F : Arv Z h a k .char z vs dv) (hj : ¬ j < 0 ∧ j < z) (i : Nat) (hi : j.toNatClampNeg = i) (hl : i < vs.length) (hd : decode c.code pc = .ok (.castore, 1)) (hp : pc + 1 = pc') (kk : ∀ T' h', Stand p l e R s m args below meth c T' (locs ++ [⟨a, j.toNatClampNeg⟩]) cells slots → T'.heap = h' → Wr h h' a j.toNatClampNeg (.int (nar .char x)) → Arv Z h' a k .char z (vs.set i (.int (nar .char x))) dv → Ends p.tables e below (T'.setTop (mkF m pc' ls st)) P) : Ends p.tables e below (T.setTop (mkF m pc ls (.int x :: .int j :: .ref a :: st))) P := by
  obtain ⟨cl, A, q1, S, M, H, G⟩ := F
  exact s_stC X hx hZ eT A (inb_of S hj) hd hp fun T' h' X' e' W => kk T' h' X' e' W (Arv.set A q1 S M H G (fits_nar_char _) W i hi hl)
theorem s_putB (X : Stand p l e R s m args below meth c T locs cells slots) (hx : p.tables.exec = Jvm.exec) (hZ : Z.Warmed39 s.vm) (eT : T.heap = h) {a : Addr} {k : ClassId} {z : Int32} {vs : List Value} {dv : Value} {j : Int32} {x : Int32} (F : Arv Z h a k .byte z vs dv) (hj : ¬ j < 0 ∧ j < z) (i : Nat) (hi : j.toNatClampNeg = i) (hl : i < vs.length) (hd : decode c.code pc = .ok (.bastore, 1)) (hp : pc + 1 = pc') (kk : ∀ T' h', Stand p l e R s m args below meth c T' (locs ++ [⟨a, j.toNatClampNeg⟩]) cells slots → T'.heap = h' → Wr h h' a j.toNatClampNeg (.int (nar .byte x)) → Arv Z h' a k .byte z (vs.set i (.int (nar .byte x))) dv → Ends p.tables e below (T'.setTop (mkF m pc' ls st)) P) : Ends p.tables e below (T.setTop (mkF m pc ls (.int x :: .int j :: .ref a :: st))) P := by
  obtain ⟨cl, A, q1, S, M, H, G⟩ := F
  exact s_stB X hx hZ eT A (inb_of S hj) hd hp fun T' h' X' e' W => kk T' h' X' e' W (Arv.set A q1 S M H G (fits_nar_byte _) W i hi hl)
theorem s_initO (X : Stand p l e R s m args below meth c T locs cells slots) (hx : p.tables.exec = Jvm.exec) (hZ : Z.Warmed39 s.vm) {own : String} {idx : Nat} (hown : s.vm.findClass own = some m.cls) (w1 : (Jvm.Cond.methodLink own idx Lib.objectInit).before a0 Z = true) (w2 : (Jvm.Cond.instanceMethod Lib.objectInit).before a0 Z = true) (w3 : (Jvm.Cond.code Lib.objectInit ⟨#[0xb1]⟩ 1 none).before a0 Z = true) (eT : T.heap = h) (hsize : ls.size = c.maxLocals) {a : Addr} (hd : decode c.code pc = .ok (.invokespecial idx, 3)) (hf : 1 ≤ R.frames) {W : Nat} (hW : (st.map fun v => v.category).sum ≤ W) (hl : W + 12 ≤ R.locals) (hp : pc + 3 = pc') (k : ∀ T', Stand p l e R s m args below meth c T' locs cells slots → T'.heap = h → Ends p.tables e below (T'.setTop (mkF m pc' ls st)) P) : Ends p.tables e below (T.setTop (mkF m pc ls (.ref a :: st))) P := by
  subst hp
  obtain ⟨T', X', e', s'⟩ := initO X hx hZ hown w1 w2 w3 eT (g := mkF m pc ls (.ref a :: st)) rfl hsize rfl hd hf (W := W) (by show 2 * 0 + _ ≤ _; omega) hl
  exact own_via s' (k T' X' e')
theorem s_castY (X : Stand p l e R s m args below meth c T locs cells slots) (hx : p.tables.exec = Jvm.exec) (hZ : Z.Warmed39 s.vm) {own K : String} {index : Nat} (hown : s.vm.findClass own = some m.cls) (w : (Jvm.Cond.classLink own index K).before a0 Z = true) (eT : T.heap = h) {a : Addr} (F : Ins Z h a K true) (hd : decode c.code pc = .ok (.checkcast index, 3)) (hp : pc + 3 = pc') (k : ∀ T', Stand p l e R s m args below meth c T' locs cells slots → T'.heap = h → Ends p.tables e below (T'.setTop (mkF m pc' ls (.ref a :: st))) P) : Ends p.tables e below (T.setTop (mkF m pc ls (.ref a :: st))) P := by
  subst hp
  obtain ⟨T', X', e', s'⟩ := castY X hx hZ hown w eT F (g := mkF m pc ls (.ref a :: st)) rfl rfl hd
  exact own_via s' (k T' X' e')
theorem s_instY (X : Stand p l e R s m args below meth c T locs cells slots) (hx : p.tables.exec = Jvm.exec) (hZ : Z.Warmed39 s.vm) {own K : String} {index : Nat} (hown : s.vm.findClass own = some m.cls) (w : (Jvm.Cond.classLink own index K).before a0 Z = true) (eT : T.heap = h) {a : Addr} (F : Ins Z h a K true) (hd : decode c.code pc = .ok (.instanceof index, 3)) (hp : pc + 3 = pc') (k : ∀ T', Stand p l e R s m args below meth c T' locs cells slots → T'.heap = h → Ends p.tables e below (T'.setTop (mkF m pc' ls (.int 1 :: st))) P) : Ends p.tables e below (T.setTop (mkF m pc ls (.ref a :: st))) P := by
  subst hp
  obtain ⟨T', X', e', s'⟩ := instY X hx hZ hown w eT F (g := mkF m pc ls (.ref a :: st)) rfl rfl hd
  exact own_via s' (k T' X' e')
theorem s_callS (X : Stand p l e R s m args below meth c T locs cells slots) (hx : p.tables.exec = Jvm.exec) (hZ : Z.Warmed39 s.vm) {y : MethodName} {bytes : ByteArray} {maxL : Nat} {ret : Option FieldType} {rm : Room} {W : Nat} {as' : Array Value} {Q : Option Value → Heap → List Loc → Prop} {own : String} {index : Nat} (hown : s.vm.findClass own = some m.cls) (w1 : (Jvm.Cond.methodLink own index y).before a0 Z = true) (w2 : (Jvm.Cond.static y).before a0 Z = true) (w3 : (Jvm.Cond.initialized y.cls).before a0 Z = true) (w4 : (Jvm.Cond.code y bytes maxL ret).before a0 Z = true) (hy : y.cls ≠ "java/lang/invoke/MethodHandle" ∧ y.cls ≠ "java/lang/invoke/VarHandle") (eT : T.heap = h) (hM : MetFree l y (head1 [Jvm.Cond.code y bytes maxL ret] rm) (fun a U => a = as' ∧ Z.Warmed39 U.vm ∧ U.heap = h) (fun _ _ _ _ _ => True) (fun _ U o U' => ∃ v L, o = .returned v ∧ Q v U'.heap L ∧ FrameEnd U o U' L rm.cells rm.slots)) (hsize : ls.size = c.maxLocals) (argsL rest : List Value) (has : as' = argsL.toArray) (hlen : ∀ sig, parseMethodDescriptor y.desc = some sig → argsL.length = sig.parameters.length) (hstack : st = argsL.reverse ++ rest) (hW : (rest.map fun v => v.category).sum ≤ W) (hf : rm.frames + 1 ≤ R.frames) (hl : W + (maxL + 11) + rm.locals ≤ R.locals) (hce : cells + rm.cells ≤ R.cells) (hsl : slots + rm.slots ≤ R.slots) (hp : pc + 3 = pc') (hd : decode c.code pc = .ok (.invokestatic index, 3)) (k : ∀ T' v L, Stand p l e R s m args below meth c T' (locs ++ L) (cells + rm.cells) (slots + rm.slots) → Q v T'.heap L → Ends p.tables e below (T'.setTop (mkF m pc' ls (v.toList ++ rest))) P) : Ends p.tables e below (T.setTop (mkF m pc ls st)) P := by
  subst hp has hstack
  obtain ⟨v, _, ⟨T', _, _, _⟩, -, X', ⟨L, hQ, e1, e2, e3⟩, s'⟩ := Jvm.LawKit.callS X hx (y := y) hown (mvT hZ w1) (mvT hZ w2) (mvT hZ w3) (mvT hZ w4) hy (backOf (W := W) hM hZ w4 w3 hf hl) (g := mkF m pc ls (argsL.reverse ++ rest)) rfl hsize (argsL := argsL) (rest := rest) hlen rfl (by show 2 * 0 + _ ≤ _; omega) hd (fun _ _ => ⟨rfl, eT, hce, hsl⟩)
  dsimp only [Pt.U, Pt.locs, Pt.cells, Pt.slots] at X' e1 e2 e3 s' hQ
  subst e1 e2 e3
  exact own_via s' (k T' v L X' hQ)
theorem s_callI (X : Stand p l e R s m args below meth c T locs cells slots) (hx : p.tables.exec = Jvm.exec) (hZ : Z.Warmed39 s.vm) {y : MethodName} {bytes : ByteArray} {maxL : Nat} {rm : Room} {W : Nat} {as' : Array Value} {Q : Option Value → Heap → List Loc → Prop} {own : String} {index : Nat} (hy1 : y.name = "<init>") (hown : s.vm.findClass own = some m.cls) (w1 : (Jvm.Cond.methodLink own index y).before a0 Z = true) (w2 : (Jvm.Cond.instanceMethod y).before a0 Z = true) (w3 : (Jvm.Cond.initialized y.cls).before a0 Z = true) (w4 : (Jvm.Cond.code y bytes maxL none).before a0 Z = true) (hy : y.cls ≠ "java/lang/invoke/MethodHandle" ∧ y.cls ≠ "java/lang/invoke/VarHandle") (eT : T.heap = h) (hM : MetFree l y (head1 [Jvm.Cond.code y bytes maxL none] rm) (fun a U => a = as' ∧ Z.Warmed39 U.vm ∧ U.heap = h) (fun _ _ _ _ _ => True) (fun _ U o U' => ∃ v L, o = .returned v ∧ Q v U'.heap L ∧ FrameEnd U o U' L rm.cells rm.slots)) (a : Addr) (hsize : ls.size = c.maxLocals) (argsL rest : List Value) (has : as' = (.ref a :: argsL).toArray) (hlen : ∀ sig, parseMethodDescriptor y.desc = some sig → argsL.length = sig.parameters.length) (hstack : st = argsL.reverse ++ .ref a :: rest) (hW : (rest.map fun v => v.category).sum ≤ W) (hf : rm.frames + 1 ≤ R.frames) (hl : W + (maxL + 11) + rm.locals ≤ R.locals) (hce : cells + rm.cells ≤ R.cells) (hsl : slots + rm.slots ≤ R.slots) (hp : pc + 3 = pc') (hd : decode c.code pc = .ok (.invokespecial index, 3)) (k : ∀ T' v L, Stand p l e R s m args below meth c T' (locs ++ L) (cells + rm.cells) (slots + rm.slots) → Q v T'.heap L → Ends p.tables e below (T'.setTop (mkF m pc' ls (v.toList ++ rest))) P) : Ends p.tables e below (T.setTop (mkF m pc ls st)) P := by
  subst hp has hstack
  obtain ⟨v, _, ⟨T', _, _, _⟩, -, X', ⟨L, hQ, e1, e2, e3⟩, s'⟩ := X.specialBack hx (y := y) hy1 hown (mvT hZ w1) (mvT hZ w2) (mvT hZ w4) hy (backOf (W := W) hM hZ w4 w3 hf hl) (g := mkF m pc ls (argsL.reverse ++ .ref a :: rest)) rfl hsize (Steps.refl _) (a := a) (argsL := argsL) (rest := rest) hlen rfl (by show 2 * 0 + _ ≤ _; omega) hd (fun _ _ => ⟨rfl, eT, hce, hsl⟩)
  dsimp only [Pt.U, Pt.locs, Pt.cells, Pt.slots] at X' e1 e2 e3 s' hQ
  subst e1 e2 e3
  exact own_via (fun t_ k_ => s'.trans k_) (k T' v L X' hQ)
theorem s_callV (X : Stand p l e R s m args below meth c T locs cells slots) (hx : p.tables.exec = Jvm.exec) (hZ : Z.Warmed39 s.vm) {y : MethodName} {bytes : ByteArray} {maxL : Nat} {ret : Option FieldType} {rm : Room} {W : Nat} {as' : Array Value} {Q : Option Value → Heap → List Loc → Prop} {a : Addr} {own C : String} {index : Nat} (hown : s.vm.findClass own = some m.cls) (w1 : (Jvm.Cond.methodLink own index y).before a0 Z = true) (w2 : (Jvm.Cond.declares y).before a0 Z = true) (w3 : (Jvm.Cond.initialized y.cls).before a0 Z = true) (w4 : (Jvm.Cond.code y bytes maxL ret).before a0 Z = true) (w5 : (Jvm.Cond.selects C y y).before a0 Z = true) (w6 : (Jvm.Cond.instanceMethod y).before a0 Z = true) (hy : y.cls ≠ "java/lang/invoke/MethodHandle" ∧ y.cls ≠ "java/lang/invoke/VarHandle") (eT : T.heap = h) (E : Exa Z h a C) (hM : MetFree l y (head1 [Jvm.Cond.code y bytes maxL ret] rm) (fun a U => a = as' ∧ Z.Warmed39 U.vm ∧ U.heap = h) (fun _ _ _ _ _ => True) (fun _ U o U' => ∃ v L, o = .returned v ∧ Q v U'.heap L ∧ FrameEnd U o U' L rm.cells rm.slots)) (hsize : ls.size = c.maxLocals) (argsL rest : List Value) (has : as' = (.ref a :: argsL).toArray) (hlen : ∀ sig, parseMethodDescriptor y.desc = some sig → argsL.length = sig.parameters.length) (hstack : st = argsL.reverse ++ .ref a :: rest) (hW : (rest.map fun v => v.category).sum ≤ W) (hf : rm.frames + 1 ≤ R.frames) (hl : W + (maxL + 11) + rm.locals ≤ R.locals) (hce : cells + rm.cells ≤ R.cells) (hsl : slots + rm.slots ≤ R.slots) (hp : pc + 3 = pc') (hd : decode c.code pc = .ok (.invokevirtual index, 3)) (k : ∀ T' v L, Stand p l e R s m args below meth c T' (locs ++ L) (cells + rm.cells) (slots + rm.slots) → Q v T'.heap L → Ends p.tables e below (T'.setTop (mkF m pc' ls (v.toList ++ rest))) P) : Ends p.tables e below (T.setTop (mkF m pc ls st)) P := by
  subst hp has hstack
  obtain ⟨cq, kq, qa, qb, qc⟩ := isOf hZ eT E
  obtain ⟨v, _, ⟨T', _, _, _⟩, -, X', ⟨L, hQ, e1, e2, e3⟩, s'⟩ := X.virtualBack hx (y := y) (z := y) hown (mvT hZ w1) (mvT hZ w2) (notFace_of_selects (args := #[]) (mvT hZ w5)) (mvT hZ w5) (mvT hZ w6) hy (backOf (W := W) hM hZ w4 w3 hf hl) qa qc (g := mkF m pc ls (argsL.reverse ++ .ref a :: rest)) rfl hsize (Steps.refl _) (argsL := argsL) (rest := rest) hlen rfl (by show 2 * 0 + _ ≤ _; omega) hd (fun _ _ => ⟨rfl, eT, hce, hsl⟩)
  dsimp only [Pt.U, Pt.locs, Pt.cells, Pt.slots] at X' e1 e2 e3 s' hQ
  subst e1 e2 e3
  exact own_via (fun t_ k_ => s'.trans k_) (k T' v L X' hQ)
theorem s_callP (X : Stand p l e R s m args below meth c T locs cells slots) (hx : p.tables.exec = Jvm.exec) (hZ : Z.Warmed39 s.vm) {y : MethodName} {bytes : ByteArray} {maxL : Nat} {ret : Option FieldType} {rm : Room} {W : Nat} {as' : Array Value} {Q : Option Value → Heap → List Loc → Prop} {a : Addr} {own C : String} {index : Nat} {zz : MethodName} (hzz : zz.cls = y.cls) (hown : s.vm.findClass own = some m.cls) (w1 : (Jvm.Cond.methodLink own index y).before a0 Z = true) (w2 : (Jvm.Cond.privateMethod y).before a0 Z = true) (w3 : (Jvm.Cond.initialized y.cls).before a0 Z = true) (w4 : (Jvm.Cond.code y bytes maxL ret).before a0 Z = true) (w5 : (Jvm.Cond.selects zz.cls zz zz).before a0 Z = true) (w6 : (Jvm.Cond.instanceMethod y).before a0 Z = true) (hy : y.cls ≠ "java/lang/invoke/MethodHandle" ∧ y.cls ≠ "java/lang/invoke/VarHandle") (eT : T.heap = h) (E : Exa Z h a C) (hM : MetFree l y (head1 [Jvm.Cond.code y bytes maxL ret] rm) (fun a U => a = as' ∧ Z.Warmed39 U.vm ∧ U.heap = h) (fun _ _ _ _ _ => True) (fun _ U o U' => ∃ v L, o = .returned v ∧ Q v U'.heap L ∧ FrameEnd U o U' L rm.cells rm.slots)) (hsize : ls.size = c.maxLocals) (argsL rest : List Value) (has : as' = (.ref a :: argsL).toArray) (hlen : ∀ sig, parseMethodDescriptor y.desc = some sig → argsL.length = sig.parameters.length) (hstack : st = argsL.reverse ++ .ref a :: rest) (hW : (rest.map fun v => v.category).sum ≤ W) (hf : rm.frames + 1 ≤ R.frames) (hl : W + (maxL + 11) + rm.locals ≤ R.locals) (hce : cells + rm.cells ≤ R.cells) (hsl : slots + rm.slots ≤ R.slots) (hp : pc + 3 = pc') (hd : decode c.code pc = .ok (.invokevirtual index, 3)) (k : ∀ T' v L, Stand p l e R s m args below meth c T' (locs ++ L) (cells + rm.cells) (slots + rm.slots) → Q v T'.heap L → Ends p.tables e below (T'.setTop (mkF m pc' ls (v.toList ++ rest))) P) : Ends p.tables e below (T.setTop (mkF m pc ls st)) P := by
  subst hp has hstack
  obtain ⟨cq, qa, qb⟩ := E.cell
  have hpr := Cond.privateMethod_at (mvP hZ w2 (args := #[]))
  obtain ⟨v, _, ⟨T', _, _, _⟩, -, X', ⟨L, hQ, e1, e2, e3⟩, s'⟩ := X.privateBack hx (y := y) hown (mvT hZ w1) (mvT hZ w6) (own_selPriv hzz (mvT hZ w5) hpr (mvT hZ w6) hy) hpr (mvT hZ w4) hy (backOf (W := W) hM hZ w4 w3 hf hl) (g := mkF m pc ls (argsL.reverse ++ .ref a :: rest)) rfl hsize (Steps.refl _) (a := a) (by rw [eT]; exact qa) qb (argsL := argsL) (rest := rest) hlen rfl (by show 2 * 0 + _ ≤ _; omega) hd (fun _ _ => ⟨rfl, eT, hce, hsl⟩)
  dsimp only [Pt.U, Pt.locs, Pt.cells, Pt.slots] at X' e1 e2 e3 s' hQ
  subst e1 e2 e3
  exact own_via (fun t_ k_ => s'.trans k_) (k T' v L X' hQ)
theorem s_irem (X : Stand p l e R s m args below meth c T locs cells slots) (hx : p.tables.exec = Jvm.exec) {x y : Int32} (hd : decode c.code pc = .ok (.irem, 1)) (hy : y ≠ 0) (hp : pc + 1 = pc') (hr : Ends p.tables e below (T.setTop (mkF m pc' ls (.int (x % y) :: st))) P) : Ends p.tables e below (T.setTop (mkF m pc ls (.int y :: .int x :: st))) P := by
  subst hp
  exact own_via (fun t_ k_ => iremM X hx rfl hd rfl hy k_) hr
theorem s_ldcI (X : Stand p l e R s m args below meth c T locs cells slots) (hx : p.tables.exec = Jvm.exec) (hZ : Z.Warmed39 s.vm) {own : String} {index : Nat} {v : Int32} (hown : s.vm.findClass own = some m.cls) (w : (Jvm.Cond.constant own index v).before a0 Z = true) (hd : decode c.code pc = .ok (.ldc index, 2)) (hp : pc + 2 = pc') (hr : Ends p.tables e below (T.setTop (mkF m pc' ls (.int v :: st))) P) : Ends p.tables e below (T.setTop (mkF m pc ls st)) P := by
  subst hp
  exact own_via (X.ldcInt hx hown (mvT hZ w) (g := mkF m pc ls st) rfl hd) hr
theorem s_ldcJ (X : Stand p l e R s m args below meth c T locs cells slots) (hx : p.tables.exec = Jvm.exec) (hZ : Z.Warmed39 s.vm) {own : String} {index : Nat} {v : Int64} (hown : s.vm.findClass own = some m.cls) (w : (Jvm.Cond.constantLong own index v).before a0 Z = true) (hd : decode c.code pc = .ok (.ldc2_w index, 3)) (hp : pc + 3 = pc') (hr : Ends p.tables e below (T.setTop (mkF m pc' ls (.long v :: st))) P) : Ends p.tables e below (T.setTop (mkF m pc ls st)) P := by
  subst hp
  exact own_via (X.ldc2Long hx hown (mvT hZ w) (g := mkF m pc ls st) rfl hd) hr
theorem s_callSS {vm0 : Vm} (X : Stand p l e R (s.setVm vm0) m args below meth c T locs cells slots) (hx : p.tables.exec = Jvm.exec) (hZ : Z.Warmed39 (s.setVm vm0).vm) {k0 : Nat} (hS : s.Since vm0 k0) (hk : k0 ≤ h.size) {y : MethodName} {bytes : ByteArray} {maxL : Nat} {ret : Option FieldType} {rm : Room} {W : Nat} {as' : Array Value} {Q : Option Value → Heap → List Loc → Prop} {own : String} {index : Nat} (hown : (s.setVm vm0).vm.findClass own = some m.cls) (w1 : (Jvm.Cond.methodLink own index y).before a0 Z = true) (w2 : (Jvm.Cond.static y).before a0 Z = true) (w3 : (Jvm.Cond.initialized y.cls).before a0 Z = true) (w4 : (Jvm.Cond.code y bytes maxL ret).before a0 Z = true) (hy : y.cls ≠ "java/lang/invoke/MethodHandle" ∧ y.cls ≠ "java/lang/invoke/VarHandle") (eT : T.heap = h) (hM : MetFree l y (head1 [Jvm.Cond.code y bytes maxL ret] rm) (fun a U => a = as' ∧ Z.Warmed39 U.vm ∧ U.heap = h) (fun _ _ _ _ _ => True) (fun _ U o U' => ∃ v L, o = .returned v ∧ Q v U'.heap L ∧ ReturnedEndW U o U' L rm.cells rm.slots)) (hsize : ls.size = c.maxLocals) (argsL rest : List Value) (has : as' = argsL.toArray) (hlen : ∀ sig, parseMethodDescriptor y.desc = some sig → argsL.length = sig.parameters.length) (hstack : st = argsL.reverse ++ rest) (hW : (rest.map fun v => v.category).sum ≤ W) (hf : rm.frames + 1 ≤ R.frames) (hl : W + (maxL + 11) + rm.locals ≤ R.locals) (hce : cells + rm.cells ≤ R.cells) (hsl : slots + rm.slots ≤ R.slots) (hp : pc + 3 = pc') (hd : decode c.code pc = .ok (.invokestatic index, 3)) (k : ∀ T' v L, Stand p l e R (s.setVm T'.vm) m args below meth c T' (locs ++ L) (cells + rm.cells) (slots + rm.slots) → s.Since T'.vm T'.heap.size → Z.Warmed39 (s.setVm T'.vm).vm → (s.setVm T'.vm).vm.findClass own = some m.cls → Q v T'.heap L → Ends p.tables e below (T'.setTop (mkF m pc' ls (v.toList ++ rest))) P) : Ends p.tables e below (T.setTop (mkF m pc ls st)) P := by
  subst hp has hstack
  obtain ⟨v, _, ⟨T', _, _, _⟩, -, X', S', g', ⟨L, hQ, e1, e2, e3⟩, s'⟩ := callSS X hx (y := y) hown (mvT hZ w1) (mvT hZ w2) (mvT hZ w3) (mvT hZ w4) hy (backOfS (W := W) hM hZ w4 w3 hf hl) (g := mkF m pc ls (argsL.reverse ++ rest)) rfl hsize (argsL := argsL) (rest := rest) hlen rfl (by show 2 * 0 + _ ≤ _; omega) hd (fun _ _ => ⟨rfl, eT, hce, hsl⟩)
  dsimp only [Pt.U, Pt.locs, Pt.cells, Pt.slots] at X' S' g' e1 e2 e3 s' hQ
  subst e1 e2 e3
  obtain ⟨X2, S2, Z2, o2⟩ := rebS hS (show _ ≤ T.heap.size by rw [eT]; exact hk) X' S' g' hZ hown
  exact own_via (fun t_ k_ => s'.trans k_) (k T' v L X2 S2 Z2 o2 hQ)
theorem s_callIS {vm0 : Vm} (X : Stand p l e R (s.setVm vm0) m args below meth c T locs cells slots) (hx : p.tables.exec = Jvm.exec) (hZ : Z.Warmed39 (s.setVm vm0).vm) {k0 : Nat} (hS : s.Since vm0 k0) (hk : k0 ≤ h.size) {y : MethodName} {bytes : ByteArray} {maxL : Nat} {rm : Room} {W : Nat} {as' : Array Value} {Q : Option Value → Heap → List Loc → Prop} {own : String} {index : Nat} (hown : (s.setVm vm0).vm.findClass own = some m.cls) (hy1 : y.name = "<init>") (w1 : (Jvm.Cond.methodLink own index y).before a0 Z = true) (w2 : (Jvm.Cond.instanceMethod y).before a0 Z = true) (w3 : (Jvm.Cond.initialized y.cls).before a0 Z = true) (w4 : (Jvm.Cond.code y bytes maxL none).before a0 Z = true) (hy : y.cls ≠ "java/lang/invoke/MethodHandle" ∧ y.cls ≠ "java/lang/invoke/VarHandle") (eT : T.heap = h) (hM : MetFree l y (head1 [Jvm.Cond.code y bytes maxL none] rm) (fun a U => a = as' ∧ Z.Warmed39 U.vm ∧ U.heap = h) (fun _ _ _ _ _ => True) (fun _ U o U' => ∃ v L, o = .returned v ∧ Q v U'.heap L ∧ ReturnedEndW U o U' L rm.cells rm.slots)) (a : Addr) (hsize : ls.size = c.maxLocals) (argsL rest : List Value) (has : as' = (.ref a :: argsL).toArray) (hlen : ∀ sig, parseMethodDescriptor y.desc = some sig → argsL.length = sig.parameters.length) (hstack : st = argsL.reverse ++ .ref a :: rest) (hW : (rest.map fun v => v.category).sum ≤ W) (hf : rm.frames + 1 ≤ R.frames) (hl : W + (maxL + 11) + rm.locals ≤ R.locals) (hce : cells + rm.cells ≤ R.cells) (hsl : slots + rm.slots ≤ R.slots) (hp : pc + 3 = pc') (hd : decode c.code pc = .ok (.invokespecial index, 3)) (k : ∀ T' v L, Stand p l e R (s.setVm T'.vm) m args below meth c T' (locs ++ L) (cells + rm.cells) (slots + rm.slots) → s.Since T'.vm T'.heap.size → Z.Warmed39 (s.setVm T'.vm).vm → (s.setVm T'.vm).vm.findClass own = some m.cls → Q v T'.heap L → Ends p.tables e below (T'.setTop (mkF m pc' ls (v.toList ++ rest))) P) : Ends p.tables e below (T.setTop (mkF m pc ls st)) P := by
  subst hp has hstack
  obtain ⟨v, _, ⟨T', _, _, _⟩, -, X', S', g', ⟨L, hQ, e1, e2, e3⟩, s'⟩ := X.specialBackS hx (y := y) hy1 hown (mvT hZ w1) (mvT hZ w2) (mvT hZ w4) hy (backOfS (W := W) hM hZ w4 w3 hf hl) (g := mkF m pc ls (argsL.reverse ++ .ref a :: rest)) rfl hsize (Steps.refl _) (a := a) (argsL := argsL) (rest := rest) hlen rfl (by show 2 * 0 + _ ≤ _; omega) hd (fun _ _ => ⟨rfl, eT, hce, hsl⟩)
  dsimp only [Pt.U, Pt.locs, Pt.cells, Pt.slots] at X' S' g' e1 e2 e3 s' hQ
  subst e1 e2 e3
  obtain ⟨X2, S2, Z2, o2⟩ := rebS hS (show _ ≤ T.heap.size by rw [eT]; exact hk) X' S' g' hZ hown
  exact own_via (fun t_ k_ => s'.trans k_) (k T' v L X2 S2 Z2 o2 hQ)
theorem s_callVS {vm0 : Vm} (X : Stand p l e R (s.setVm vm0) m args below meth c T locs cells slots) (hx : p.tables.exec = Jvm.exec) (hZ : Z.Warmed39 (s.setVm vm0).vm) {k0 : Nat} (hS : s.Since vm0 k0) (hk : k0 ≤ h.size) {y : MethodName} {bytes : ByteArray} {maxL : Nat} {ret : Option FieldType} {rm : Room} {W : Nat} {as' : Array Value} {Q : Option Value → Heap → List Loc → Prop} {a : Addr} {C : String} {own : String} {index : Nat} (hown : (s.setVm vm0).vm.findClass own = some m.cls) (w1 : (Jvm.Cond.methodLink own index y).before a0 Z = true) (w2 : (Jvm.Cond.declares y).before a0 Z = true) (w3 : (Jvm.Cond.initialized y.cls).before a0 Z = true) (w4 : (Jvm.Cond.code y bytes maxL ret).before a0 Z = true) (w5 : (Jvm.Cond.selects C y y).before a0 Z = true) (w6 : (Jvm.Cond.instanceMethod y).before a0 Z = true) (hy : y.cls ≠ "java/lang/invoke/MethodHandle" ∧ y.cls ≠ "java/lang/invoke/VarHandle") (eT : T.heap = h) (E : Exa Z h a C) (hM : MetFree l y (head1 [Jvm.Cond.code y bytes maxL ret] rm) (fun a U => a = as' ∧ Z.Warmed39 U.vm ∧ U.heap = h) (fun _ _ _ _ _ => True) (fun _ U o U' => ∃ v L, o = .returned v ∧ Q v U'.heap L ∧ ReturnedEndW U o U' L rm.cells rm.slots)) (hsize : ls.size = c.maxLocals) (argsL rest : List Value) (has : as' = (.ref a :: argsL).toArray) (hlen : ∀ sig, parseMethodDescriptor y.desc = some sig → argsL.length = sig.parameters.length) (hstack : st = argsL.reverse ++ .ref a :: rest) (hW : (rest.map fun v => v.category).sum ≤ W) (hf : rm.frames + 1 ≤ R.frames) (hl : W + (maxL + 11) + rm.locals ≤ R.locals) (hce : cells + rm.cells ≤ R.cells) (hsl : slots + rm.slots ≤ R.slots) (hp : pc + 3 = pc') (hd : decode c.code pc = .ok (.invokevirtual index, 3)) (k : ∀ T' v L, Stand p l e R (s.setVm T'.vm) m args below meth c T' (locs ++ L) (cells + rm.cells) (slots + rm.slots) → s.Since T'.vm T'.heap.size → Z.Warmed39 (s.setVm T'.vm).vm → (s.setVm T'.vm).vm.findClass own = some m.cls → Q v T'.heap L → Ends p.tables e below (T'.setTop (mkF m pc' ls (v.toList ++ rest))) P) : Ends p.tables e below (T.setTop (mkF m pc ls st)) P := by
  subst hp has hstack
  obtain ⟨cq, kq, qa, qb, qc⟩ := isOf hZ eT E
  obtain ⟨v, _, ⟨T', _, _, _⟩, -, X', S', g', ⟨L, hQ, e1, e2, e3⟩, s'⟩ := X.virtualBackS hx (y := y) (z := y) hown (mvT hZ w1) (mvT hZ w2) (notFace_of_selects (args := #[]) (mvT hZ w5)) (mvT hZ w5) (mvT hZ w6) hy (backOfS (W := W) hM hZ w4 w3 hf hl) qa qc (g := mkF m pc ls (argsL.reverse ++ .ref a :: rest)) rfl hsize (Steps.refl _) (argsL := argsL) (rest := rest) hlen rfl (by show 2 * 0 + _ ≤ _; omega) hd (fun _ _ => ⟨rfl, eT, hce, hsl⟩)
  dsimp only [Pt.U, Pt.locs, Pt.cells, Pt.slots] at X' S' g' e1 e2 e3 s' hQ
  subst e1 e2 e3
  obtain ⟨X2, S2, Z2, o2⟩ := rebS hS (show _ ≤ T.heap.size by rw [eT]; exact hk) X' S' g' hZ hown
  exact own_via (fun t_ k_ => s'.trans k_) (k T' v L X2 S2 Z2 o2 hQ)
theorem s_ldcS {vm0 : Vm} (X : Stand p l e R (s.setVm vm0) m args below meth c T locs cells slots) (hx : p.tables.exec = Jvm.exec) (hZ : Z.Warmed39 (s.setVm vm0).vm) {k0 : Nat} (hS : s.Since vm0 k0) (hk : k0 ≤ h.size) {own : String} {index : Nat} (hown : (s.setVm vm0).vm.findClass own = some m.cls) {text : String} (w : (Jvm.Cond.stringLink own index text).before a0 Z = true) (wS : ∀ a ∈ Bundle.stringAtoms, a.before a0 Z = true) (eT : T.heap = h) (hd : decode c.code pc = .ok (.ldc index, 2)) {n : Nat} (hn : 4 * text.toList.length ≤ n) (hbig : n ≤ 536870912) (hc : cells + 2 ≤ R.cells) (hl : slots + (n + 4) ≤ R.slots) (hp : pc + 2 = pc') (k : ∀ a T' h' k1, Stand p l e R (s.setVm T'.vm) m args below meth c T' locs (cells + 2) (slots + (n + 4)) → T'.heap = h' → Ext h h' → s.Since T'.vm k1 → k1 ≤ h'.size → Z.Warmed39 (s.setVm T'.vm).vm → (s.setVm T'.vm).vm.findClass own = some m.cls → Ends p.tables e below (T'.setTop (mkF m pc' ls (.ref a :: st))) P) : Ends p.tables e below (T.setTop (mkF m pc ls st)) P := by
  subst hp
  obtain ⟨a, T', h', k1, X', e', E', S', g', Z', o', s'⟩ := ldcS X hx hZ hown w wS eT hS hk (g := mkF m pc ls st) rfl hd hn hbig hc hl
  exact own_via s' (k a T' h' k1 X' e' E' S' g' Z' o')
theorem s_ldcSW {vm0 : Vm} (X : Stand p l e R (s.setVm vm0) m args below meth c T locs cells slots) (hx : p.tables.exec = Jvm.exec) (hZ : Z.Warmed39 (s.setVm vm0).vm) {k0 : Nat} (hS : s.Since vm0 k0) (hk : k0 ≤ h.size) {own : String} {index : Nat} (hown : (s.setVm vm0).vm.findClass own = some m.cls) {text : String} (w : (Jvm.Cond.stringLink own index text).before a0 Z = true) (wS : ∀ a ∈ Bundle.stringAtoms, a.before a0 Z = true) (eT : T.heap = h) (hd : decode c.code pc = .ok (.ldc_w index, 3)) {n : Nat} (hn : 4 * text.toList.length ≤ n) (hbig : n ≤ 536870912) (hc : cells + 2 ≤ R.cells) (hl : slots + (n + 4) ≤ R.slots) (hp : pc + 3 = pc') (k : ∀ a T' h' k1, Stand p l e R (s.setVm T'.vm) m args below meth c T' locs (cells + 2) (slots + (n + 4)) → T'.heap = h' → Ext h h' → s.Since T'.vm k1 → k1 ≤ h'.size → Z.Warmed39 (s.setVm T'.vm).vm → (s.setVm T'.vm).vm.findClass own = some m.cls → Ends p.tables e below (T'.setTop (mkF m pc' ls (.ref a :: st))) P) : Ends p.tables e below (T.setTop (mkF m pc ls st)) P := by
  subst hp
  obtain ⟨a, T', h', k1, X', e', E', S', g', Z', o', s'⟩ := ldcSW X hx hZ hown w wS eT hS hk (g := mkF m pc ls st) rfl hd hn hbig hc hl
  exact own_via s' (k a T' h' k1 X' e' E' S' g' Z' o')
end OwnLaws

theorem own_narb (x : Int32) : nar .byte x.toInt8.toInt32 = x.toInt8.toInt32 := by
  show (x.toInt8.toInt32).toInt8.toInt32 = x.toInt8.toInt32
  simp
theorem own_top (p x : Int32) (hx : x = p &&& 65535) : ((((nar .byte ((x.toUInt32 >>> ((8 : Int32) &&& 31).toUInt32).toInt32).toInt8.toInt32) &&& (255 : Int32)) <<< ((8 : Int32) &&& 31)) ||| ((nar .byte (x &&& (255 : Int32)).toInt8.toInt32) &&& (255 : Int32))) = x := by
  have hn := c_mask p 65535 16 (by decide) (by decide)
  rw [← hx] at hn
  have k8 : (8 : Int32).toBitVec.toNat % 32 = 8 := by decide
  have u := c_iushr x 8 8 k8 (by decide)
  have m1 := c_mask (nar .byte ((x.toUInt32 >>> ((8 : Int32) &&& 31).toUInt32).toInt32).toInt8.toInt32) 255 8 (by decide) (by decide)
  have m2 := c_mask (nar .byte (x &&& (255 : Int32)).toInt8.toInt32) 255 8 (by decide) (by decide)
  have m3 := c_mask x 255 8 (by decide) (by decide)
  have b1 := c_i2b ((x.toUInt32 >>> ((8 : Int32) &&& 31).toUInt32).toInt32)
  have b2 := c_i2b (x &&& (255 : Int32))
  have n1 : nar .byte ((x.toUInt32 >>> ((8 : Int32) &&& 31).toUInt32).toInt32).toInt8.toInt32 = ((x.toUInt32 >>> ((8 : Int32) &&& 31).toUInt32).toInt32).toInt8.toInt32 := own_narb _
  have n2 : nar .byte (x &&& (255 : Int32)).toInt8.toInt32 = (x &&& (255 : Int32)).toInt8.toInt32 := own_narb _
  rw [n1] at m1 ⊢
  rw [n2] at m2 ⊢
  have s1 := c_ishl (((x.toUInt32 >>> ((8 : Int32) &&& 31).toUInt32).toInt32).toInt8.toInt32 &&& (255 : Int32)) 8 8 k8
  generalize (((x.toUInt32 >>> ((8 : Int32) &&& 31).toUInt32).toInt32).toInt8.toInt32 &&& (255 : Int32)) = a at *
  generalize ((x &&& (255 : Int32)).toInt8.toInt32 &&& (255 : Int32)) = b at *
  generalize ((x.toUInt32 >>> ((8 : Int32) &&& 31).toUInt32).toInt32) = y at *
  have r1 := rng32 (a <<< ((8 : Int32) &&& 31))
  have o1 := c_or (a <<< ((8 : Int32) &&& 31)) b 8 (by decide) 256 (by decide) (by omega) (by omega) (by omega)
  have r2 := rng32 ((a <<< ((8 : Int32) &&& 31)) ||| b)
  exact Int32.toInt_inj.mp (by omega)
theorem own_d2_0 : decode prog_50_method_2_code 0 = .ok (.aload_n 0, 1) := by decide +kernel
theorem own_d2_1 : decode prog_50_method_2_code 1 = .ok (.invokespecial 7, 3) := by decide +kernel
theorem own_d2_4 : decode prog_50_method_2_code 4 = .ok (.aload_n 0, 1) := by decide +kernel
theorem own_d2_5 : decode prog_50_method_2_code 5 = .ok (.aload_n 1, 1) := by decide +kernel
theorem own_d2_6 : decode prog_50_method_2_code 6 = .ok (.putfield 12, 3) := by decide +kernel
theorem own_d2_9 : decode prog_50_method_2_code 9 = .ok (.aload_n 0, 1) := by decide +kernel
theorem own_d2_10 : decode prog_50_method_2_code 10 = .ok (.iload_n 2, 1) := by decide +kernel
theorem own_d2_11 : decode prog_50_method_2_code 11 = .ok (.putfield 16, 3) := by decide +kernel
theorem own_d2_14 : decode prog_50_method_2_code 14 = .ok (.aload_n 0, 1) := by decide +kernel
theorem own_d2_15 : decode prog_50_method_2_code 15 = .ok (.iload_n 3, 1) := by decide +kernel
theorem own_d2_16 : decode prog_50_method_2_code 16 = .ok (.putfield 20, 3) := by decide +kernel
theorem own_d2_19 : decode prog_50_method_2_code 19 = .ok (.return_, 1) := by decide +kernel
theorem own_pn0 : plainName "com/example/colomen/colomen/wire/Message" = true := by first | (simp [plainName, overriddenIn]; done) | decide +kernel
theorem own_rm2_ef (m : MethodId) (a : Addr) (b : Addr) (q : Int32) (r : Int32) : entryFrame m #[(.ref a), (.ref b), (.int q), (.int r)] 4 = mkF m 0 #[.val (.ref a), .val (.ref b), .val (.int q), .val (.int r)] [] := by first | (simp [entryFrame, mkF, argsToLocals, Value.category]; done) | rfl
def own_rm2_Q (Z : State) (a : Addr) (b : Addr) (q : Int32) (r : Int32) (h0 : Heap) (n0 : Nat) (v : Option Value) (h : Heap) (L : List Loc) : Prop := v = none ∧ Fr n0 L ∧ Keep h0 h [a] ∧ Exa Z h a "com/example/colomen/colomen/wire/Message" ∧ Fld Z h a "com/example/colomen/colomen/wire/Message" "body" "[B" (.ref b)
set_option maxRecDepth 65536 in
set_option maxHeartbeats 40000000 in
theorem own_rm2 (l : Launch) (Z : State) (a0 : Array Value) (hw : ∀ d ∈ tables_1, d.before a0 Z = true) (ws : List Jvm.Cond) (a : Addr) (b : Addr) (q : Int32) (r : Int32) (h0 : Heap) (n0 : Nat) (Z0 : n0 ≤ h0.size) (F_body : Fld Z h0 a "com/example/colomen/colomen/wire/Message" "body" "[B" .null) (F_qos : Fld Z h0 a "com/example/colomen/colomen/wire/Message" "qos" "I" (.int (0 : Int32))) (F_retained : Fld Z h0 a "com/example/colomen/colomen/wire/Message" "retained" "Z" (.int (0 : Int32))) (E_a : Exa Z h0 a "com/example/colomen/colomen/wire/Message") (g_a : n0 ≤ a) :
    MetFree l (⟨"com/example/colomen/colomen/wire/Message", "<init>", "([BIZ)V"⟩ : MethodName) (head1 (Jvm.Cond.code (⟨"com/example/colomen/colomen/wire/Message", "<init>", "([BIZ)V"⟩ : MethodName) prog_50_method_2_code 4 none :: ws) ({ frames := 1, cells := 0, slots := 0, locals := 12 } : Room)) (fun as_ U => as_ = #[(.ref a), (.ref b), (.int q), (.int r)] ∧ Z.Warmed39 U.vm ∧ U.heap = h0) (fun _ _ _ _ _ => True) (fun _ U o U' => ∃ v L, o = .returned v ∧ own_rm2_Q Z a b q r h0 n0 v U'.heap L ∧ FrameEnd U o U' L ({ frames := 1, cells := 0, slots := 0, locals := 12 } : Room).cells ({ frames := 1, cells := 0, slots := 0, locals := 12 } : Room).slots) := by
  refine MetFree.of_bodySF (plainFor_of_name own_pn0) hisR ?_
  intro p e s m args below meth c s₁ Bd hml0 hP hK
  obtain ⟨rfl, hZ, hh⟩ := hP
  have hx := Bd.exec
  have hby := Bd.bytes
  have hml : c.maxLocals = 4 := hml0
  have hown : s.vm.findClass "com/example/colomen/colomen/wire/Message" = some m.cls := findClass_of_methodNamed Bd.named
  have hnm := (name_of_methodNamed Bd.named Bd.method).1
  have X0 : Stand p l e ({ frames := 1, cells := 0, slots := 0, locals := 12 } : Room) s m #[(.ref a), (.ref b), (.int q), (.int r)] below meth c s₁ [] 0 0 := Stand.of_body Bd
  have e0 : s₁.heap = h0 := by rw [← hh, Bd.state]; rfl
  have N0 := Fr.nil n0
  refine own_begin (own_rm2_ef m a b q r) ?_
  show Ends p.tables e below (s₁.setTop (mkF m 0 #[.val (.ref a), .val (.ref b), .val (.int q), .val (.int r)] [])) _
  have Kr0 : Keep h0 h0 [a] := Keep.refl h0 _
  refine s_aloadN (pc' := 1) X0.here hx (hb hby own_d2_0) rfl rfl rfl ?_
  refine s_initO (pc' := 4) (W := 0) X0 hx hZ hown (hw _ (List.mem_of_getElem? (i := 12) rfl)) (hw _ (List.mem_of_getElem? (i := 13) rfl)) (hw _ (List.mem_of_getElem? (i := 14) rfl)) e0 (by rw [hml]; rfl) (hb hby own_d2_1) (by decide) (Nat.le_of_eq rfl) (by decide) rfl fun T1 X1 e1 => ?_
  refine s_aloadN (pc' := 5) X1.here hx (hb hby own_d2_4) rfl rfl rfl ?_
  refine s_aloadN (pc' := 6) X1.here hx (hb hby own_d2_5) rfl rfl rfl ?_
  refine s_putF (pc' := 9) (ty := (.array .byte)) X1 hx hZ hown (host := "") (Or.inl (hw _ (List.mem_of_getElem? (i := 15) rfl))) Via.refl e1 F_body E_a (Or.inr ⟨(hw _ (List.mem_of_getElem? (i := 16) rfl)), rfl, hnm⟩) (hw _ (List.mem_of_getElem? (i := 4) rfl)) (by decide) rfl rfl (hb hby own_d2_6) rfl fun T2 hp2 X2 e2 W2 => ?_
  have N2 := Fr.snoc X2 N0 g_a
  have f3 := F_body.same W2
  have f4 := F_qos.other W2 (Or.inr (slot_ne (Or.inr (hw _ (List.mem_of_getElem? (i := 18) rfl))) (Or.inr (hw _ (List.mem_of_getElem? (i := 16) rfl))) (by decide) (t := .int) (t' := (.array .byte)) (by decide) (by decide)))
  have f5 := F_retained.other W2 (Or.inr (slot_ne (Or.inr (hw _ (List.mem_of_getElem? (i := 20) rfl))) (Or.inr (hw _ (List.mem_of_getElem? (i := 16) rfl))) (by decide) (t := .boolean) (t' := (.array .byte)) (by decide) (by decide)))
  have f6 := E_a.wr W2
  have Z7 : n0 ≤ hp2.size := Nat.le_trans Z0 (Keep.of_wr W2).1
  have K8 : Keep h0 hp2 [a] := Kr0.wr W2 (Or.inl (List.mem_of_getElem? (i := 0) rfl))
  refine s_aloadN (pc' := 10) X2.here hx (hb hby own_d2_9) rfl rfl rfl ?_
  refine s_iloadN (pc' := 11) X2.here hx (hb hby own_d2_10) rfl rfl ?_
  refine s_putF (pc' := 14) (ty := .int) X2 hx hZ hown (host := "") (Or.inl (hw _ (List.mem_of_getElem? (i := 17) rfl))) Via.refl e2 f4 f6 (Or.inr ⟨(hw _ (List.mem_of_getElem? (i := 18) rfl)), rfl, hnm⟩) (hw _ (List.mem_of_getElem? (i := 4) rfl)) (by decide) rfl rfl (hb hby own_d2_11) rfl fun T9 hp9 X9 e9 W9 => ?_
  have N9 := Fr.snoc X9 N2 g_a
  have f10 := f3.other W9 (Or.inr (slot_ne (Or.inr (hw _ (List.mem_of_getElem? (i := 16) rfl))) (Or.inr (hw _ (List.mem_of_getElem? (i := 18) rfl))) (by decide) (t := (.array .byte)) (t' := .int) (by decide) (by decide)))
  have f11 := f4.same W9
  have f12 := f5.other W9 (Or.inr (slot_ne (Or.inr (hw _ (List.mem_of_getElem? (i := 20) rfl))) (Or.inr (hw _ (List.mem_of_getElem? (i := 18) rfl))) (by decide) (t := .boolean) (t' := .int) (by decide) (by decide)))
  have f13 := f6.wr W9
  have Z14 : n0 ≤ hp9.size := Nat.le_trans Z7 (Keep.of_wr W9).1
  have K15 : Keep h0 hp9 [a] := K8.wr W9 (Or.inl (List.mem_of_getElem? (i := 0) rfl))
  refine s_aloadN (pc' := 15) X9.here hx (hb hby own_d2_14) rfl rfl rfl ?_
  refine s_iloadN (pc' := 16) X9.here hx (hb hby own_d2_15) rfl rfl ?_
  refine s_putFN (pc' := 19) (v' := (.int (nar .boolean r))) (ty := .boolean) X9 hx hZ hown (hw _ (List.mem_of_getElem? (i := 19) rfl)) Via.refl e9 f12 f13 (Or.inr ⟨(hw _ (List.mem_of_getElem? (i := 20) rfl)), rfl, hnm⟩) (hw _ (List.mem_of_getElem? (i := 4) rfl)) (by decide) rfl (fits_nar_bool _) (hb hby own_d2_16) rfl fun T16 hp16 X16 e16 W16 => ?_
  have N16 := Fr.snoc X16 N9 g_a
  have f17 := f10.other W16 (Or.inr (slot_ne (Or.inr (hw _ (List.mem_of_getElem? (i := 16) rfl))) (Or.inr (hw _ (List.mem_of_getElem? (i := 20) rfl))) (by decide) (t := (.array .byte)) (t' := .boolean) (by decide) (by decide)))
  have f18 := f11.other W16 (Or.inr (slot_ne (Or.inr (hw _ (List.mem_of_getElem? (i := 18) rfl))) (Or.inr (hw _ (List.mem_of_getElem? (i := 20) rfl))) (by decide) (t := .int) (t' := .boolean) (by decide) (by decide)))
  have f19 := f12.same W16
  have f20 := f13.wr W16
  have Z21 : n0 ≤ hp16.size := Nat.le_trans Z14 (Keep.of_wr W16).1
  have K22 : Keep h0 hp16 [a] := K15.wr W16 (Or.inl (List.mem_of_getElem? (i := 0) rfl))
  obtain ⟨fs, hr, hrun, hended, hW, hsame⟩ := X16.leave (v := none) (fun _ => rfl)
  refine ⟨_, _, X16.returnOut hx Bd.returns (hb hby own_d2_19) hr, hrun, hended, _, _, rfl, ?_, ⟨_, rfl⟩, hW, hsame.mono (by decide) (by decide)⟩
  show own_rm2_Q Z a b q r h0 n0 _ T16.heap _
  rw [e16]
  exact ⟨rfl, N16, K22, f20, f17⟩
theorem own_d1_0 : decode prog_50_method_1_code 0 = .ok (.aload_n 0, 1) := by decide +kernel
theorem own_d1_1 : decode prog_50_method_1_code 1 = .ok (.aload_n 1, 1) := by decide +kernel
theorem own_d1_2 : decode prog_50_method_1_code 2 = .ok (.iload_n 2, 1) := by decide +kernel
theorem own_d1_3 : decode prog_50_method_1_code 3 = .ok (.iconst 0, 1) := by decide +kernel
theorem own_d1_4 : decode prog_50_method_1_code 4 = .ok (.invokespecial 1, 3) := by decide +kernel
theorem own_pd0 : parseMethodDescriptor "([BIZ)V" = some ⟨[(.array .byte), .int, .boolean], none⟩ := by decide +kernel
theorem own_d1_7 : decode prog_50_method_1_code 7 = .ok (.return_, 1) := by decide +kernel
theorem own_rm1_ef (m : MethodId) (a : Addr) (b : Addr) (q : Int32) : entryFrame m #[(.ref a), (.ref b), (.int q)] 3 = mkF m 0 #[.val (.ref a), .val (.ref b), .val (.int q)] [] := by first | (simp [entryFrame, mkF, argsToLocals, Value.category]; done) | rfl
def own_rm1_Q (Z : State) (a : Addr) (b : Addr) (q : Int32) (h0 : Heap) (n0 : Nat) (v : Option Value) (h : Heap) (L : List Loc) : Prop := v = none ∧ Fr n0 L ∧ Keep h0 h [a] ∧ Exa Z h a "com/example/colomen/colomen/wire/Message" ∧ Fld Z h a "com/example/colomen/colomen/wire/Message" "body" "[B" (.ref b)
set_option maxRecDepth 65536 in
set_option maxHeartbeats 40000000 in
theorem own_rm1 (l : Launch) (Z : State) (a0 : Array Value) (hw : ∀ d ∈ tables_1, d.before a0 Z = true) (ws : List Jvm.Cond) (a : Addr) (b : Addr) (q : Int32) (h0 : Heap) (n0 : Nat) (Z0 : n0 ≤ h0.size) (F_body : Fld Z h0 a "com/example/colomen/colomen/wire/Message" "body" "[B" .null) (F_qos : Fld Z h0 a "com/example/colomen/colomen/wire/Message" "qos" "I" (.int (0 : Int32))) (F_retained : Fld Z h0 a "com/example/colomen/colomen/wire/Message" "retained" "Z" (.int (0 : Int32))) (E_a : Exa Z h0 a "com/example/colomen/colomen/wire/Message") (g_a : n0 ≤ a) :
    MetFree l (⟨"com/example/colomen/colomen/wire/Message", "<init>", "([BI)V"⟩ : MethodName) (head1 (Jvm.Cond.code (⟨"com/example/colomen/colomen/wire/Message", "<init>", "([BI)V"⟩ : MethodName) prog_50_method_1_code 3 none :: ws) ({ frames := 2, cells := 0, slots := 0, locals := 27 } : Room)) (fun as_ U => as_ = #[(.ref a), (.ref b), (.int q)] ∧ Z.Warmed39 U.vm ∧ U.heap = h0) (fun _ _ _ _ _ => True) (fun _ U o U' => ∃ v L, o = .returned v ∧ own_rm1_Q Z a b q h0 n0 v U'.heap L ∧ FrameEnd U o U' L ({ frames := 2, cells := 0, slots := 0, locals := 27 } : Room).cells ({ frames := 2, cells := 0, slots := 0, locals := 27 } : Room).slots) := by
  refine MetFree.of_bodySF (plainFor_of_name own_pn0) hisR ?_
  intro p e s m args below meth c s₁ Bd hml0 hP hK
  obtain ⟨rfl, hZ, hh⟩ := hP
  have hx := Bd.exec
  have hby := Bd.bytes
  have hml : c.maxLocals = 3 := hml0
  have hown : s.vm.findClass "com/example/colomen/colomen/wire/Message" = some m.cls := findClass_of_methodNamed Bd.named
  have hnm := (name_of_methodNamed Bd.named Bd.method).1
  have X0 : Stand p l e ({ frames := 2, cells := 0, slots := 0, locals := 27 } : Room) s m #[(.ref a), (.ref b), (.int q)] below meth c s₁ [] 0 0 := Stand.of_body Bd
  have e0 : s₁.heap = h0 := by rw [← hh, Bd.state]; rfl
  have N0 := Fr.nil n0
  refine own_begin (own_rm1_ef m a b q) ?_
  show Ends p.tables e below (s₁.setTop (mkF m 0 #[.val (.ref a), .val (.ref b), .val (.int q)] [])) _
  have Kr0 : Keep h0 h0 [a] := Keep.refl h0 _
  refine s_aloadN (pc' := 1) X0.here hx (hb hby own_d1_0) rfl rfl rfl ?_
  refine s_aloadN (pc' := 2) X0.here hx (hb hby own_d1_1) rfl rfl rfl ?_
  refine s_iloadN (pc' := 3) X0.here hx (hb hby own_d1_2) rfl rfl ?_
  refine s_iconst (pc' := 4) X0.here hx (v := (0 : Int32)) (hb hby own_d1_3) rfl rfl ?_
  refine s_callI (pc' := 7) (W := 0) X0 hx hZ  rfl hown (hw _ (List.mem_of_getElem? (i := 9) rfl)) (hw _ (List.mem_of_getElem? (i := 10) rfl)) (hw _ (List.mem_of_getElem? (i := 5) rfl)) (hw _ (List.mem_of_getElem? (i := 11) rfl)) (by decide) e0 (own_rm2 l Z a0 hw [] a b q (0 : Int32) h0 n0 Z0 F_body F_qos F_retained E_a g_a) a (by rw [hml]; rfl) [(.ref b), (.int q), (.int (0 : Int32))] [] rfl (lenOf own_pd0 rfl) rfl (Nat.le_of_eq rfl) (by decide) (by decide) (by decide) (by decide) rfl (hb hby own_d1_4) fun T1 v1 Lc1 X1 hQ1 => ?_
  obtain ⟨rfl, Nq1, Kq1, Ea, Fa⟩ := hQ1
  have N1 := Fr.app N0 Nq1
  have f2 := E_a.keep Kq1
  have Z3 : n0 ≤ T1.heap.size := Nat.le_trans Z0 Kq1.1
  have K4 : Keep h0 T1.heap [a] := Kr0.trans Kq1 (allS (Or.inl (List.mem_of_getElem? (i := 0) rfl)) all0)
  show Ends p.tables e below (T1.setTop (mkF m 7 #[.val (.ref a), .val (.ref b), .val (.int q)] [])) _
  obtain ⟨fs, hr, hrun, hended, hW, hsame⟩ := X1.leave (v := none) (fun _ => rfl)
  refine ⟨_, _, X1.returnOut hx Bd.returns (hb hby own_d1_7) hr, hrun, hended, _, _, rfl, ?_, ⟨_, rfl⟩, hW, hsame.mono (by decide) (by decide)⟩
  show own_rm1_Q Z a b q h0 n0 _ T1.heap _
  exact ⟨rfl, N1, K4, Ea, Fa⟩
theorem own_d4_0 : decode prog_50_method_9_code 0 = .ok (.aload_n 0, 1) := by decide +kernel
theorem own_d4_1 : decode prog_50_method_9_code 1 = .ok (.getfield 12, 3) := by decide +kernel
theorem own_d4_4 : decode prog_50_method_9_code 4 = .ok (.iconst 0, 1) := by decide +kernel
theorem own_d4_5 : decode prog_50_method_9_code 5 = .ok (.baload, 1) := by decide +kernel
theorem own_d4_6 : decode prog_50_method_9_code 6 = .ok (.sipush 255, 3) := by decide +kernel
theorem own_d4_9 : decode prog_50_method_9_code 9 = .ok (.iand, 1) := by decide +kernel
theorem own_d4_10 : decode prog_50_method_9_code 10 = .ok (.bipush 8, 2) := by decide +kernel
theorem own_d4_12 : decode prog_50_method_9_code 12 = .ok (.ishl, 1) := by decide +kernel
theorem own_d4_13 : decode prog_50_method_9_code 13 = .ok (.aload_n 0, 1) := by decide +kernel
theorem own_d4_14 : decode prog_50_method_9_code 14 = .ok (.getfield 12, 3) := by decide +kernel
theorem own_d4_17 : decode prog_50_method_9_code 17 = .ok (.iconst 1, 1) := by decide +kernel
theorem own_d4_18 : decode prog_50_method_9_code 18 = .ok (.baload, 1) := by decide +kernel
theorem own_d4_19 : decode prog_50_method_9_code 19 = .ok (.sipush 255, 3) := by decide +kernel
theorem own_d4_22 : decode prog_50_method_9_code 22 = .ok (.iand, 1) := by decide +kernel
theorem own_d4_23 : decode prog_50_method_9_code 23 = .ok (.ior, 1) := by decide +kernel
theorem own_d4_24 : decode prog_50_method_9_code 24 = .ok (.ireturn, 1) := by decide +kernel
theorem own_rm4_ef (m : MethodId) (a : Addr) (b : Addr) (k : ClassId) (x0 : Int32) (x1 : Int32) (x2 : Int32) (x3 : Int32) : entryFrame m #[(.ref a)] 1 = mkF m 0 #[.val (.ref a)] [] := by first | (simp [entryFrame, mkF, argsToLocals, Value.category]; done) | rfl
def own_rm4_Q (Z : State) (a : Addr) (b : Addr) (k : ClassId) (x0 : Int32) (x1 : Int32) (x2 : Int32) (x3 : Int32) (h0 : Heap) (n0 : Nat) (v : Option Value) (h : Heap) (L : List Loc) : Prop := v = some (.int (((x0 &&& (255 : Int32)) <<< ((8 : Int32) &&& 31)) ||| (x1 &&& (255 : Int32)))) ∧ Fr n0 L ∧ h = h0
set_option maxRecDepth 65536 in
set_option maxHeartbeats 40000000 in
theorem own_rm4 (l : Launch) (Z : State) (a0 : Array Value) (hw : ∀ d ∈ tables_1, d.before a0 Z = true) (ws : List Jvm.Cond) (a : Addr) (b : Addr) (k : ClassId) (x0 : Int32) (x1 : Int32) (x2 : Int32) (x3 : Int32) (h0 : Heap) (n0 : Nat) (Z0 : n0 ≤ h0.size) (F_body : Fld Z h0 a "com/example/colomen/colomen/wire/Message" "body" "[B" (.ref b)) (V_b : Arv Z h0 b k .byte (4 : Int32) [(.int x0), (.int x1), (.int x2), (.int x3)] (.int (0 : Int32))) :
    MetFree l (⟨"com/example/colomen/colomen/wire/Message", "topicNameLength", "()I"⟩ : MethodName) (head1 (Jvm.Cond.code (⟨"com/example/colomen/colomen/wire/Message", "topicNameLength", "()I"⟩ : MethodName) prog_50_method_9_code 1 (some .int) :: ws) ({ frames := 0, cells := 0, slots := 0, locals := 0 } : Room)) (fun as_ U => as_ = #[(.ref a)] ∧ Z.Warmed39 U.vm ∧ U.heap = h0) (fun _ _ _ _ _ => True) (fun _ U o U' => ∃ v L, o = .returned v ∧ own_rm4_Q Z a b k x0 x1 x2 x3 h0 n0 v U'.heap L ∧ FrameEnd U o U' L ({ frames := 0, cells := 0, slots := 0, locals := 0 } : Room).cells ({ frames := 0, cells := 0, slots := 0, locals := 0 } : Room).slots) := by
  refine MetFree.of_bodySF (plainFor_of_name own_pn0) hisR ?_
  intro p e s m args below meth c s₁ Bd hml0 hP hK
  obtain ⟨rfl, hZ, hh⟩ := hP
  have hx := Bd.exec
  have hby := Bd.bytes
  have hml : c.maxLocals = 1 := hml0
  have hown : s.vm.findClass "com/example/colomen/colomen/wire/Message" = some m.cls := findClass_of_methodNamed Bd.named
  have hnm := (name_of_methodNamed Bd.named Bd.method).1
  have X0 : Stand p l e ({ frames := 0, cells := 0, slots := 0, locals := 0 } : Room) s m #[(.ref a)] below meth c s₁ [] 0 0 := Stand.of_body Bd
  have e0 : s₁.heap = h0 := by rw [← hh, Bd.state]; rfl
  have N0 := Fr.nil n0
  refine own_begin (own_rm4_ef m a b k x0 x1 x2 x3) ?_
  show Ends p.tables e below (s₁.setTop (mkF m 0 #[.val (.ref a)] [])) _
  refine s_aloadN (pc' := 1) X0.here hx (hb hby own_d4_0) rfl rfl rfl ?_
  refine s_getF (pc' := 4) X0 hx hZ hown (host := "") (Or.inl (hw _ (List.mem_of_getElem? (i := 15) rfl))) Via.refl e0 F_body (hb hby own_d4_1) rfl fun T1 X1 e1 => ?_
  refine s_iconst (pc' := 5) X1.here hx (v := (0 : Int32)) (hb hby own_d4_4) rfl rfl ?_
  refine s_baload (pc' := 6) (v := (.int x0)) X1 hx hZ e1 V_b ⟨by decide, by decide⟩ rfl (hb hby own_d4_5) rfl ?_
  refine s_sipush (pc' := 9) X1.here hx (v := (255 : Int32)) (hb hby own_d4_6) rfl rfl ?_
  refine s_iand (pc' := 10) X1.here hx (hb hby own_d4_9) rfl ?_
  refine s_bipush (pc' := 12) X1.here hx (v := (8 : Int32)) (hb hby own_d4_10) rfl rfl ?_
  refine s_ishl (pc' := 13) X1.here hx (hb hby own_d4_12) rfl ?_
  refine s_aloadN (pc' := 14) X1.here hx (hb hby own_d4_13) rfl rfl rfl ?_
  refine s_getF (pc' := 17) X1 hx hZ hown (host := "") (Or.inl (hw _ (List.mem_of_getElem? (i := 15) rfl))) Via.refl e1 F_body (hb hby own_d4_14) rfl fun T2 X2 e2 => ?_
  refine s_iconst (pc' := 18) X2.here hx (v := (1 : Int32)) (hb hby own_d4_17) rfl rfl ?_
  refine s_baload (pc' := 19) (v := (.int x1)) X2 hx hZ e2 V_b ⟨by decide, by decide⟩ rfl (hb hby own_d4_18) rfl ?_
  refine s_sipush (pc' := 22) X2.here hx (v := (255 : Int32)) (hb hby own_d4_19) rfl rfl ?_
  refine s_iand (pc' := 23) X2.here hx (hb hby own_d4_22) rfl ?_
  refine s_ior (pc' := 24) X2.here hx (hb hby own_d4_23) rfl ?_
  obtain ⟨fs, hr, hrun, hended, hW, hsame⟩ := X2.leave (v := some (.int (((x0 &&& (255 : Int32)) <<< ((8 : Int32) &&& 31)) ||| (x1 &&& (255 : Int32))))) (fun h => by rw [Bd.returns] at h; cases h)
  refine ⟨_, _, retOut X2 hx Bd.returns rfl (Or.inl ⟨rfl, Or.inl rfl, _, rfl⟩) (hb hby own_d4_24) hr, hrun, hended, _, _, rfl, ?_, ⟨_, rfl⟩, hW, hsame.mono (by decide) (by decide)⟩
  show own_rm4_Q Z a b k x0 x1 x2 x3 h0 n0 _ T2.heap _
  rw [e2]
  exact ⟨rfl, N0, rfl⟩
theorem own_pd1 : parseMethodDescriptor "([BI)V" = some ⟨[(.array .byte), .int], none⟩ := by decide +kernel
theorem own_pd2 : parseMethodDescriptor "()I" = some ⟨[], some .int⟩ := by decide +kernel
theorem own_pn1 : plainName "com/example/colomen/colomen/wire/MessageTopicNameLengthPinLaw" = true := by first | (simp [plainName, overriddenIn]; done) | decide +kernel
theorem own_rm0_ef (m : MethodId) (p1 : Int32) (p2 : Int32) (p3 : Int32) : entryFrame m #[(.int p1), (.int p2), (.int p3)] maxLocals = mkF m 0 #[.val (.int p1), .val (.int p2), .val (.int p3), .unset, .unset, .unset, .unset, .unset] [] := by first | (simp [entryFrame, mkF, argsToLocals, Value.category, maxLocals]; done) | rfl
def own_rm0_Q (Z : State) (p1 : Int32) (p2 : Int32) (p3 : Int32) (h0 : Heap) (n0 : Nat) (v : Option Value) (h : Heap) (L : List Loc) : Prop := v = some (.int 1) ∧ Fr n0 L
set_option maxRecDepth 65536 in
set_option maxHeartbeats 40000000 in
theorem own_rm0 (l : Launch) (Z : State) (a0 : Array Value) (hw : ∀ d ∈ tables_1, d.before a0 Z = true) (ws : List Jvm.Cond) (p1 : Int32) (p2 : Int32) (p3 : Int32) (h0 : Heap) (n0 : Nat) (Z0 : n0 ≤ h0.size) :
    MetFree l x (head1 (Jvm.Cond.code x code maxLocals ret :: ws) room_1) (fun as_ U => as_ = #[(.int p1), (.int p2), (.int p3)] ∧ Z.Warmed39 U.vm ∧ U.heap = h0) (fun _ _ _ _ _ => True) (fun _ U o U' => ∃ v L, o = .returned v ∧ own_rm0_Q Z p1 p2 p3 h0 n0 v U'.heap L ∧ FrameEnd U o U' L room_1.cells room_1.slots) := by
  refine MetFree.of_bodySF (plainFor_of_name own_pn1) hisR ?_
  intro p e s m args below meth c s₁ Bd hml0 hP hK
  obtain ⟨rfl, hZ, hh⟩ := hP
  have hx := Bd.exec
  have hby := Bd.bytes
  have hml : c.maxLocals = 8 := hml0
  have hown : s.vm.findClass "com/example/colomen/colomen/wire/MessageTopicNameLengthPinLaw" = some m.cls := findClass_of_methodNamed Bd.named
  have hnm := (name_of_methodNamed Bd.named Bd.method).1
  have X0 : Stand p l e room_1 s m #[(.int p1), (.int p2), (.int p3)] below meth c s₁ [] 0 0 := Stand.of_body Bd
  have e0 : s₁.heap = h0 := by rw [← hh, Bd.state]; rfl
  have N0 := Fr.nil n0
  refine own_begin (own_rm0_ef m p1 p2 p3) ?_
  show Ends p.tables e below (s₁.setTop (mkF m 0 #[.val (.int p1), .val (.int p2), .val (.int p3), .unset, .unset, .unset, .unset, .unset] [])) _
  refine s_iloadN (pc' := 1) X0.here hx (hb hby at_0) rfl rfl ?_
  refine s_ldcI (pc' := 3) X0 hx hZ hown (hw _ (List.mem_of_getElem? (i := 0) rfl)) (hb hby at_1) rfl ?_
  refine s_iand (pc' := 4) X0.here hx (hb hby at_3) rfl ?_
  refine s_istoreN (pc' := 5) X0.here hx (l' := #[.val (.int p1), .val (.int p2), .val (.int p3), .val (.int (p1 &&& (65535 : Int32))), .unset, .unset, .unset, .unset]) (hb hby at_4) rfl rfl ?_
  refine s_iconst (pc' := 6) X0.here hx (v := (4 : Int32)) (hb hby at_5) rfl rfl ?_
  refine s_newP (pc' := 8) (cap := 4) X0 hx hZ (hw _ (List.mem_of_getElem? (i := 1) rfl)) e0 (hb hby at_6) (by decide) (by decide) (by decide) (by decide) (by decide) rfl fun T1 hp1 X1 e1 ka1 E1 ba gq1 A1 => ?_
  have g_ba : n0 ≤ ba := Nat.le_trans Z0 (Nat.le_of_eq gq1.symm)
  have Z2 : n0 ≤ hp1.size := Nat.le_trans Z0 E1.1
  have V3 : Arv Z hp1 ba ka1 .byte (4 : Int32) [(.int (0 : Int32)), (.int (0 : Int32)), (.int (0 : Int32)), (.int (0 : Int32))] (.int (0 : Int32)) := (Arv.new A1 (by decide)).pad (pad_rep [] (.int (0 : Int32)) 4)
  refine s_astore (pc' := 10) X1.here hx (l' := #[.val (.int p1), .val (.int p2), .val (.int p3), .val (.int (p1 &&& (65535 : Int32))), .val (.ref ba), .unset, .unset, .unset]) (hb hby at_8) rfl rfl rfl ?_
  refine s_aload (pc' := 12) X1.here hx (hb hby at_10) rfl rfl rfl ?_
  refine s_iconst (pc' := 13) X1.here hx (v := (0 : Int32)) (hb hby at_12) rfl rfl ?_
  refine s_iloadN (pc' := 14) X1.here hx (hb hby at_13) rfl rfl ?_
  refine s_bipush (pc' := 16) X1.here hx (v := (8 : Int32)) (hb hby at_14) rfl rfl ?_
  refine s_iushr (pc' := 17) X1.here hx (hb hby at_16) rfl ?_
  refine s_i2b (pc' := 18) X1.here hx (hb hby at_17) rfl ?_
  refine s_putB (pc' := 19) X1 hx hZ e1 V3 ⟨by decide, by decide⟩ 0 rfl (Nat.le_of_ble_eq_true rfl) (hb hby at_18) rfl fun T4 hp4 X4 e4 W4 Vw4 => ?_
  have V5 : Arv Z hp4 ba ka1 .byte (4 : Int32) [(.int (nar .byte ((((p1 &&& (65535 : Int32)).toUInt32 >>> ((8 : Int32) &&& 31).toUInt32).toInt32).toInt8.toInt32))), (.int (0 : Int32)), (.int (0 : Int32)), (.int (0 : Int32))] (.int (0 : Int32)) := Vw4
  have N4 := Fr.snoc X4 N0 g_ba
  have Z6 : n0 ≤ hp4.size := Nat.le_trans Z2 (Keep.of_wr W4).1
  refine s_aload (pc' := 21) X4.here hx (hb hby at_19) rfl rfl rfl ?_
  refine s_iconst (pc' := 22) X4.here hx (v := (1 : Int32)) (hb hby at_21) rfl rfl ?_
  refine s_iloadN (pc' := 23) X4.here hx (hb hby at_22) rfl rfl ?_
  refine s_sipush (pc' := 26) X4.here hx (v := (255 : Int32)) (hb hby at_23) rfl rfl ?_
  refine s_iand (pc' := 27) X4.here hx (hb hby at_26) rfl ?_
  refine s_i2b (pc' := 28) X4.here hx (hb hby at_27) rfl ?_
  refine s_putB (pc' := 29) X4 hx hZ e4 V5 ⟨by decide, by decide⟩ 1 rfl (Nat.le_of_ble_eq_true rfl) (hb hby at_28) rfl fun T7 hp7 X7 e7 W7 Vw7 => ?_
  have V8 : Arv Z hp7 ba ka1 .byte (4 : Int32) [(.int (nar .byte ((((p1 &&& (65535 : Int32)).toUInt32 >>> ((8 : Int32) &&& 31).toUInt32).toInt32).toInt8.toInt32))), (.int (nar .byte (((p1 &&& (65535 : Int32)) &&& (255 : Int32)).toInt8.toInt32))), (.int (0 : Int32)), (.int (0 : Int32))] (.int (0 : Int32)) := Vw7
  have N7 := Fr.snoc X7 N4 g_ba
  have Z9 : n0 ≤ hp7.size := Nat.le_trans Z6 (Keep.of_wr W7).1
  refine s_aload (pc' := 31) X7.here hx (hb hby at_29) rfl rfl rfl ?_
  refine s_iconst (pc' := 32) X7.here hx (v := (2 : Int32)) (hb hby at_31) rfl rfl ?_
  refine s_iloadN (pc' := 33) X7.here hx (hb hby at_32) rfl rfl ?_
  refine s_i2b (pc' := 34) X7.here hx (hb hby at_33) rfl ?_
  refine s_putB (pc' := 35) X7 hx hZ e7 V8 ⟨by decide, by decide⟩ 2 rfl (Nat.le_of_ble_eq_true rfl) (hb hby at_34) rfl fun T10 hp10 X10 e10 W10 Vw10 => ?_
  have V11 : Arv Z hp10 ba ka1 .byte (4 : Int32) [(.int (nar .byte ((((p1 &&& (65535 : Int32)).toUInt32 >>> ((8 : Int32) &&& 31).toUInt32).toInt32).toInt8.toInt32))), (.int (nar .byte (((p1 &&& (65535 : Int32)) &&& (255 : Int32)).toInt8.toInt32))), (.int (nar .byte (p2.toInt8.toInt32))), (.int (0 : Int32))] (.int (0 : Int32)) := Vw10
  have N10 := Fr.snoc X10 N7 g_ba
  have Z12 : n0 ≤ hp10.size := Nat.le_trans Z9 (Keep.of_wr W10).1
  refine s_aload (pc' := 37) X10.here hx (hb hby at_35) rfl rfl rfl ?_
  refine s_iconst (pc' := 38) X10.here hx (v := (3 : Int32)) (hb hby at_37) rfl rfl ?_
  refine s_iloadN (pc' := 39) X10.here hx (hb hby at_38) rfl rfl ?_
  refine s_bipush (pc' := 41) X10.here hx (v := (8 : Int32)) (hb hby at_39) rfl rfl ?_
  refine s_iushr (pc' := 42) X10.here hx (hb hby at_41) rfl ?_
  refine s_i2b (pc' := 43) X10.here hx (hb hby at_42) rfl ?_
  refine s_putB (pc' := 44) X10 hx hZ e10 V11 ⟨by decide, by decide⟩ 3 rfl (Nat.le_of_ble_eq_true rfl) (hb hby at_43) rfl fun T13 hp13 X13 e13 W13 Vw13 => ?_
  have V14 : Arv Z hp13 ba ka1 .byte (4 : Int32) [(.int (nar .byte ((((p1 &&& (65535 : Int32)).toUInt32 >>> ((8 : Int32) &&& 31).toUInt32).toInt32).toInt8.toInt32))), (.int (nar .byte (((p1 &&& (65535 : Int32)) &&& (255 : Int32)).toInt8.toInt32))), (.int (nar .byte (p2.toInt8.toInt32))), (.int (nar .byte (((p2.toUInt32 >>> ((8 : Int32) &&& 31).toUInt32).toInt32).toInt8.toInt32)))] (.int (0 : Int32)) := Vw13
  have N13 := Fr.snoc X13 N10 g_ba
  have Z15 : n0 ≤ hp13.size := Nat.le_trans Z12 (Keep.of_wr W13).1
  refine s_iloadN (pc' := 45) X13.here hx (hb hby at_44) rfl rfl ?_
  refine s_ldcI (pc' := 47) X13 hx hZ hown (hw _ (List.mem_of_getElem? (i := 2) rfl)) (hb hby at_45) rfl ?_
  refine s_iand (pc' := 48) X13.here hx (hb hby at_47) rfl ?_
  refine s_iconst (pc' := 49) X13.here hx (v := (3 : Int32)) (hb hby at_48) rfl rfl ?_
  refine s_irem (pc' := 50) X13 hx (hb hby at_49) (by decide) rfl ?_
  refine s_istore (pc' := 52) X13.here hx (l' := #[.val (.int p1), .val (.int p2), .val (.int p3), .val (.int (p1 &&& (65535 : Int32))), .val (.ref ba), .val (.int ((p3 &&& (2147483647 : Int32)) % (3 : Int32))), .unset, .unset]) (hb hby at_50) rfl rfl ?_
  refine s_newO (pc' := 55) X13 hx hZ hown (hw _ (List.mem_of_getElem? (i := 3) rfl)) (hw _ (List.mem_of_getElem? (i := 4) rfl)) (hw _ (List.mem_of_getElem? (i := 5) rfl)) e13 (hb hby at_52) (by decide) (by decide) rfl fun T16 hp16 X16 e16 E16 ob gq16 A16 D16 => ?_
  have g_ob : n0 ≤ ob := Nat.le_trans Z15 (Nat.le_of_eq gq16.symm)
  have ne17 : ba ≠ ob := Nat.ne_of_lt (Nat.lt_of_lt_of_le V14.lt (Nat.le_of_eq gq16.symm))
  have f18 := V14.ext E16
  have Z19 : n0 ≤ hp16.size := Nat.le_trans Z15 E16.1
  have F20 : Fld Z hp16 ob "com/example/colomen/colomen/wire/Message" "body" "[B" .null := D16 (Or.inr (hw _ (List.mem_of_getElem? (i := 16) rfl))) (ty := (.array .byte)) (by decide)
  have F21 : Fld Z hp16 ob "com/example/colomen/colomen/wire/Message" "qos" "I" (.int (0 : Int32)) := D16 (Or.inr (hw _ (List.mem_of_getElem? (i := 18) rfl))) (ty := .int) (by decide)
  have F22 : Fld Z hp16 ob "com/example/colomen/colomen/wire/Message" "retained" "Z" (.int (0 : Int32)) := D16 (Or.inr (hw _ (List.mem_of_getElem? (i := 20) rfl))) (ty := .boolean) (by decide)
  refine s_dup (pc' := 56) X16.here hx (hb hby at_55) rfl rfl ?_
  refine s_aload (pc' := 58) X16.here hx (hb hby at_56) rfl rfl rfl ?_
  refine s_iload (pc' := 60) X16.here hx (hb hby at_58) rfl rfl ?_
  refine s_callI (pc' := 63) (W := 1) X16 hx hZ  rfl hown (hw _ (List.mem_of_getElem? (i := 6) rfl)) (hw _ (List.mem_of_getElem? (i := 7) rfl)) (hw _ (List.mem_of_getElem? (i := 5) rfl)) (hw _ (List.mem_of_getElem? (i := 8) rfl)) (by decide) e16 (own_rm1 l Z a0 hw [] ob ba ((p3 &&& (2147483647 : Int32)) % (3 : Int32)) hp16 n0 Z19 F20 F21 F22 A16 g_ob) ob (by rw [hml]; rfl) [(.ref ba), (.int ((p3 &&& (2147483647 : Int32)) % (3 : Int32)))] [(.ref ob)] rfl (lenOf own_pd1 rfl) rfl (Nat.le_of_eq rfl) (by decide) (by decide) (by decide) (by decide) rfl (hb hby at_60) fun T23 v23 Lc23 X23 hQ23 => ?_
  obtain ⟨rfl, Nq23, Kq23, Eo, Fo⟩ := hQ23
  have N23 := Fr.app N13 Nq23
  have f24 := f18.keep Kq23 (ninS ne17 nin0)
  have f25 := A16.keep Kq23
  have Z26 : n0 ≤ T23.heap.size := Nat.le_trans Z19 Kq23.1
  show Ends p.tables e below (T23.setTop (mkF m 63 #[.val (.int p1), .val (.int p2), .val (.int p3), .val (.int (p1 &&& (65535 : Int32))), .val (.ref ba), .val (.int ((p3 &&& (2147483647 : Int32)) % (3 : Int32))), .unset, .unset] [(.ref ob)])) _
  refine s_astore (pc' := 65) X23.here hx (l' := #[.val (.int p1), .val (.int p2), .val (.int p3), .val (.int (p1 &&& (65535 : Int32))), .val (.ref ba), .val (.int ((p3 &&& (2147483647 : Int32)) % (3 : Int32))), .val (.ref ob), .unset]) (hb hby at_63) rfl rfl rfl ?_
  refine s_aload (pc' := 67) X23.here hx (hb hby at_65) rfl rfl rfl ?_
  refine s_callV (pc' := 70) (W := 0) X23 hx hZ  hown (hw _ (List.mem_of_getElem? (i := 21) rfl)) (hw _ (List.mem_of_getElem? (i := 22) rfl)) (hw _ (List.mem_of_getElem? (i := 5) rfl)) (hw _ (List.mem_of_getElem? (i := 25) rfl)) (hw _ (List.mem_of_getElem? (i := 24) rfl)) (hw _ (List.mem_of_getElem? (i := 23) rfl)) (by decide) rfl f25 (own_rm4 l Z a0 hw [] ob ba ka1 (nar .byte ((((p1 &&& (65535 : Int32)).toUInt32 >>> ((8 : Int32) &&& 31).toUInt32).toInt32).toInt8.toInt32)) (nar .byte (((p1 &&& (65535 : Int32)) &&& (255 : Int32)).toInt8.toInt32)) (nar .byte (p2.toInt8.toInt32)) (nar .byte (((p2.toUInt32 >>> ((8 : Int32) &&& 31).toUInt32).toInt32).toInt8.toInt32)) T23.heap n0 Z26 Fo f24) (by rw [hml]; rfl) [] [] rfl (lenOf own_pd2 rfl) rfl (Nat.le_of_eq rfl) (by decide) (by decide) (by decide) (by decide) rfl (hb hby at_67) fun T27 v27 Lc27 X27 hQ27 => ?_
  obtain ⟨rfl, Nq27, eh27⟩ := hQ27
  have N27 := Fr.app N23 Nq27
  show Ends p.tables e below (T27.setTop (mkF m 70 #[.val (.int p1), .val (.int p2), .val (.int p3), .val (.int (p1 &&& (65535 : Int32))), .val (.ref ba), .val (.int ((p3 &&& (2147483647 : Int32)) % (3 : Int32))), .val (.ref ob), .unset] [(.int ((((nar .byte ((((p1 &&& (65535 : Int32)).toUInt32 >>> ((8 : Int32) &&& 31).toUInt32).toInt32).toInt8.toInt32)) &&& (255 : Int32)) <<< ((8 : Int32) &&& 31)) ||| ((nar .byte (((p1 &&& (65535 : Int32)) &&& (255 : Int32)).toInt8.toInt32)) &&& (255 : Int32))))])) _
  rw [own_top p1 _ rfl]
  refine s_istore (pc' := 72) X27.here hx (l' := #[.val (.int p1), .val (.int p2), .val (.int p3), .val (.int (p1 &&& (65535 : Int32))), .val (.ref ba), .val (.int ((p3 &&& (2147483647 : Int32)) % (3 : Int32))), .val (.ref ob), .val (.int (p1 &&& (65535 : Int32)))]) (hb hby at_70) rfl rfl ?_
  refine s_iload (pc' := 74) X27.here hx (hb hby at_72) rfl rfl ?_
  refine s_iloadN (pc' := 75) X27.here hx (hb hby at_74) rfl rfl ?_
  have hk28 : (p1 &&& (65535 : Int32)) = (p1 &&& (65535 : Int32)) := rfl
  refine s_icmpNo (pc' := 78) X27.here hx (hb hby at_75) (teq hk28).2 rfl ?_
  have hm := c_mask p1 65535 16 (by decide) (by decide)
  have z0 : (0 : Int32).toInt = 0 := by decide
  have z1 : (65535 : Int32).toInt = 65535 := by decide
  refine s_iload (pc' := 80) X27.here hx (hb hby at_78) rfl rfl ?_
  have hk29 : ¬ ((p1 &&& (65535 : Int32)) < (0 : Int32)) := by rw [Int32.lt_iff_toInt_lt]; omega
  refine s_ifNo (pc' := 83) X27.here hx (hb hby at_80) ((if0 _ _).trans (flt hk29).1) rfl ?_
  refine s_iload (pc' := 85) X27.here hx (hb hby at_83) rfl rfl ?_
  refine s_ldcI (pc' := 87) X27 hx hZ hown (hw _ (List.mem_of_getElem? (i := 0) rfl)) (hb hby at_85) rfl ?_
  have hk30 : ¬ ((65535 : Int32) < (p1 &&& (65535 : Int32))) := by rw [Int32.lt_iff_toInt_lt]; omega
  refine s_icmpNo (pc' := 90) X27.here hx (hb hby at_87) (flt hk30).2.2.1 rfl ?_
  refine s_iconst (pc' := 91) X27.here hx (v := (1 : Int32)) (hb hby at_90) rfl rfl ?_
  refine s_goto (pc' := 95) X27.here hx (hb hby at_91) (by decide) (by decide) ?_
  obtain ⟨fs, hr, hrun, hended, hW, hsame⟩ := X27.leave (v := some (.int (1 : Int32))) (fun h => by rw [Bd.returns] at h; cases h)
  refine ⟨_, _, retN X27 hx (t := .boolean) Bd.returns (by simp) (hb hby at_95) hr, hrun, hended, _, _, rfl, ?_, ⟨_, rfl⟩, hW, hsame.mono (by decide) (by decide)⟩
  show own_rm0_Q Z p1 p2 p3 h0 n0 _ T27.heap _
  rw [eh27]
  exact ⟨rfl, N27⟩
set_option maxRecDepth 65536 in
set_option maxHeartbeats 40000000 in
theorem comes_1 {Post : Tables → Env → Array Value → State → Outcome → State → Prop} (hpost : ∀ tb e args s v u, (limb_1_1.after args s (.returned v) u = true ∧ limb_1_2.after args s (.returned v) u = true ∧ True) → FrameEnd s (.returned v) u (Jvm.fieldLocs frame_1_writes args s ++ Jvm.arrayLocs frame_1_arrays args s ++ Jvm.staticLocs frame_1_statics s) 16 128 → Post tb e args s (.returned v) u) :
    ArmFor flags0 classFile x code maxLocals ret World_1 tables_1 room_1 Calls_1 rest_1 Pre_1 Post := by
  intro l hfl _ _ p e ha hc hk s m args below hf hA hF happ hP
  obtain ⟨hcalls, hrest, hpre⟩ := hP
  obtain ⟨-, -, -, hnamed, -, -, -, hat⟩ := (Spec.applies_iff hf).mp happ
  obtain ⟨hg, hn⟩ := and_e (Cond.before_iff.mp (show (Jvm.Cond.and given_1 narrow_1).before args s = true from hpre))
  obtain ⟨gg2, gg3⟩ := and_e hg
  obtain ⟨gg4, gg5⟩ := and_e gg3
  obtain ⟨gg6, gg7⟩ := and_e gg5
  obtain ⟨w0, w1, w2, rfl⟩ : ∃ w0 w1 w2 : Value, args = #[w0, w1, w2] := by
    have hs : args.size = 3 := by simpa [Cond.value, given_1] using gg2
    obtain ⟨L⟩ := args
    match L, hs with
    | [w0, w1, w2], _ => exact ⟨w0, w1, w2, rfl⟩
  have hw := fun d (hd : d ∈ tables_1) => atoms_spec (ws := Jvm.Cond.code x code maxLocals ret :: tables_1) hat d (List.mem_cons_of_mem _ hd)
  have hfit : Fit s := fun {y c} hc i hi => by
    obtain ⟨ha, rfl⟩ := Array.getElem?_eq_some_iff.mp hc
    have q := List.all_eq_true.mp ((Array.all_eq_true_iff_forall_mem.mp hF) _ (Array.getElem_mem ha)) i (List.mem_range.mpr hi)
    simpa [Array.getElem?_eq_getElem hi] using q
  obtain ⟨i0, ei0⟩ := is_v gg4
  obtain rfl : w0 = (.int i0) := Option.some.inj ei0
  obtain ⟨i1, ei1⟩ := is_v gg6
  obtain rfl : w1 = (.int i1) := Option.some.inj ei1
  obtain ⟨i2, ei2⟩ := is_v gg7
  obtain rfl : w2 = (.int i2) := Option.some.inj ei2
  obtain ⟨n, o, h1, h2, h3, _, L, rfl, ⟨rfl, N⟩, hq⟩ := own_rm0 l s _ hw tables_1 i0 i1 i2 s.heap s.heap.size (Nat.le_refl _) p e ha hc hk s m _ below hf ((Spec.applies_iff_loose hf).mp happ).1 ⟨rfl, State.Warmed39.refl s, rfl⟩ trivial
  refine ⟨n, _, h1, h2, h3, hpost _ _ _ _ _ _ ⟨Cond.after_iff.mpr rfl, Cond.after_iff.mpr (eq_i res_at (Term.int_eval (1)) rfl), trivial⟩ ⟨hq.1, hq.2.1, (hq.2.2.sift fun y hy => Or.inr (N y hy)).mono (by decide) (by decide)⟩⟩
theorem main_1_1 : Claimed_1_1 := comes_1 fun _ _ _ _ _ _ h hF => ⟨h.1, hF⟩
theorem main_1_2 : Claimed_1_2 := comes_1 fun _ _ _ _ _ _ h hF => ⟨h.2.1, hF⟩
end Jvm.Pilot.@@N@@
namespace Jvm.Pilot.@@N@@
open Jvm Jvm.ClassFile Sem Op Lib Jvm.Free Jvm.Stand Jvm.Pilot.@@N@@.Jvm.D
/-! MADE BY PROGRAM (witnessworld.py) out of the Statement's table words and the real class files: 9 classes; the members and pool entries that the words name. The judged class is class 1, her method 1. -/
namespace start1
open Jvm.ClassFile
def u (s : String) : CpInfo := .utf8 (stringToUtf16 s)
/-- a pool by its gaps: so many unusable entries, then the entry; so many at the end -/
def gap : Nat → List CpInfo → List CpInfo
  | 0, r => r
  | n + 1, r => .unusable :: gap n r
def poolList (es : List (Nat × CpInfo)) (last : Nat) : List CpInfo := es.foldr (fun e r => gap e.1 (e.2 :: r)) (gap last [])
def pool (es : List (Nat × CpInfo)) (last : Nat) : Array CpInfo := ⟨poolList es last⟩
def fileOf (pool : Array CpInfo) (this : Nat) (attrs : Array Attribute := #[]) (ms : Array MethodInfo := #[]) (fl : Nat := 33) (sup : Nat := 0) (ifs : Array Nat := #[]) (fds : Array FieldInfo := #[]) : ClassFile where
  minorVersion := 0
  majorVersion := 65
  constantPool := pool
  accessFlags := fl
  thisClass := this
  superClass := sup
  interfaces := ifs
  fields := fds
  methods := ms
  attributes := attrs
def plain (name : String) (sup : Option ClassId) : Class where
  name := name
  kind := .ordinary
  loader := none
  accessFlags := 33
  super := sup
  interfaces := #[]
  cf := none
  fields := #[]
  methods := #[]
  instanceTypes := #[]
  staticTypes := #[]
  resolved := #[]
  callSites := []
  init := .initialized
  statics := none
  mirror := none

def pool0 : Array CpInfo := pool [(5, u "<init>"), (0, u "()V"), (1, .class_ 10), (1, u "java/lang/Object")] 113

def k0c0 : Code := { maxStack := 0, maxLocals := 1, code := object_method_1_code, exceptionTable := #[], attributes := #[] }
def k0m0 : Method := { name := "<init>", desc := "()V", sig := { parameters := [], returnType := none }, accessFlags := 1, code := some k0c0 }
/-- java/lang/Object -/
def k0 : Class := { plain "java/lang/Object" none with
  accessFlags := 33
  interfaces := #[]
  cf := some (fileOf pool0 8 #[] #[{ accessFlags := 1, nameIndex := 5, descriptorIndex := 6, attributes := #[] }] 33 0 #[] #[])
  fields := #[]
  methods := #[k0m0]
  instanceTypes := #[]
  staticTypes := #[]
  resolved := Array.replicate 124 none
  statics := none }

def pool1 : Array CpInfo := pool [(2, .class_ 4), (1, u "java/lang/Object"), (0, u "<init>"), (0, u "()V"), (0, .integer 65535), (0, .integer 2147483647), (0, .class_ 10), (0, u "com/example/colomen/colomen/wire/Message"), (0, .methodref 9 12), (0, .nameAndType 5 13), (0, u "([BI)V"), (0, .methodref 9 15), (0, .nameAndType 16 17), (0, u "topicNameLength"), (0, u "()I"), (0, .class_ 19), (0, u "com/example/colomen/colomen/wire/MessageTopicNameLengthPinLaw"), (2, u "law"), (0, u "(III)Z")] 5

def k1m0 : Method := { name := "<init>", desc := "()V", sig := { parameters := [], returnType := none }, accessFlags := 1, code := none }
def k1c1 : Code := { maxStack := 4, maxLocals := 8, code := code, exceptionTable := #[], attributes := #[] }
def k1m1 : Method := { name := "law", desc := "(III)Z", sig := { parameters := [.int, .int, .int], returnType := some .boolean }, accessFlags := 9, code := some k1c1 }
/-- com/example/colomen/colomen/wire/MessageTopicNameLengthPinLaw -/
def k1 : Class := { plain "com/example/colomen/colomen/wire/MessageTopicNameLengthPinLaw" (some 0) with
  accessFlags := 49
  interfaces := #[]
  cf := some (fileOf pool1 18 #[] #[{ accessFlags := 1, nameIndex := 5, descriptorIndex := 6, attributes := #[] }, { accessFlags := 9, nameIndex := 22, descriptorIndex := 23, attributes := #[] }] 49 2 #[] #[])
  fields := #[]
  methods := #[k1m0, k1m1]
  instanceTypes := #[]
  staticTypes := #[]
  resolved := Array.replicate 29 none
  statics := none }

def pool2 : Array CpInfo := pool [(1, .methodref 2 3), (0, .class_ 4), (0, .nameAndType 5 6), (0, u "com/example/colomen/colomen/wire/Message"), (0, u "<init>"), (0, u "([BIZ)V"), (0, .methodref 8 9), (0, .class_ 10), (0, .nameAndType 5 11), (0, u "java/lang/Object"), (0, u "()V"), (0, .fieldref 2 13), (0, .nameAndType 14 15), (0, u "body"), (0, u "[B"), (0, .fieldref 2 17), (0, .nameAndType 18 19), (0, u "qos"), (0, u "I"), (0, .fieldref 2 21), (0, .nameAndType 22 23), (0, u "retained"), (0, u "Z"), (22, u "([BI)V"), (3, u "()I"), (73, u "topicNameLength"), (0, u "MAX_COPIED_PACKET_BYTES")] 17

def k2c0 : Code := { maxStack := 4, maxLocals := 3, code := prog_50_method_1_code, exceptionTable := #[], attributes := #[] }
def k2m0 : Method := { name := "<init>", desc := "([BI)V", sig := { parameters := [(.array .byte), .int], returnType := none }, accessFlags := 1, code := some k2c0 }
def k2c1 : Code := { maxStack := 2, maxLocals := 4, code := prog_50_method_2_code, exceptionTable := #[], attributes := #[] }
def k2m1 : Method := { name := "<init>", desc := "([BIZ)V", sig := { parameters := [(.array .byte), .int, .boolean], returnType := none }, accessFlags := 2, code := some k2c1 }
def k2c2 : Code := { maxStack := 3, maxLocals := 1, code := prog_50_method_9_code, exceptionTable := #[], attributes := #[] }
def k2m2 : Method := { name := "topicNameLength", desc := "()I", sig := { parameters := [], returnType := some .int }, accessFlags := 1, code := some k2c2 }
/-- com/example/colomen/colomen/wire/Message -/
def k2 : Class := { plain "com/example/colomen/colomen/wire/Message" (some 0) with
  accessFlags := 49
  interfaces := #[]
  cf := some (fileOf pool2 2 #[] #[{ accessFlags := 1, nameIndex := 5, descriptorIndex := 46, attributes := #[] }, { accessFlags := 2, nameIndex := 5, descriptorIndex := 6, attributes := #[] }, { accessFlags := 1, nameIndex := 124, descriptorIndex := 50, attributes := #[] }] 49 8 #[] #[{ accessFlags := 25, nameIndex := 125, descriptorIndex := 19, attributes := #[] }, { accessFlags := 18, nameIndex := 14, descriptorIndex := 15, attributes := #[] }, { accessFlags := 18, nameIndex := 18, descriptorIndex := 19, attributes := #[] }, { accessFlags := 18, nameIndex := 22, descriptorIndex := 23, attributes := #[] }])
  fields := #[{ name := "MAX_COPIED_PACKET_BYTES", type := .int, accessFlags := 25, slot := 0, constantValue := 0 }, { name := "body", type := (.array .byte), accessFlags := 18, slot := 0, constantValue := 0 }, { name := "qos", type := .int, accessFlags := 18, slot := 1, constantValue := 0 }, { name := "retained", type := .boolean, accessFlags := 18, slot := 2, constantValue := 0 }]
  methods := #[k2m0, k2m1, k2m2]
  instanceTypes := #[(.array .byte), .int, .boolean]
  staticTypes := #[.int]
  resolved := Array.replicate 143 none
  statics := none }

def pool3 : Array CpInfo := pool [(1, u "java/lang/Cloneable"), (0, .class_ 1), (0, u "java/lang/Object"), (0, .class_ 3)] 3

/-- java/lang/Cloneable -/
def k3 : Class := { plain "java/lang/Cloneable" (some 0) with
  accessFlags := 1537
  interfaces := #[]
  cf := some (fileOf pool3 2 #[] #[] 1537 4 #[] #[])
  fields := #[]
  methods := #[]
  instanceTypes := #[]
  staticTypes := #[]
  resolved := Array.replicate 8 none
  statics := none }

def pool4 : Array CpInfo := pool [(1, u "java/io/Serializable"), (0, .class_ 1), (0, u "java/lang/Object"), (0, .class_ 3)] 3

/-- java/io/Serializable -/
def k4 : Class := { plain "java/io/Serializable" (some 0) with
  accessFlags := 1537
  interfaces := #[]
  cf := some (fileOf pool4 2 #[] #[] 1537 4 #[] #[])
  fields := #[]
  methods := #[]
  instanceTypes := #[]
  staticTypes := #[]
  resolved := Array.replicate 8 none
  statics := none }

/-- the primitive byte -/
def k5 : Class := { plain "byte" none with kind := .primitive 'B', accessFlags := 0x411 }
/-- [B -/
def k6 : Class := { plain "[B" (some 0) with kind := .array 5 .byte, interfaces := #[3, 4], accessFlags := 1041 }

/-- the primitive int -/
def k7 : Class := { plain "int" none with kind := .primitive 'I', accessFlags := 0x411 }
/-- [I -/
def k8 : Class := { plain "[I" (some 0) with kind := .array 7 .int, interfaces := #[3, 4], accessFlags := 1041 }

def heap : Heap := #[]
def classes : Array Class := #[k0, k1, k2, k3, k4, k5, k6, k7, k8]
def interned : List (Array UInt16 × Addr) := []
def slotsUsed : Nat := 0
def theMethod : MethodId := ⟨1, 1⟩
def args0 : Array Value := #[.int 5, .int 7, .int 1]
def aboutOver (below : List Frame) : State where
  vm := { classes := classes, interned := interned.toArray }
  heap := heap
  slotsUsed := slotsUsed
  threads := #[{ frames := .invoking theMethod args0 :: below }]
def below0 : List Frame := [.native { method := ⟨0, 0⟩, args := #[] }]
def about1 : State := aboutOver below0
def p0 : Program := .bare "" "" ""
def e0 : Env := launch0.env 0 0 0
theorem w_frames : about1.frames = Frame.invoking theMethod args0 :: below0 := rfl
set_option maxRecDepth 65536 in
theorem w_args : argsFit about1.vm theMethod args0 = true := by decide +kernel
set_option maxRecDepth 65536 in
theorem w_heap : heapFits about1 = true := by decide +kernel
set_option maxRecDepth 65536 in
theorem w_runnable : about1.curStatus? = some .runnable := by decide +kernel
set_option maxRecDepth 65536 in
theorem w_alone : about1.alone = true := by decide +kernel
set_option maxRecDepth 65536 in
theorem w_named : about1.methodNamed? x = some theMethod := by decide +kernel
set_option maxRecDepth 65536 in
theorem w_hears : about1.hears theMethod below0 = true := by decide +kernel
set_option maxRecDepth 65536 in
theorem w_ripe : about1.ripe theMethod args0 below0 = true := by decide +kernel
theorem w_running : about1.status = .running := rfl
set_option maxRecDepth 65536 in
theorem w_room : about1.hasRoom e0.platform room_1 = true :=
  launch0.hasRoom_least _ room_1 (by decide +kernel) (by decide +kernel) (by decide +kernel) (by decide +kernel) (by decide +kernel) (by decide +kernel)
theorem allAtoms_all (ts : List Jvm.Cond) (a : Array Jvm.Value) (st : Jvm.State) : (allAtoms ts).before a st = ts.all (fun c => c.before a st) := by
  induction ts with
  | nil => rfl
  | cons c t ih =>
    show (Jvm.Cond.and c (allAtoms t)).before a st = _
    rw [Jvm.Cond.before_and, ih, List.all_cons]
def words1 : List Jvm.Cond := Jvm.Cond.code x code maxLocals ret :: tables_1
/-- a 'code' word, met by the world's own term for the bytes: nothing is compared byte by byte -/
theorem code_word {y : MethodName} {bytes : ByteArray} {mx : Nat} {rt : Option FieldType} {a : Array Value} {s : State} {m : MethodId} {meth : Method} {c : Code} (h1 : s.methodNamed? y = some m) (h2 : s.vm.method? m = some meth) (h3 : meth.code = some c) (h4 : c.code = bytes)
    (h5 : (c.maxLocals == mx && c.exceptionTable.isEmpty && decide (c.maxStack ≤ mostOperands) && decide (meth.sig.returnType = rt) && !meth.locks && decide (parseMethodDescriptor y.desc = some meth.sig)) = true) : (Jvm.Cond.code y bytes mx rt).before a s = true := by
  simp only [Bool.and_eq_true, beq_iff_eq, Bool.not_eq_true', decide_eq_true_eq] at h5
  obtain ⟨⟨⟨⟨⟨g1, g2⟩, g3⟩, g4⟩, g5⟩, g6⟩ := h5
  simp [Cond.before, Cond.holds, Cond.value, h1, h2, h3, h4, g1, g2, g3, g4, g5, g6]
def isCode : Jvm.Cond → Bool
  | .code _ _ _ _ => true
  | _ => false
theorem all_split {L : List Jvm.Cond} {P : Jvm.Cond → Bool} (h1 : L.all (fun c => isCode c || P c) = true) (h2 : ∀ c ∈ L.filter isCode, P c = true) : L.all P = true := by
  refine List.all_eq_true.mpr fun c hc => ?_
  have h := List.all_eq_true.mp h1 c hc
  rcases Bool.eq_false_or_eq_true (isCode c) with hi | hi
  · exact h2 c (List.mem_filter.mpr ⟨hc, hi⟩)
  · simpa [hi] using h
set_option maxRecDepth 65536 in
theorem w_c0 : (Jvm.Cond.code x code maxLocals ret).before args0 about1 = true := code_word (m := ⟨1, 1⟩) (meth := k1m1) (c := k1c1) (by decide +kernel) rfl rfl rfl (by decide +kernel)
set_option maxRecDepth 65536 in
theorem w_c1 : (Jvm.Cond.code ({ cls := "com/example/colomen/colomen/wire/Message", name := "<init>", desc := "([BI)V" } : Jvm.MethodName) prog_50_method_1_code (3 : Nat) (Option.none : Option Jvm.ClassFile.FieldType)).before args0 about1 = true := code_word (m := ⟨2, 0⟩) (meth := k2m0) (c := k2c0) (by decide +kernel) rfl rfl rfl (by decide +kernel)
set_option maxRecDepth 65536 in
theorem w_c2 : (Jvm.Cond.code ({ cls := "com/example/colomen/colomen/wire/Message", name := "<init>", desc := "([BIZ)V" } : Jvm.MethodName) prog_50_method_2_code (4 : Nat) (Option.none : Option Jvm.ClassFile.FieldType)).before args0 about1 = true := code_word (m := ⟨2, 1⟩) (meth := k2m1) (c := k2c1) (by decide +kernel) rfl rfl rfl (by decide +kernel)
set_option maxRecDepth 65536 in
theorem w_c3 : (Jvm.Cond.code ({ cls := "java/lang/Object", name := "<init>", desc := "()V" } : Jvm.MethodName) object_method_1_code (1 : Nat) (Option.none : Option Jvm.ClassFile.FieldType)).before args0 about1 = true := code_word (m := ⟨0, 0⟩) (meth := k0m0) (c := k0c0) (by decide +kernel) rfl rfl rfl (by decide +kernel)
set_option maxRecDepth 65536 in
theorem w_c4 : (Jvm.Cond.code ({ cls := "com/example/colomen/colomen/wire/Message", name := "topicNameLength", desc := "()I" } : Jvm.MethodName) prog_50_method_9_code (1 : Nat) (Option.some Jvm.ClassFile.FieldType.int)).before args0 about1 = true := code_word (m := ⟨2, 2⟩) (meth := k2m2) (c := k2c2) (by decide +kernel) rfl rfl rfl (by decide +kernel)
def codes1 : List Jvm.Cond := [Jvm.Cond.code x code maxLocals ret, Jvm.Cond.code ({ cls := "com/example/colomen/colomen/wire/Message", name := "<init>", desc := "([BI)V" } : Jvm.MethodName) prog_50_method_1_code (3 : Nat) (Option.none : Option Jvm.ClassFile.FieldType), Jvm.Cond.code ({ cls := "com/example/colomen/colomen/wire/Message", name := "<init>", desc := "([BIZ)V" } : Jvm.MethodName) prog_50_method_2_code (4 : Nat) (Option.none : Option Jvm.ClassFile.FieldType), Jvm.Cond.code ({ cls := "java/lang/Object", name := "<init>", desc := "()V" } : Jvm.MethodName) object_method_1_code (1 : Nat) (Option.none : Option Jvm.ClassFile.FieldType), Jvm.Cond.code ({ cls := "com/example/colomen/colomen/wire/Message", name := "topicNameLength", desc := "()I" } : Jvm.MethodName) prog_50_method_9_code (1 : Nat) (Option.some Jvm.ClassFile.FieldType.int)]
set_option maxRecDepth 65536 in
theorem codes_eq : words1.filter isCode = codes1 := rfl
theorem w_codes : ∀ c ∈ words1.filter isCode, c.before args0 about1 = true := by
  rw [codes_eq]
  intro c hc
  simp only [codes1, List.mem_cons, List.not_mem_nil, or_false] at hc
  rcases hc with rfl | rfl | rfl | rfl | rfl
  · exact w_c0
  · exact w_c1
  · exact w_c2
  · exact w_c3
  · exact w_c4
set_option maxRecDepth 65536 in
theorem w_t1 : (words1.take 24).all (fun c => isCode c || c.before args0 about1) = true := by decide +kernel
set_option maxRecDepth 65536 in
theorem w_t2 : (words1.drop 24).all (fun c => isCode c || c.before args0 about1) = true := by decide +kernel
theorem w_tables : (allAtoms (Jvm.Cond.code x code maxLocals ret :: tables_1)).before args0 about1 = true := by
  rw [allAtoms_all]
  show words1.all (fun c => c.before args0 about1) = true
  refine all_split ?_ w_codes
  rw [← List.take_append_drop 24 words1, List.all_append, w_t1, w_t2]
  rfl
set_option maxRecDepth 65536 in
theorem w_case : (Jvm.Cond.and given_1 narrow_1).before args0 about1 = true := by decide +kernel
theorem w_applies : (headSpec (Jvm.Cond.code x code maxLocals ret :: tables_1) room_1).applies x e0.platform about1 = true :=
  (Spec.applies_iff w_frames).mpr ⟨w_running, w_runnable, w_alone, w_named, w_hears, w_ripe, w_room, w_tables⟩
theorem atStart : AtStart classFile x code maxLocals ret World_1 tables_1 room_1 Calls_1 rest_1 Pre_1 launch0 p0 e0 about1 theMethod args0 below0 :=
  ⟨lists_1, trivial, launch0.admits_env _ _ _, launch0.least_env, fairChoices_fair.cas, fairChoices_fair.clock, w_frames, w_args, w_heap, w_applies, trivial, trivial, w_case⟩
end start1
theorem witness_1 : WitnessClaimed_1 := ⟨start1.p0, start1.e0, start1.about1, start1.theMethod, start1.args0, start1.below0, start1.atStart⟩
end Jvm.Pilot.@@N@@
